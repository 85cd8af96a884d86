import JvmDerived
import JvmDerived.Pilot.@@N@@Statement
import JvmDerived.Pilot.@@N@@Code
set_option linter.unusedVariables false
set_option linter.unusedSimpArgs false
namespace Jvm.RoadKit
open Sem ClassFile Op Lib Jvm.Stand Jvm.Free Jvm.LawKit
section New
variable {p : Program} {l : Launch} {e : Env} {R : Room} {s : State} {m : MethodId} {args : Array Value} {below : List Frame} {meth : Method} {c : Code} {T : State} {locs : List Loc} {cells slots : Nat}
theorem retI (X : Stand p l e R s m args below meth c T locs cells slots) (hx : p.tables.exec = Jvm.exec) {pc : Nat} {Ls : Array Slot} {z : Int32} {rest : List Value} (hret : meth.sig.returnType = some .int) (hd : decode c.code pc = .ok (.ireturn, 1)) {fs : List Frame}
    (hl : ∀ (f : JFrame) (acts : List Action), f.method = m → f.locked = none → f.entered = [] → (doReturn e (T.setTop f) acts (some (.int z))).1 = T.setFrames fs) : Steps p.tables e below (T.setTop (mkF m pc Ls (.int z :: rest))) (T.setFrames fs) := by
  have hm' : T.vm.method? m = some meth := X.method'
  have hn : narrow .int (.int z) = .int z := rfl
  show Steps p.tables e below (T.setTop { method := m, pc := pc, locals := Ls, stack := _ :: rest, locked := none }) _
  jvm_step X.here [X.here.top, hx, hd, hm', hret, hn]
  first | (intro acts; rw [hl _ acts rfl rfl rfl]) | rw [hl _ _ rfl rfl rfl]
  exact Steps.refl _
end New
end Jvm.RoadKit
namespace Jvm.Pilot.@@N@@
open Jvm Jvm.ClassFile Sem Op Lib Jvm.Free Jvm.Stand Jvm.LawKit Jvm.RoadKit Bundle Jvm.Pilot.@@N@@.Jvm.D
section OwnLayer
variable {p : Program} {l : Launch} {e : Env} {R : Room} {s : State} {m : MethodId} {args : Array Value} {below : List Frame} {meth : Method} {c : Code} {Z : State} {a0 : Array Value} {EL : List (String × Nat)} {n0 : Nat} {kn wd : Bool} {own : String} {bytes : ByteArray} {ml : Nat} {ws : List Addr} {T : State} {h : Heap} {k n : Nat} {Φ : Outcome → State → Prop} {pc pc' : Nat} {Ls : Array Slot} {st rest : List Value}
theorem known_vm {vm0 : Vm} (hW : s.Warmed39 vm0) (q : s.vm.MethodsKnown ∧ s.vm.FramesKnown below) : vm0.MethodsKnown ∧ vm0.FramesKnown below := ⟨Vm.MethodsKnown.alikeC hW.alike q.1, Vm.FramesKnown.alikeC hW.alike q.2⟩
/-- where a walk stands: all that its steps ask -/
def Wk (p : Program) (l : Launch) (e : Env) (R : Room) (s : State) (m : MethodId) (args : Array Value) (below : List Frame) (meth : Method) (c : Code) (Z : State) (a0 : Array Value) (EL : List (String × Nat)) (n0 : Nat) (kn wd : Bool) (own : String) (bytes : ByteArray) (ml : Nat) (ws : List Addr) (T : State) (h : Heap) (k n : Nat) : Prop :=
  (p.tables.exec = Jvm.exec ∧ c.code = bytes ∧ c.maxLocals = ml ∧ Z.vm.findClass own = some m.cls ∧ EW Z a0 EL ∧ meth.locks = false ∧ (kn = true → s.vm.MethodsKnown ∧ s.vm.FramesKnown below)) ∧
  ∃ (vm0 : Vm) (k0 : Nat) (locs : List Loc), Stand p l e R (s.setVm vm0) m args below meth c T locs k n ∧ T.heap = h ∧ s.Since vm0 k0 ∧ k0 ≤ h.size ∧ Z.Warmed39 vm0 ∧ CHr Z EL s.vm s.heap vm0 h ∧ (∀ x ∈ ws, x < h.size ∧ Safe Z EL vm0 h x) ∧ Fr n0 locs ∧ (wd = false → s.WarmedH vm0) ∧ Old Z n0 h
/-- from this frame the method comes to its end, and Φ holds there -/
def Go (p : Program) (e : Env) (below : List Frame) (Φ : Outcome → State → Prop) (T : State) (f : JFrame) : Prop := ∃ s₂ o, Steps p.tables e below (T.setTop f) s₂ ∧ s₂.status = .running ∧ Ended s₂ below o ∧ Φ o s₂
/-- what a contract promises -/
def Po (s : State) (Z : State) (EL : List (String × Nat)) (n0 : Nat) (wd : Bool) (rc rs : Nat) (Q : Option Value → Heap → Prop) (o : Outcome) (t : State) : Prop :=
  ∃ v L, o = .returned v ∧ Q v t.heap ∧ Fr n0 L ∧ CHr Z EL s.vm s.heap t.vm t.heap ∧ (wd = false → s.WarmedH t.vm) ∧ Old Z n0 t.heap ∧ ReturnedEndW s o t L rc rs
/-- a contract: the method y, called with these arguments at this heap -/
def Ct (l : Launch) (Z : State) (a0 : Array Value) (EL : List (String × Nat)) (n0 : Nat) (kn wd : Bool) (y : MethodName) (bytes : ByteArray) (ml : Nat) (ret : Option FieldType) (cs : List Jvm.Cond) (rm : Room) (ws : List Addr) (as' : Array Value) (h : Heap) (Q : Option Value → Heap → Prop) : Prop :=
  MetFree l y (head1 (Jvm.Cond.code y bytes ml ret :: cs) rm) (fun a U => a = as' ∧ Z.Warmed39 U.vm ∧ U.heap = h ∧ CHv Z EL U.vm h ∧ Old Z n0 h ∧ ∀ x ∈ ws, x < h.size ∧ Safe Z EL U.vm h x) (fun _ _ bl s _ => kn = true → s.vm.MethodsKnown ∧ s.vm.FramesKnown bl) (fun _ U o U' => Po U Z EL n0 wd rm.cells rm.slots Q o U')
theorem Go.back {f f' : JFrame} {T' : State} (hs : ∀ t, Steps p.tables e below (T'.setTop f') t → Steps p.tables e below (T.setTop f) t) (G : Go p e below Φ T' f') : Go p e below Φ T f := by
  obtain ⟨s₂, o, h1, h2⟩ := G
  exact ⟨s₂, o, hs _ h1, h2⟩
/-- a plain step -/
theorem g1 {f f' : JFrame} (W : Wk p l e R s m args below meth c Z a0 EL n0 kn wd own bytes ml ws T h k n) (hs : ∀ t, At T m c below → p.tables.exec = Jvm.exec → c.code = bytes → Steps p.tables e below (T.setTop f') t → Steps p.tables e below (T.setTop f) t) (G : Go p e below Φ T f') : Go p e below Φ T f := by
  obtain ⟨⟨hx, hb, -⟩, vm0, k0, locs, X, -⟩ := W
  exact G.back fun t => hs t X.here hx hb
/-- a step that reads the heap -/
theorem g2 {f f' : JFrame} (W : Wk p l e R s m args below meth c Z a0 EL n0 kn wd own bytes ml ws T h k n) (hs : ∀ (vm0 : Vm) (locs : List Loc), Stand p l e R (s.setVm vm0) m args below meth c T locs k n → p.tables.exec = Jvm.exec → c.code = bytes → Z.Warmed39 vm0 → T.heap = h → vm0.findClass own = some m.cls → ∀ t, Steps p.tables e below (T.setTop f') t → Steps p.tables e below (T.setTop f) t) (G : Go p e below Φ T f') : Go p e below Φ T f := by
  obtain ⟨⟨hx, hb, -, hO, -⟩, vm0, k0, locs, X, eT, -, -, hZ, -⟩ := W
  exact G.back (hs vm0 locs X hx hb hZ eT ((hZ.alike.findClass own _).trans hO))
/-- a step after which the state is another, the heap the same -/
theorem g3 {f f' : JFrame} (W : Wk p l e R s m args below meth c Z a0 EL n0 kn wd own bytes ml ws T h k n) (hs : ∀ (vm0 : Vm) (locs : List Loc), Stand p l e R (s.setVm vm0) m args below meth c T locs k n → p.tables.exec = Jvm.exec → c.code = bytes → c.maxLocals = ml → Z.Warmed39 vm0 → T.heap = h → vm0.findClass own = some m.cls → ∃ T', Stand p l e R (s.setVm vm0) m args below meth c T' locs k n ∧ T'.heap = h ∧ ∀ t, Steps p.tables e below (T'.setTop f') t → Steps p.tables e below (T.setTop f) t)
    (G : ∀ T', Wk p l e R s m args below meth c Z a0 EL n0 kn wd own bytes ml ws T' h k n → Go p e below Φ T' f') : Go p e below Φ T f := by
  obtain ⟨⟨hx, hb, hml, hO, hrest⟩, vm0, k0, locs, X, eT, hS, hk, hZ, hr⟩ := W
  obtain ⟨T', X', e', q⟩ := hs vm0 locs X hx hb hml hZ eT ((hZ.alike.findClass own _).trans hO)
  exact (G T' ⟨⟨hx, hb, hml, hO, hrest⟩, vm0, k0, locs, X', e', hS, hk, hZ, hr⟩).back q
/-- the object may be written: it is no booked constant's -/
def Sf (Z : State) (EL : List (String × Nat)) (ws : List Addr) (h : Heap) (a : Addr) : Prop := a ∈ ws ∨ EL = [] ∨ (∃ C, Exa Z h a C ∧ C ≠ "java/lang/String" ∧ C ≠ "[B") ∨ (∃ cl ty, Arr Z h a cl ty ∧ ty ≠ .byte)
theorem Sf.safe {a : Addr} {vm0 : Vm} (hZ : Z.Warmed39 vm0) (hs : ∀ x ∈ ws, x < h.size ∧ Safe Z EL vm0 h x) (q : Sf Z EL ws h a) : Safe Z EL vm0 h a := by
  rcases q with q | rfl | ⟨C, E, h1, h2⟩ | ⟨cl, ty, A, ht⟩
  · exact (hs a q).2
  · intro B
    obtain ⟨p, hp, -⟩ := B
    cases hp
  · exact Safe.exa hZ.alike E h1 h2
  · exact Safe.arr hZ.alike A ht
/-- a step that writes one place -/
theorem g4 {f f' : JFrame} {a : Addr} {sl : Nat} {v : Value} (W : Wk p l e R s m args below meth c Z a0 EL n0 kn wd own bytes ml ws T h k n) (hn : n0 ≤ a) (hsf : Sf Z EL ws h a)
    (hs : ∀ (vm0 : Vm) (locs : List Loc), Stand p l e R (s.setVm vm0) m args below meth c T locs k n → p.tables.exec = Jvm.exec → c.code = bytes → Z.Warmed39 vm0 → T.heap = h → vm0.findClass own = some m.cls → ∃ T' h', Stand p l e R (s.setVm vm0) m args below meth c T' (locs ++ [⟨a, sl⟩]) k n ∧ T'.heap = h' ∧ Wr h h' a sl v ∧ ∀ t, Steps p.tables e below (T'.setTop f') t → Steps p.tables e below (T.setTop f) t)
    (G : ∀ T' h', Wk p l e R s m args below meth c Z a0 EL n0 kn wd own bytes ml ws T' h' k n → Wr h h' a sl v → Go p e below Φ T' f') : Go p e below Φ T f := by
  obtain ⟨⟨hx, hb, hml, hO, hrest⟩, vm0, k0, locs, X, eT, hS, hk, hZ, hC, hws, hF, hwd, hOl⟩ := W
  obtain ⟨T', h', X', e', Wr', q⟩ := hs vm0 locs X hx hb hZ eT ((hZ.alike.findClass own _).trans hO)
  have sa := hsf.safe hZ hws
  exact (G T' h' ⟨⟨hx, hb, hml, hO, hrest⟩, vm0, k0, _, X', e', hS, by rw [Wr'.size]; exact hk, hZ, hC.trans (CHr.wr Wr' sa hC.1), fun x hx' => ⟨by rw [Wr'.size]; exact (hws x hx').1, Safe.wr Wr' sa hC.1 (hws x hx').2⟩, Fr.snoc X' hF hn, hwd, hOl.wr Wr' hn⟩ Wr').back q
/-- a step that makes one cell -/
theorem g5 {f : JFrame} {f' : Addr → JFrame} {nc : Nat} {P : Heap → Addr → Prop} (W : Wk p l e R s m args below meth c Z a0 EL n0 kn wd own bytes ml ws T h k n) (hlt : ∀ h', P h' h.size → h.size < h'.size)
    (hs : ∀ (vm0 : Vm) (locs : List Loc), Stand p l e R (s.setVm vm0) m args below meth c T locs k n → p.tables.exec = Jvm.exec → c.code = bytes → Z.Warmed39 vm0 → T.heap = h → vm0.findClass own = some m.cls → ∃ T' h', Stand p l e R (s.setVm vm0) m args below meth c T' locs (k + 1) (n + nc) ∧ T'.heap = h' ∧ Ext h h' ∧ P h' h.size ∧ ∀ t, Steps p.tables e below (T'.setTop (f' h.size)) t → Steps p.tables e below (T.setTop f) t)
    (G : ∀ T' h' a, a = h.size → Wk p l e R s m args below meth c Z a0 EL n0 kn wd own bytes ml (a :: ws) T' h' (k + 1) (n + nc) → Ext h h' → P h' a → Go p e below Φ T' (f' a)) : Go p e below Φ T f := by
  obtain ⟨⟨hx, hb, hml, hO, hrest⟩, vm0, k0, locs, X, eT, hS, hk, hZ, hC, hws, hF, hwd, hOl⟩ := W
  obtain ⟨T', h', X', e', E, P', q⟩ := hs vm0 locs X hx hb hZ eT ((hZ.alike.findClass own _).trans hO)
  refine (G T' h' h.size rfl ⟨⟨hx, hb, hml, hO, hrest⟩, vm0, k0, _, X', e', hS, Nat.le_trans hk E.1, hZ, hC.trans (CHr.ext E hC.1), fun x hx' => ?_, hF, hwd, hOl.ext E⟩ E P').back q
  rcases List.mem_cons.mp hx' with rfl | hx'
  · exact ⟨hlt h' P', Safe.ext E hC.1 (Safe.new (Nat.le_refl _))⟩
  · exact ⟨Nat.lt_of_lt_of_le (hws x hx').1 E.1, Safe.ext E hC.1 (hws x hx').2⟩
theorem Wk.size0 (W : Wk p l e R s m args below meth c Z a0 EL n0 kn wd own bytes ml ws T h k n) : s.heap.size ≤ h.size := by
  obtain ⟨-, vm0, k0, locs, X, eT, hS, hk, hZ, hC, -⟩ := W
  exact hC.2.1
theorem Wk.old (W : Wk p l e R s m args below meth c Z a0 EL n0 kn wd own bytes ml ws T h k n) : Old Z n0 h := by
  obtain ⟨-, vm0, k0, locs, X, eT, hS, hk, hZ, hC, hws, hF, hwd, hOl⟩ := W
  exact hOl
theorem Wk.lt {a : Addr} (W : Wk p l e R s m args below meth c Z a0 EL n0 kn wd own bytes ml ws T h k n) (q : a ∈ ws) : a < h.size := by
  obtain ⟨-, vm0, k0, locs, X, eT, hS, hk, hZ, hC, hws, -⟩ := W
  exact (hws a q).1
theorem Wk.n0le (W : Wk p l e R s m args below meth c Z a0 EL n0 kn wd own bytes ml ws T h k n) : n0 ≤ h.size := W.old.1 ▸ W.old.2.1
theorem Wk.less {ws' : List Addr} (W : Wk p l e R s m args below meth c Z a0 EL n0 kn wd own bytes ml ws T h k n) (hq : ∀ x ∈ ws', x ∈ ws) : Wk p l e R s m args below meth c Z a0 EL n0 kn wd own bytes ml ws' T h k n := by
  obtain ⟨h1, vm0, k0, locs, X, eT, hS, hk, hZ, hC, hws, hF, hwd⟩ := W
  exact ⟨h1, vm0, k0, locs, X, eT, hS, hk, hZ, hC, fun x hx => hws x (hq x hx), hF, hwd⟩
theorem Wk.up {k' n' : Nat} (W : Wk p l e R s m args below meth c Z a0 EL n0 kn wd own bytes ml ws T h k n) (hk' : k ≤ k') (hn' : n ≤ n') : Wk p l e R s m args below meth c Z a0 EL n0 kn wd own bytes ml ws T h k' n' := by
  obtain ⟨h1, vm0, k0, locs, X, r⟩ := W
  exact ⟨h1, vm0, k0, locs, X.more hk' hn', r⟩
/-- getfield -/
theorem gGetF {R0 O nm d host : String} {index : Nat} {a : Addr} {v : Value} (W : Wk p l e R s m args below meth c Z a0 EL n0 kn wd own bytes ml ws T h k n) (w : (Jvm.Cond.fieldLink own index R0 nm d).before a0 Z = true ∨ (Jvm.Cond.fieldLinkNest own index R0 nm d host).before a0 Z = true) (via : Via Z R0 O nm d) (F : Fld Z h a O nm d v)
    (hd : decode bytes pc = .ok (.getfield index, 3)) (hp : pc + 3 = pc') (G : ∀ T', Wk p l e R s m args below meth c Z a0 EL n0 kn wd own bytes ml ws T' h k n → Go p e below Φ T' (mkF m pc' Ls (v :: rest))) : Go p e below Φ T (mkF m pc Ls (.ref a :: rest)) := by
  subst hp
  exact g3 W (fun vm0 locs X hx hb' _ hZ eT hO => getF X hx hZ hO w via eT F (g := mkF m pc Ls (.ref a :: rest)) rfl rfl (hb hb' hd)) G
/-- getstatic -/
theorem gGetS {R0 O nm d host : String} {index : Nat} {v : Value} (W : Wk p l e R s m args below meth c Z a0 EL n0 kn wd own bytes ml ws T h k n) (w : (Jvm.Cond.fieldLink own index R0 nm d).before a0 Z = true ∨ (Jvm.Cond.fieldLinkNest own index R0 nm d host).before a0 Z = true) (via : Via Z R0 O nm d) (F : Sta Z h O nm d v)
    (hd : decode bytes pc = .ok (.getstatic index, 3)) (hp : pc + 3 = pc') (G : ∀ T', Wk p l e R s m args below meth c Z a0 EL n0 kn wd own bytes ml ws T' h k n → Go p e below Φ T' (mkF m pc' Ls (v :: st))) : Go p e below Φ T (mkF m pc Ls st) := by
  subst hp
  exact g3 W (fun vm0 locs X hx hb' _ hZ eT hO => getS2 X hx hZ hO w via eT F (g := mkF m pc Ls st) rfl (hb hb' hd)) G
/-- checkcast of an object -/
theorem gCast {K : String} {index : Nat} {a : Addr} (W : Wk p l e R s m args below meth c Z a0 EL n0 kn wd own bytes ml ws T h k n) (w : (Jvm.Cond.classLink own index K).before a0 Z = true) (F : Ins Z h a K true)
    (hd : decode bytes pc = .ok (.checkcast index, 3)) (hp : pc + 3 = pc') (G : ∀ T', Wk p l e R s m args below meth c Z a0 EL n0 kn wd own bytes ml ws T' h k n → Go p e below Φ T' (mkF m pc' Ls (.ref a :: rest))) : Go p e below Φ T (mkF m pc Ls (.ref a :: rest)) := by
  subst hp
  exact g3 W (fun vm0 locs X hx hb' _ hZ eT hO => castY X hx hZ hO w eT F (g := mkF m pc Ls (.ref a :: rest)) rfl rfl (hb hb' hd)) G
/-- instanceof, yes -/
theorem gInsY {K : String} {index : Nat} {a : Addr} (W : Wk p l e R s m args below meth c Z a0 EL n0 kn wd own bytes ml ws T h k n) (w : (Jvm.Cond.classLink own index K).before a0 Z = true) (F : Ins Z h a K true)
    (hd : decode bytes pc = .ok (.instanceof index, 3)) (hp : pc + 3 = pc') (G : ∀ T', Wk p l e R s m args below meth c Z a0 EL n0 kn wd own bytes ml ws T' h k n → Go p e below Φ T' (mkF m pc' Ls (.int 1 :: rest))) : Go p e below Φ T (mkF m pc Ls (.ref a :: rest)) := by
  subst hp
  exact g3 W (fun vm0 locs X hx hb' _ hZ eT hO => instY X hx hZ hO w eT F (g := mkF m pc Ls (.ref a :: rest)) rfl rfl (hb hb' hd)) G
/-- putfield -/
theorem gPutF {R0 O nm d host C : String} {index kk : Nat} {ty : FieldType} {a : Addr} {v old : Value} (W : Wk p l e R s m args below meth c Z a0 EL n0 kn wd own bytes ml ws T h k n) (hn : n0 ≤ a) (hsf : Sf Z EL ws h a) (w : (Jvm.Cond.fieldLink own index R0 nm d).before a0 Z = true ∨ (Jvm.Cond.fieldLinkNest own index R0 nm d host).before a0 Z = true) (via : Via Z R0 O nm d) (F : Fld Z h a O nm d old) (E : Exa Z h a C)
    (L : (Jvm.Cond.lays C O nm d).before a0 Z = true ∨ ((Jvm.Cond.laysFinal C O nm d).before a0 Z = true ∧ own = O ∧ meth.name = "<init>")) (wi : (Jvm.Cond.instantiable C kk).before a0 Z = true) (hty : parseFieldDescriptor d = some ty) (hnr : narrow ty v = v) (hf : fits ty v = true)
    (hd : decode bytes pc = .ok (.putfield index, 3)) (hp : pc + 3 = pc') (G : ∀ T' h', Wk p l e R s m args below meth c Z a0 EL n0 kn wd own bytes ml ws T' h' k n → Wr h h' a (Jvm.RoadKit.slotOf Z O nm d) v → Go p e below Φ T' (mkF m pc' Ls rest)) : Go p e below Φ T (mkF m pc Ls (v :: .ref a :: rest)) := by
  subst hp
  exact g4 W hn hsf (fun vm0 locs X hx hb' hZ eT hO => putF X hx hZ hO w via eT F E L wi hty hnr hf (g := mkF m pc Ls (v :: .ref a :: rest)) rfl rfl (hb hb' hd)) G
theorem gPutFN {R0 O nm d C : String} {index kk : Nat} {ty : FieldType} {a : Addr} {v v' old : Value} (W : Wk p l e R s m args below meth c Z a0 EL n0 kn wd own bytes ml ws T h k n) (hn : n0 ≤ a) (hsf : Sf Z EL ws h a) (w : (Jvm.Cond.fieldLink own index R0 nm d).before a0 Z = true) (via : Via Z R0 O nm d) (F : Fld Z h a O nm d old) (E : Exa Z h a C)
    (L : (Jvm.Cond.lays C O nm d).before a0 Z = true ∨ ((Jvm.Cond.laysFinal C O nm d).before a0 Z = true ∧ own = O ∧ meth.name = "<init>")) (wi : (Jvm.Cond.instantiable C kk).before a0 Z = true) (hty : parseFieldDescriptor d = some ty) (hnr : narrow ty v = v') (hf : fits ty v' = true)
    (hd : decode bytes pc = .ok (.putfield index, 3)) (hp : pc + 3 = pc') (G : ∀ T' h', Wk p l e R s m args below meth c Z a0 EL n0 kn wd own bytes ml ws T' h' k n → Wr h h' a (Jvm.RoadKit.slotOf Z O nm d) v' → Go p e below Φ T' (mkF m pc' Ls rest)) : Go p e below Φ T (mkF m pc Ls (v :: .ref a :: rest)) := by
  subst hp
  exact g4 W hn hsf (fun vm0 locs X hx hb' hZ eT hO => putFN X hx hZ hO w via eT F E L wi hty hnr hf (g := mkF m pc Ls (v :: .ref a :: rest)) rfl rfl (hb hb' hd)) G
/-- new -/
theorem gNew {C : String} {index nc : Nat} (W : Wk p l e R s m args below meth c Z a0 EL n0 kn wd own bytes ml ws T h k n) (w : (Jvm.Cond.classLink own index C).before a0 Z = true) (wi : (Jvm.Cond.instantiable C nc).before a0 Z = true) (wz : (Jvm.Cond.initialized C).before a0 Z = true)
    (hd : decode bytes pc = .ok (.new index, 3)) (hp : pc + 3 = pc') (hc : k + 1 ≤ R.cells) (hl : n + nc ≤ R.slots)
    (G : ∀ T' h' a, a = h.size → Wk p l e R s m args below meth c Z a0 EL n0 kn wd own bytes ml (a :: ws) T' h' (k + 1) (n + nc) → Ext h h' → (Exa Z h' a C ∧ (∀ {O nm d : String} {ty : FieldType}, Laid Z a0 C O nm d → parseFieldDescriptor d = some ty → Fld Z h' a O nm d (defaultValue ty)) ∧ Unt h' a) → Go p e below Φ T' (mkF m pc' Ls (.ref a :: st))) : Go p e below Φ T (mkF m pc Ls st) := by
  subst hp
  refine g5 W (f' := fun a => mkF m (pc + 3) Ls (.ref a :: st)) (P := fun h' a => Exa Z h' a C ∧ (∀ {O nm d : String} {ty : FieldType}, Laid Z a0 C O nm d → parseFieldDescriptor d = some ty → Fld Z h' a O nm d (defaultValue ty)) ∧ Unt h' a) (fun h' q => q.1.lt) (fun vm0 locs X hx hb' hZ eT hO => ?_) G
  obtain ⟨T', h', X', e', E, A, D, U, q⟩ := newO X hx hZ hO w wi wz eT (g := mkF m pc Ls st) rfl (hb hb' hd) hc hl
  exact ⟨T', h', X', e', E, ⟨A, D, U⟩, q⟩
/-- newarray -/
theorem gNewP {aty : ArrayType} {z : Int32} {cap : Nat} {ad : String} (W : Wk p l e R s m args below meth c Z a0 EL n0 kn wd own bytes ml ws T h k n) (w : (Jvm.Cond.arrayClass (newarray.typeOf aty)).before a0 Z = true) (had : "[" ++ (newarray.typeOf aty).toString = ad)
    (hd : decode bytes pc = .ok (.newarray aty, 2)) (hp : pc + 2 = pc') (hz : ¬ z < 0) (hcap : z.toNatClampNeg ≤ cap) (hb8 : cap * 8 ≤ 536870912) (hc : k + 1 ≤ R.cells) (hl : n + cap ≤ R.slots)
    (G : ∀ T' h' a, a = h.size → Wk p l e R s m args below meth c Z a0 EL n0 kn wd own bytes ml (a :: ws) T' h' (k + 1) (n + cap) → Ext h h' → (∃ kA, Arv Z h' a kA (newarray.typeOf aty) z [] (defaultValue (newarray.typeOf aty)) ∧ Exa Z h' a ad) → Go p e below Φ T' (mkF m pc' Ls (.ref a :: rest))) : Go p e below Φ T (mkF m pc Ls (.int z :: rest)) := by
  subst hp
  refine g5 W (f' := fun a => mkF m (pc + 2) Ls (.ref a :: rest)) (P := fun h' a => ∃ kA, Arv Z h' a kA (newarray.typeOf aty) z [] (defaultValue (newarray.typeOf aty)) ∧ Exa Z h' a ad) (fun h' q => by obtain ⟨_, q, -⟩ := q; exact q.lt) (fun vm0 locs X hx hb' hZ eT hO => ?_) G
  obtain ⟨T', h', cA, X', e', E, A, D, q⟩ := newPE X hx hZ w eT (g := mkF m pc Ls (.int z :: rest)) rfl (hb hb' hd) rfl hz hcap hb8 hc hl had
  exact ⟨T', h', X', e', E, ⟨cA, Arv.new A hz, D⟩, q⟩
/-- anewarray -/
theorem gNewR {C : String} {index : Nat} {z : Int32} {cap : Nat} {ad : String} (W : Wk p l e R s m args below meth c Z a0 EL n0 kn wd own bytes ml ws T h k n) (w1 : (Jvm.Cond.classLink own index C).before a0 Z = true) (w2 : (Jvm.Cond.arrayOver (.object C)).before a0 Z = true) (had : "[" ++ (FieldType.object C).toString = ad)
    (hd : decode bytes pc = .ok (.anewarray index, 3)) (hp : pc + 3 = pc') (hz : ¬ z < 0) (hcap : z.toNatClampNeg ≤ cap) (hb8 : cap * 8 ≤ 536870912) (hc : k + 1 ≤ R.cells) (hl : n + cap ≤ R.slots)
    (G : ∀ T' h' a, a = h.size → Wk p l e R s m args below meth c Z a0 EL n0 kn wd own bytes ml (a :: ws) T' h' (k + 1) (n + cap) → Ext h h' → (∃ kA, Arv Z h' a kA (.object C) z [] .null ∧ Exa Z h' a ad ∧ Ovr Z kA C) → Go p e below Φ T' (mkF m pc' Ls (.ref a :: rest))) : Go p e below Φ T (mkF m pc Ls (.int z :: rest)) := by
  subst hp
  refine g5 W (f' := fun a => mkF m (pc + 3) Ls (.ref a :: rest)) (P := fun h' a => ∃ kA, Arv Z h' a kA (.object C) z [] .null ∧ Exa Z h' a ad ∧ Ovr Z kA C) (fun h' q => by obtain ⟨_, q, -⟩ := q; exact q.lt) (fun vm0 locs X hx hb' hZ eT hO => ?_) G
  obtain ⟨T', h', cA, X', e', E, A, D, O, q⟩ := newRE X hx hZ hO w1 w2 eT (g := mkF m pc Ls (.int z :: rest)) rfl (hb hb' hd) rfl hz hcap hb8 hc hl had
  exact ⟨T', h', X', e', E, ⟨cA, Arv.new A hz, D, O⟩, q⟩
/-- Object.<init> -/
theorem gInitO {index : Nat} {a : Addr} {wt : Nat} (W : Wk p l e R s m args below meth c Z a0 EL n0 kn wd own bytes ml ws T h k n) (w1 : (Jvm.Cond.methodLink own index Lib.objectInit).before a0 Z = true) (w2 : (Jvm.Cond.instanceMethod Lib.objectInit).before a0 Z = true) (w3 : (Jvm.Cond.code Lib.objectInit ⟨#[0xb1]⟩ 1 none).before a0 Z = true)
    (hd : decode bytes pc = .ok (.invokespecial index, 3)) (hp : pc + 3 = pc') (hsz : Ls.size = ml) (hf : 1 ≤ R.frames) (hW : (rest.map fun v => v.category).sum ≤ wt) (hl : wt + 12 ≤ R.locals)
    (G : ∀ T', Wk p l e R s m args below meth c Z a0 EL n0 kn wd own bytes ml ws T' h k n → Go p e below Φ T' (mkF m pc' Ls rest)) : Go p e below Φ T (mkF m pc Ls (.ref a :: rest)) := by
  subst hp
  exact g3 W (fun vm0 locs X hx hb' hml hZ eT hO => initO X hx hZ hO w1 w2 w3 eT (g := mkF m pc Ls (.ref a :: rest)) rfl (hsz.trans hml.symm) rfl (hb hb' hd) hf (W := wt) (by simpa using hW) hl) G
/-- a store into an array -/
theorem gStC {a : Addr} {kA : ClassId} {z j x : Int32} {vs : List Value} {dv : Value} (W : Wk p l e R s m args below meth c Z a0 EL n0 kn wd own bytes ml ws T h k n) (hn : n0 ≤ a) (A : Arv Z h a kA .char z vs dv) (hj : ¬ j < 0 ∧ j < z) {i : Nat} (hi : j.toNatClampNeg = i) (hv : i < vs.length)
    (hd : decode bytes pc = .ok (.castore, 1)) (hp : pc + 1 = pc') (G : ∀ T' h', Wk p l e R s m args below meth c Z a0 EL n0 kn wd own bytes ml ws T' h' k n → Keep h h' [a] → Arv Z h' a kA .char z (vs.set i (.int (nar .char x))) dv → Go p e below Φ T' (mkF m pc' Ls rest)) : Go p e below Φ T (mkF m pc Ls (.int x :: .int j :: .ref a :: rest)) := by
  subst hp
  obtain ⟨cl, Ar, q1, S, q3, H, Gf⟩ := A
  exact g4 W hn (Or.inr (Or.inr (Or.inr ⟨cl, .char, Ar, by decide⟩))) (fun vm0 locs X hx hb' hZ eT hO => stC X hx hZ eT Ar (j := j) (x := x) (inb_of S hj) (g := mkF m pc Ls (.int x :: .int j :: .ref a :: rest)) rfl rfl (hb hb' hd))
    (fun T' h' W' w => G T' h' W' (Keep.of_wr w) (Arv.set Ar q1 S q3 H Gf (fits_nar_char x) w i hi hv))
theorem gStB {a : Addr} {kA : ClassId} {z j x : Int32} {vs : List Value} {dv : Value} (W : Wk p l e R s m args below meth c Z a0 EL n0 kn wd own bytes ml ws T h k n) (hn : n0 ≤ a) (hsf : a ∈ ws) (A : Arv Z h a kA .byte z vs dv) (hj : ¬ j < 0 ∧ j < z) {i : Nat} (hi : j.toNatClampNeg = i) (hv : i < vs.length)
    (hd : decode bytes pc = .ok (.bastore, 1)) (hp : pc + 1 = pc') (G : ∀ T' h', Wk p l e R s m args below meth c Z a0 EL n0 kn wd own bytes ml ws T' h' k n → Keep h h' [a] → Arv Z h' a kA .byte z (vs.set i (.int x.toInt8.toInt32)) dv → Go p e below Φ T' (mkF m pc' Ls rest)) : Go p e below Φ T (mkF m pc Ls (.int x :: .int j :: .ref a :: rest)) := by
  subst hp
  obtain ⟨cl, Ar, q1, S, q3, H, Gf⟩ := A
  exact g4 W hn (Or.inl hsf) (fun vm0 locs X hx hb' hZ eT hO => stB X hx hZ eT Ar (j := j) (x := x) (inb_of S hj) (g := mkF m pc Ls (.int x :: .int j :: .ref a :: rest)) rfl rfl (hb hb' hd))
    (fun T' h' W' w => G T' h' W' (Keep.of_wr w) (Arv.set Ar q1 S q3 H Gf (fits_nar_byte x) w i hi hv))
theorem gStI {a : Addr} {kA : ClassId} {z j x : Int32} {vs : List Value} {dv : Value} (W : Wk p l e R s m args below meth c Z a0 EL n0 kn wd own bytes ml ws T h k n) (hn : n0 ≤ a) (A : Arv Z h a kA .int z vs dv) (hj : ¬ j < 0 ∧ j < z) {i : Nat} (hi : j.toNatClampNeg = i) (hv : i < vs.length)
    (hd : decode bytes pc = .ok (.iastore, 1)) (hp : pc + 1 = pc') (G : ∀ T' h', Wk p l e R s m args below meth c Z a0 EL n0 kn wd own bytes ml ws T' h' k n → Keep h h' [a] → Arv Z h' a kA .int z (vs.set i (.int x)) dv → Go p e below Φ T' (mkF m pc' Ls rest)) : Go p e below Φ T (mkF m pc Ls (.int x :: .int j :: .ref a :: rest)) := by
  subst hp
  obtain ⟨cl, Ar, q1, S, q3, H, Gf⟩ := A
  exact g4 W hn (Or.inr (Or.inr (Or.inr ⟨cl, .int, Ar, by decide⟩))) (fun vm0 locs X hx hb' hZ eT hO => stI X hx hZ eT Ar (j := j) (x := x) (inb_of S hj) (g := mkF m pc Ls (.int x :: .int j :: .ref a :: rest)) rfl rfl (hb hb' hd))
    (fun T' h' W' w => G T' h' W' (Keep.of_wr w) (Arv.set Ar q1 S q3 H Gf rfl w i hi hv))
theorem gStJ {a : Addr} {kA : ClassId} {z j : Int32} {x : Int64} {vs : List Value} {dv : Value} (W : Wk p l e R s m args below meth c Z a0 EL n0 kn wd own bytes ml ws T h k n) (hn : n0 ≤ a) (A : Arv Z h a kA .long z vs dv) (hj : ¬ j < 0 ∧ j < z) {i : Nat} (hi : j.toNatClampNeg = i) (hv : i < vs.length)
    (hd : decode bytes pc = .ok (.lastore, 1)) (hp : pc + 1 = pc') (G : ∀ T' h', Wk p l e R s m args below meth c Z a0 EL n0 kn wd own bytes ml ws T' h' k n → Keep h h' [a] → Arv Z h' a kA .long z (vs.set i (.long x)) dv → Go p e below Φ T' (mkF m pc' Ls rest)) : Go p e below Φ T (mkF m pc Ls (.long x :: .int j :: .ref a :: rest)) := by
  subst hp
  obtain ⟨cl, Ar, q1, S, q3, H, Gf⟩ := A
  exact g4 W hn (Or.inr (Or.inr (Or.inr ⟨cl, .long, Ar, by decide⟩))) (fun vm0 locs X hx hb' hZ eT hO => stJ X hx hZ eT Ar (j := j) (x := x) (inb_of S hj) (g := mkF m pc Ls (.long x :: .int j :: .ref a :: rest)) rfl rfl (hb hb' hd))
    (fun T' h' W' w => G T' h' W' (Keep.of_wr w) (Arv.set Ar q1 S q3 H Gf rfl w i hi hv))
/-- what an array holds at a place -/
theorem Arv.look {a : Addr} {kA : ClassId} {ty : FieldType} {z j : Int32} {vs : List Value} {dv v : Value} (A : Arv Z h a kA ty z vs dv) (hj : ¬ j < 0 ∧ j < z) (hv : vs.getD j.toNatClampNeg dv = v) : ∃ cl : Cell, Arr Z h a cl ty ∧ ¬ (j < 0 ∨ cl.slots.size ≤ j.toNatClampNeg) ∧ cl.slots[j.toNatClampNeg]? = some v := by
  obtain ⟨cl, Ar, q1, S, q3, H, Gf⟩ := A
  exact ⟨cl, Ar, inb_of S hj, H.at (inb_of S hj) hv⟩
theorem gLdC {a : Addr} {kA : ClassId} {z j : Int32} {vs : List Value} {dv v : Value} (W : Wk p l e R s m args below meth c Z a0 EL n0 kn wd own bytes ml ws T h k n) (A : Arv Z h a kA .char z vs dv) (hj : ¬ j < 0 ∧ j < z) (hv : vs.getD j.toNatClampNeg dv = v)
    (hd : decode bytes pc = .ok (.caload, 1)) (hp : pc + 1 = pc') (G : Go p e below Φ T (mkF m pc' Ls (v :: rest))) : Go p e below Φ T (mkF m pc Ls (.int j :: .ref a :: rest)) := by
  subst hp
  obtain ⟨cl, Ar, i1, i2⟩ := Arv.look A hj hv
  exact g2 W (fun vm0 locs X hx hb' hZ eT hO t q => X.caload hx (by rw [eT]; exact Ar.1) (State.isArrayOf_alike hZ.alike Ar.2.1) Ar.2.2 i1 i2 (g := mkF m pc Ls (.int j :: .ref a :: rest)) rfl rfl (hb hb' hd) t q) G
theorem gLdB {a : Addr} {kA : ClassId} {z j : Int32} {vs : List Value} {dv v : Value} (W : Wk p l e R s m args below meth c Z a0 EL n0 kn wd own bytes ml ws T h k n) (A : Arv Z h a kA .byte z vs dv) (hj : ¬ j < 0 ∧ j < z) (hv : vs.getD j.toNatClampNeg dv = v)
    (hd : decode bytes pc = .ok (.baload, 1)) (hp : pc + 1 = pc') (G : Go p e below Φ T (mkF m pc' Ls (v :: rest))) : Go p e below Φ T (mkF m pc Ls (.int j :: .ref a :: rest)) := by
  subst hp
  obtain ⟨cl, Ar, i1, i2⟩ := Arv.look A hj hv
  exact g2 W (fun vm0 locs X hx hb' hZ eT hO t q => X.baloadBytes hx (by rw [eT]; exact Ar.1) (State.isArrayOf_alike hZ.alike Ar.2.1) Ar.2.2 i1 i2 (g := mkF m pc Ls (.int j :: .ref a :: rest)) rfl rfl (hb hb' hd) t q) G
theorem gLdI {a : Addr} {kA : ClassId} {z j : Int32} {vs : List Value} {dv v : Value} (W : Wk p l e R s m args below meth c Z a0 EL n0 kn wd own bytes ml ws T h k n) (A : Arv Z h a kA .int z vs dv) (hj : ¬ j < 0 ∧ j < z) (hv : vs.getD j.toNatClampNeg dv = v)
    (hd : decode bytes pc = .ok (.iaload, 1)) (hp : pc + 1 = pc') (G : Go p e below Φ T (mkF m pc' Ls (v :: rest))) : Go p e below Φ T (mkF m pc Ls (.int j :: .ref a :: rest)) := by
  subst hp
  obtain ⟨cl, Ar, i1, i2⟩ := Arv.look A hj hv
  exact g2 W (fun vm0 locs X hx hb' hZ eT hO t q => X.iaload hx (by rw [eT]; exact Ar.1) (State.isArrayOf_alike hZ.alike Ar.2.1) Ar.2.2 i1 i2 (g := mkF m pc Ls (.int j :: .ref a :: rest)) rfl rfl (hb hb' hd) t q) G
theorem gLdJ {a : Addr} {kA : ClassId} {z j : Int32} {vs : List Value} {dv v : Value} (W : Wk p l e R s m args below meth c Z a0 EL n0 kn wd own bytes ml ws T h k n) (A : Arv Z h a kA .long z vs dv) (hj : ¬ j < 0 ∧ j < z) (hv : vs.getD j.toNatClampNeg dv = v)
    (hd : decode bytes pc = .ok (.laload, 1)) (hp : pc + 1 = pc') (G : Go p e below Φ T (mkF m pc' Ls (v :: rest))) : Go p e below Φ T (mkF m pc Ls (.int j :: .ref a :: rest)) := by
  subst hp
  obtain ⟨cl, Ar, i1, i2⟩ := Arv.look A hj hv
  exact g2 W (fun vm0 locs X hx hb' hZ eT hO t q => X.laload hx (by rw [eT]; exact Ar.1) (State.isArrayOf_alike hZ.alike Ar.2.1) Ar.2.2 i1 i2 (g := mkF m pc Ls (.int j :: .ref a :: rest)) rfl rfl (hb hb' hd) t q) G
theorem gLdA {a : Addr} {kA : ClassId} {ty : FieldType} {z j : Int32} {vs : List Value} {dv v : Value} (W : Wk p l e R s m args below meth c Z a0 EL n0 kn wd own bytes ml ws T h k n) (A : Arv Z h a kA ty z vs dv) (hty : ty.isReference = true) (hj : ¬ j < 0 ∧ j < z) (hv : vs.getD j.toNatClampNeg dv = v)
    (hd : decode bytes pc = .ok (.aaload, 1)) (hp : pc + 1 = pc') (G : Go p e below Φ T (mkF m pc' Ls (v :: rest))) : Go p e below Φ T (mkF m pc Ls (.int j :: .ref a :: rest)) := by
  subst hp
  obtain ⟨cl, Ar, i1, i2⟩ := Arv.look A hj hv
  exact g2 W (fun vm0 locs X hx hb' hZ eT hO t q => X.aaload hx (by rw [eT]; exact Ar.1) (State.isArrayOf_alike hZ.alike Ar.2.1) hty Ar.2.2 i1 i2 (g := mkF m pc Ls (.int j :: .ref a :: rest)) rfl rfl (hb hb' hd) t q) G
theorem gLen {a : Addr} {kA : ClassId} {ty : FieldType} {z : Int32} {vs : List Value} {dv : Value} (W : Wk p l e R s m args below meth c Z a0 EL n0 kn wd own bytes ml ws T h k n) (A : Arv Z h a kA ty z vs dv)
    (hd : decode bytes pc = .ok (.arraylength, 1)) (hp : pc + 1 = pc') (G : Go p e below Φ T (mkF m pc' Ls (.int z :: rest))) : Go p e below Φ T (mkF m pc Ls (.ref a :: rest)) := by
  subst hp
  obtain ⟨cl, Ar, q1, S, q3, H, Gf⟩ := A
  refine g2 W (fun vm0 locs X hx hb' hZ eT hO t q => X.arraylength hx (by rw [eT]; exact Ar.1) (State.isArrayOf_alike hZ.alike Ar.2.1) (g := mkF m pc Ls (.ref a :: rest)) rfl rfl (hb hb' hd) t ?_) G
  rw [len_of S q3]
  exact q
/-- ldc of a String constant that may be read -/
theorem gLdcS {index : Nat} {text : String} {vs : List Value} {z : Int32} {nn : Nat} (W : Wk p l e R s m args below meth c Z a0 EL n0 kn true own bytes ml ws T h k n) (w : (Jvm.Cond.stringLink own index text).before a0 Z = true) (wS : ∀ a ∈ Bundle.stringAtoms, a.before a0 Z = true) (hmem : (own, index) ∈ EL)
    (ht : (∀ c ∈ text.toList, c.toNat < 256) ∧ text.toList.map (fun c => Value.int (Jvm.Lit.byteI c.toNat.toUInt16)) = vs) (hz : ¬ z < 0) (hlz : z.toNatClampNeg = vs.length) (hd : decode bytes pc = .ok (.ldc index, 2)) (hp : pc + 2 = pc') (hn : 4 * text.toList.length ≤ nn) (hbig : nn ≤ 536870912) (hc : k + 2 ≤ R.cells) (hl : n + (nn + 4) ≤ R.slots)
    (G : ∀ T' h' a b kB, Wk p l e R s m args below meth c Z a0 EL n0 kn true own bytes ml ws T' h' (k + 2) (n + (nn + 4)) → Ext h h' → Exa Z h' a "java/lang/String" → Fld Z h' a "java/lang/String" "coder" "B" (.int 0) → Fld Z h' a "java/lang/String" "value" "[B" (.ref b) → Arv Z h' b kB .byte z vs (.int 0) → (∀ x ∈ ws, x ≠ a ∧ x ≠ b) → Go p e below Φ T' (mkF m pc' Ls (.ref a :: st))) : Go p e below Φ T (mkF m pc Ls st) := by
  subst hp
  obtain ⟨⟨hx, hb', hml, hO, hE, hrest⟩, vm0, k0, locs, X, eT, hS, hk, hZ, hC, hws, hF, hwd, hOl⟩ := W
  obtain ⟨a, T', h', k1, b, kB, X', e', E, hS', hk', hZ', -, A, F1, F2, V, -, -, hC', -, hne, q⟩ := ldcCH X hx hZ ((hZ.alike.findClass own _).trans hO) w wS eT hS hk hE hmem hC.1 ht hz hlz (g := mkF m pc Ls st) rfl (hb hb' hd) hn hbig hc hl
  have sz : ∀ x ∈ ws, x < h'.size ∧ Safe Z EL T'.vm h' x := fun x hx' => ⟨Nat.lt_of_lt_of_le (hws x hx').1 E.1, hC'.safe (hws x hx').1 (hws x hx').2⟩
  exact (G T' h' a b kB ⟨⟨hx, hb', hml, hO, hE, hrest⟩, T'.vm, k1, locs, X', e', hS', hk', hZ', hC.trans hC', sz, hF, (fun q => by cases q), hOl.ext E⟩ E A F1 F2 V (fun x hx' => hne x (sz x hx').2)).back q
/-- the end -/
theorem gEnd {f : JFrame} {v : Option Value} {rc rs : Nat} {Q : Option Value → Heap → Prop} (W : Wk p l e R s m args below meth c Z a0 EL n0 kn wd own bytes ml ws T h k n) (hv : meth.sig.returnType = none → v = none) (hk : k ≤ rc) (hn : n ≤ rs) (hq : Q v h)
    (hs : ∀ (vm0 : Vm) (locs : List Loc) (fs : List Frame), Stand p l e R (s.setVm vm0) m args below meth c T locs k n → p.tables.exec = Jvm.exec → c.code = bytes → (∀ (f : JFrame) (acts : List Action), f.method = m → f.locked = none → f.entered = [] → (doReturn e (T.setTop f) acts v).1 = T.setFrames fs) → Steps p.tables e below (T.setTop f) (T.setFrames fs)) :
    Go p e below (Po s Z EL n0 wd rc rs Q) T f := by
  obtain ⟨⟨hx, hb', hml, hO, hE, hlk, hrest⟩, vm0, k0, locs, X, eT, hS, hk0, hZ, hC, hws, hF, hwd, hOl⟩ := W
  obtain ⟨fs, hr, hrun, hend, hret⟩ := X.leaveW hS (by rw [eT]; exact hk0) hv hlk
  refine ⟨T.setFrames fs, _, hs vm0 locs fs X hx hb' hr, hrun, hend, v, locs, rfl, by rw [show (T.setFrames fs).heap = T.heap from rfl, eT]; exact hq, hF, ?_, fun q => State.WarmedH.trans (hwd q) (show (s.setVm vm0).WarmedH T.vm from X.warmed), by rw [show (T.setFrames fs).heap = T.heap from rfl, eT]; exact hOl, hret.1, hret.2.1, hret.2.2.1, hret.2.2.2.mono hk hn⟩
  have q := hC.trans (CHv.at X hZ hE hC.1)
  rw [show (T.setFrames fs).heap = T.heap from rfl, show (T.setFrames fs).vm = T.vm from rfl, eT]
  exact q
theorem gRetN {x : Int32} {t : FieldType} {rc rs : Nat} {Q : Option Value → Heap → Prop} (W : Wk p l e R s m args below meth c Z a0 EL n0 kn wd own bytes ml ws T h k n) (hret : meth.sig.returnType = some t) (ht : t = .boolean ∨ t = .byte ∨ t = .char ∨ t = .short) (hd : decode bytes pc = .ok (.ireturn, 1)) (hk : k ≤ rc) (hn : n ≤ rs) (hq : Q (some (.int (nar t x))) h) :
    Go p e below (Po s Z EL n0 wd rc rs Q) T (mkF m pc Ls (.int x :: rest)) :=
  gEnd W (fun q => by rw [hret] at q; cases q) hk hn hq (fun vm0 locs fs X hx hb' hr => retN X hx hret ht (hb hb' hd) hr)
theorem gRetI {x : Int32} {rc rs : Nat} {Q : Option Value → Heap → Prop} (W : Wk p l e R s m args below meth c Z a0 EL n0 kn wd own bytes ml ws T h k n) (hret : meth.sig.returnType = some .int) (hd : decode bytes pc = .ok (.ireturn, 1)) (hk : k ≤ rc) (hn : n ≤ rs) (hq : Q (some (.int x)) h) :
    Go p e below (Po s Z EL n0 wd rc rs Q) T (mkF m pc Ls (.int x :: rest)) :=
  gEnd W (fun q => by rw [hret] at q; cases q) hk hn hq (fun vm0 locs fs X hx hb' hr => retI X hx hret (hb hb' hd) hr)
theorem gRetV {rc rs : Nat} {Q : Option Value → Heap → Prop} (W : Wk p l e R s m args below meth c Z a0 EL n0 kn wd own bytes ml ws T h k n) (hret : meth.sig.returnType = none) (hd : decode bytes pc = .ok (.return_, 1)) (hk : k ≤ rc) (hn : n ≤ rs) (hq : Q none h) :
    Go p e below (Po s Z EL n0 wd rc rs Q) T (mkF m pc Ls []) :=
  gEnd W (fun _ => rfl) hk hn hq (fun vm0 locs fs X hx hb' hr => X.returnOut hx hret (hb hb' hd) hr)
theorem gRetJ {x : Int64} {rc rs : Nat} {Q : Option Value → Heap → Prop} (W : Wk p l e R s m args below meth c Z a0 EL n0 kn wd own bytes ml ws T h k n) (hret : meth.sig.returnType = some .long) (hd : decode bytes pc = .ok (.lreturn, 1)) (hk : k ≤ rc) (hn : n ≤ rs) (hq : Q (some (.long x)) h) :
    Go p e below (Po s Z EL n0 wd rc rs Q) T (mkF m pc Ls (.long x :: rest)) :=
  gEnd W (fun q => by rw [hret] at q; cases q) hk hn hq (fun vm0 locs fs X hx hb' hr => by
    have hd' := hb hb' hd
    jvm_step X.here [X.here.top, hx, hd', X.method', hret, narrow]
    first | (intro acts; rw [hr _ acts rfl rfl rfl]) | rw [hr _ _ rfl rfl rfl]
    exact Steps.refl _)
theorem gRetA {v : Value} {t : FieldType} {rc rs : Nat} {Q : Option Value → Heap → Prop} (W : Wk p l e R s m args below meth c Z a0 EL n0 kn wd own bytes ml ws T h k n) (hret : meth.sig.returnType = some t) (ht : t.isReference = true) (hv : v.isRef = true) (hd : decode bytes pc = .ok (.areturn, 1)) (hk : k ≤ rc) (hn : n ≤ rs) (hq : Q (some v) h) :
    Go p e below (Po s Z EL n0 wd rc rs Q) T (mkF m pc Ls (v :: rest)) :=
  gEnd W (fun q => by rw [hret] at q; cases q) hk hn hq (fun vm0 locs fs X hx hb' hr => by
    have hd' := hb hb' hd
    jvm_step X.here [X.here.top, hx, hd', X.method', hret, ht, hv]
    first | (intro acts; rw [hr _ acts rfl rfl rfl]) | rw [hr _ _ rfl rfl rfl]
    exact Steps.refl _)
/-- a callee by its contract: what the walk's own laws ask of it -/
theorem Ct.backS {y : MethodName} {bytes' : ByteArray} {ml' : Nat} {ret' : Option FieldType} {rm : Room} {ws' : List Addr} {as' : Array Value} {Q : Option Value → Heap → Prop} {len wt : Nat} {vm0 : Vm} (C : Ct l Z a0 EL n0 kn wd y bytes' ml' ret' [] rm ws' as' h Q)
    (hZ : Z.Warmed39 vm0) (wc : (Jvm.Cond.code y bytes' ml' ret').before a0 Z = true) (wz : (Jvm.Cond.initialized y.cls).before a0 Z = true) (hf : rm.frames + 1 ≤ R.frames) (hl : wt + (ml' + 11) + rm.locals ≤ R.locals) (hEL : EW Z a0 EL) (H : CHv Z EL vm0 h) (hOl : Old Z n0 h) (hws : ∀ x ∈ ws', x < h.size ∧ Safe Z EL vm0 h x) (hkn : kn = true → vm0.MethodsKnown ∧ vm0.FramesKnown below) :
    BackS l R p e below (s.setVm vm0) args y len wt (fun A a => a = as' ∧ A.U.heap = h ∧ A.cells + rm.cells ≤ R.cells ∧ A.slots + rm.slots ≤ R.slots)
      (fun A _ v B => ∃ L, Q v B.U.heap ∧ Fr n0 L ∧ B.locs = A.locs ++ L ∧ B.cells = A.cells + rm.cells ∧ B.slots = A.slots + rm.slots ∧ CHr Z EL vm0 h B.U.vm B.U.heap ∧ (wd = false → (s.setVm vm0).WarmedH B.U.vm) ∧ Old Z n0 B.U.heap) := by
  refine BackS.of_freeWG (bytes := bytes') (maxL := ml') (ret := ret') (E := fun _ first o t L k n => k = rm.cells ∧ n = rm.slots ∧ (∃ v, o = .returned v ∧ Q v t.heap ∧ Fr n0 L) ∧ CHr Z EL first.vm first.heap t.vm t.heap ∧ (wd = false → first.WarmedH t.vm) ∧ Old Z n0 t.heap) C hf hl ?_ ?_ ?_ ?_ ?_
  · intro m meth c A a Y hp
    have hU : Z.Warmed39 A.U.vm := wtrans (s := s.setVm vm0) hZ Y.warmed
    exact ⟨by show (Jvm.Cond.and _ .tt).before a A.U = true; rw [Cond.before_and, mv hU wc]; rfl, mv hU wc, mv hU wz, hp.2.2.1, hp.2.2.2⟩
  · intro m meth c A a g mk Y hp
    have q := CHv.at Y hZ hEL H
    exact ⟨hp.1, wtrans (s := s.setVm vm0) hZ Y.warmed, hp.2.1, q.1, hOl, fun x hx => ⟨(hws x hx).1, q.safe (hws x hx).1 (hws x hx).2⟩⟩
  · intro m meth c A a g mk Y _ hg q
    exact known_frames Y hg (hkn q).1 (hkn q).2
  · intro a first o t hq
    obtain ⟨v, L, h1, h2, h3, h4, h5, h7, h6⟩ := hq
    exact ⟨L, _, _, h6, rfl, rfl, ⟨v, h1, h2, h3⟩, h4, h5, h7⟩
  · intro m meth c A a g mk v t L k n Y hp _ _ hE
    obtain ⟨e1, e2, ⟨v', e3, e4, e5⟩, e6, e7, e8⟩ := hE
    cases e3; subst e1 e2
    refine ⟨L, e4, e5, rfl, rfl, rfl, (CHv.at Y hZ hEL H).trans ?_, fun q => State.WarmedH.trans Y.warmed (show A.U.WarmedH _ from e7 q), e8⟩
    rw [← hp.2.1]; exact e6
/-- behind a call -/
theorem Wk.after {T' : State} {locs L : List Loc} {vm0 : Vm} {k0 k' n' : Nat} (hall : p.tables.exec = Jvm.exec ∧ c.code = bytes ∧ c.maxLocals = ml ∧ Z.vm.findClass own = some m.cls ∧ EW Z a0 EL ∧ meth.locks = false ∧ (kn = true → s.vm.MethodsKnown ∧ s.vm.FramesKnown below)) (hS : s.Since vm0 k0) (hk : k0 ≤ h.size) (hZ : Z.Warmed39 vm0) (hC : CHr Z EL s.vm s.heap vm0 h) (hws : ∀ x ∈ ws, x < h.size ∧ Safe Z EL vm0 h x) (hF : Fr n0 locs) (hwd : wd = false → s.WarmedH vm0)
    (X' : Stand p l e R ((s.setVm vm0).setVm T'.vm) m args below meth c T' (locs ++ L) k' n') (h2 : (s.setVm vm0).Since T'.vm T'.heap.size) (hg : h.size ≤ T'.heap.size) (hF' : Fr n0 L) (hC' : CHr Z EL vm0 h T'.vm T'.heap) (hwd' : wd = false → (s.setVm vm0).WarmedH T'.vm) (hOl : Old Z n0 T'.heap) :
    Wk p l e R s m args below meth c Z a0 EL n0 kn wd own bytes ml ws T' T'.heap k' n' :=
  ⟨hall, T'.vm, T'.heap.size, locs ++ L, X', rfl, hS.trans h2 (Nat.le_trans hk hg), Nat.le_refl _, State.Warmed39.trans (t := s.setVm vm0) hZ h2.1, hC.trans hC', fun x hx => ⟨Nat.lt_of_lt_of_le (hws x hx).1 hg, hC'.safe (hws x hx).1 (hws x hx).2⟩, hF.app hF', (fun q => State.WarmedH.trans (hwd q) (hwd' q)), hOl⟩
/-- a static call -/
theorem gStatic {index : Nat} {y : MethodName} {bytes' : ByteArray} {ml' : Nat} {ret' : Option FieldType} {rm : Room} {ws' : List Addr} {as' : Array Value} {Q : Option Value → Heap → Prop} {argsL : List Value} {wt : Nat} {ps : List FieldType} {rt : Option FieldType} (W : Wk p l e R s m args below meth c Z a0 EL n0 kn wd own bytes ml ws T h k n)
    (w1 : (Jvm.Cond.methodLink own index y).before a0 Z = true) (w2 : (Jvm.Cond.static y).before a0 Z = true) (w3 : (Jvm.Cond.initialized y.cls).before a0 Z = true) (w4 : (Jvm.Cond.code y bytes' ml' ret').before a0 Z = true) (hy : y.cls ≠ "java/lang/invoke/MethodHandle" ∧ y.cls ≠ "java/lang/invoke/VarHandle") (hdsc : parseMethodDescriptor y.desc = some ⟨ps, rt⟩)
    (C : Ct l Z a0 EL n0 kn wd y bytes' ml' ret' [] rm ws' as' h Q) (hsub : ∀ x ∈ ws', x ∈ ws) (hd : decode bytes pc = .ok (.invokestatic index, 3)) (hp : pc + 3 = pc') (hsz : Ls.size = ml) (has : argsL.toArray = as') (hlen : argsL.length = ps.length) (hst : st = argsL.reverse ++ rest) (hW : (rest.map fun v => v.category).sum ≤ wt)
    (hf : rm.frames + 1 ≤ R.frames) (hl : wt + (ml' + 11) + rm.locals ≤ R.locals) (hc : k + rm.cells ≤ R.cells) (hs : n + rm.slots ≤ R.slots)
    (G : ∀ v T' h', Wk p l e R s m args below meth c Z a0 EL n0 kn wd own bytes ml ws T' h' (k + rm.cells) (n + rm.slots) → h.size ≤ h'.size → Q v h' → Go p e below Φ T' (mkF m pc' Ls (v.toList ++ rest))) : Go p e below Φ T (mkF m pc Ls st) := by
  subst hp has
  obtain ⟨hall, vm0, k0, locs, X, eT, hS, hk, hZ, hC, hws, hF, hwd, hOl⟩ := W
  have hall' := hall
  obtain ⟨hx, hb', hml, hO, hE, hlk, hkn⟩ := hall'
  have hkn' : kn = true → vm0.MethodsKnown ∧ vm0.FramesKnown below := fun q => known_vm hS.1 (hkn q)
  obtain ⟨v, vm₁, ⟨T', L', c', n'⟩, -, X', h2, hg, ⟨L, hQ, hF', l', y', z', hC', hwd', hOl'⟩, stp⟩ := callSS X hx (y := y) ((hZ.alike.findClass own _).trans hO) (mv (s := s.setVm vm0) hZ w1) (mv (s := s.setVm vm0) hZ w2) (mv (s := s.setVm vm0) hZ w3) (mv (s := s.setVm vm0) hZ w4) hy
    (C.backS (p := p) (e := e) (R := R) (s := s) (args := args) (below := below) (wt := wt) hZ w4 w3 hf hl hE hC.1 hOl (fun x q => hws x (hsub x q)) hkn') (g := mkF m pc Ls st) rfl (hsz.trans hml.symm) (argsL := argsL) (rest := rest) (lenOf hdsc hlen) hst (by simpa using hW) (hb hb' hd) (fun _ _ => ⟨rfl, eT, hc, hs⟩)
  dsimp only [Pt.U, Pt.locs, Pt.cells, Pt.slots] at X' h2 hg l' y' z' stp hQ hC' hwd' hOl'
  subst l' y' z'
  rw [eT] at hg
  exact (G v T' T'.heap (Wk.after hall hS hk hZ hC hws hF hwd X' h2 hg hF' hC' hwd' hOl') hg hQ).back fun t q => stp.trans q
/-- a constructor -/
theorem gSpecial {index : Nat} {y : MethodName} {bytes' : ByteArray} {ml' : Nat} {rm : Room} {ws' : List Addr} {as' : Array Value} {Q : Option Value → Heap → Prop} {argsL : List Value} {a : Addr} {wt : Nat} {ps : List FieldType} {rt : Option FieldType} (W : Wk p l e R s m args below meth c Z a0 EL n0 kn wd own bytes ml ws T h k n) (hy1 : y.name = "<init>")
    (w1 : (Jvm.Cond.methodLink own index y).before a0 Z = true) (w2 : (Jvm.Cond.instanceMethod y).before a0 Z = true) (w3 : (Jvm.Cond.initialized y.cls).before a0 Z = true) (w4 : (Jvm.Cond.code y bytes' ml' none).before a0 Z = true) (hy : y.cls ≠ "java/lang/invoke/MethodHandle" ∧ y.cls ≠ "java/lang/invoke/VarHandle") (hdsc : parseMethodDescriptor y.desc = some ⟨ps, rt⟩)
    (C : Ct l Z a0 EL n0 kn wd y bytes' ml' none [] rm ws' as' h Q) (hsub : ∀ x ∈ ws', x ∈ ws) (hd : decode bytes pc = .ok (.invokespecial index, 3)) (hp : pc + 3 = pc') (hsz : Ls.size = ml) (has : (.ref a :: argsL).toArray = as') (hlen : argsL.length = ps.length) (hst : st = argsL.reverse ++ .ref a :: rest) (hW : (rest.map fun v => v.category).sum ≤ wt)
    (hf : rm.frames + 1 ≤ R.frames) (hl : wt + (ml' + 11) + rm.locals ≤ R.locals) (hc : k + rm.cells ≤ R.cells) (hs : n + rm.slots ≤ R.slots)
    (G : ∀ v T' h', Wk p l e R s m args below meth c Z a0 EL n0 kn wd own bytes ml ws T' h' (k + rm.cells) (n + rm.slots) → h.size ≤ h'.size → Q v h' → Go p e below Φ T' (mkF m pc' Ls (v.toList ++ rest))) : Go p e below Φ T (mkF m pc Ls st) := by
  subst hp has
  obtain ⟨hall, vm0, k0, locs, X, eT, hS, hk, hZ, hC, hws, hF, hwd, hOl⟩ := W
  have hall' := hall
  obtain ⟨hx, hb', hml, hO, hE, hlk, hkn⟩ := hall'
  have hkn' : kn = true → vm0.MethodsKnown ∧ vm0.FramesKnown below := fun q => known_vm hS.1 (hkn q)
  obtain ⟨v, vm₁, ⟨T', L', c', n'⟩, -, X', h2, hg, ⟨L, hQ, hF', l', y', z', hC', hwd', hOl'⟩, stp⟩ := X.specialBackS hx (y := y) hy1 ((hZ.alike.findClass own _).trans hO) (mv (s := s.setVm vm0) hZ w1) (mv (s := s.setVm vm0) hZ w2) (mv (s := s.setVm vm0) hZ w4) hy
    (C.backS (p := p) (e := e) (R := R) (s := s) (args := args) (below := below) (wt := wt) hZ w4 w3 hf hl hE hC.1 hOl (fun x q => hws x (hsub x q)) hkn') (g := mkF m pc Ls st) rfl (hsz.trans hml.symm) (Steps.refl _) (a := a) (argsL := argsL) (rest := rest) (lenOf hdsc hlen) hst (by simpa using hW) (hb hb' hd) (fun _ _ => ⟨rfl, eT, hc, hs⟩)
  dsimp only [Pt.U, Pt.locs, Pt.cells, Pt.slots] at X' h2 hg l' y' z' stp hQ hC' hwd' hOl'
  subst l' y' z'
  rw [eT] at hg
  exact (G v T' T'.heap (Wk.after hall hS hk hZ hC hws hF hwd X' h2 hg hF' hC' hwd' hOl') hg hQ).back fun t q => stp.trans q
/-- an instance method of the class that declares it -/
theorem gVirtual {index : Nat} {y z : MethodName} {C' : String} {bytes' : ByteArray} {ml' : Nat} {ret' : Option FieldType} {rm : Room} {ws' : List Addr} {as' : Array Value} {Q : Option Value → Heap → Prop} {argsL : List Value} {a : Addr} {wt : Nat} {ps : List FieldType} {rt : Option FieldType} (W : Wk p l e R s m args below meth c Z a0 EL n0 kn wd own bytes ml ws T h k n) (E : Exa Z h a C')
    (w1 : (Jvm.Cond.methodLink own index y).before a0 Z = true) (w2 : (Jvm.Cond.declares y).before a0 Z = true) (nf : ∀ s : State, Z.Warmed39 s.vm → NotFace s y) (w5 : (Jvm.Cond.selects C' y z).before a0 Z = true) (w6 : (Jvm.Cond.instanceMethod z).before a0 Z = true) (w3 : (Jvm.Cond.initialized z.cls).before a0 Z = true) (w4 : (Jvm.Cond.code z bytes' ml' ret').before a0 Z = true) (hy : y.cls ≠ "java/lang/invoke/MethodHandle" ∧ y.cls ≠ "java/lang/invoke/VarHandle") (hdsc : parseMethodDescriptor y.desc = some ⟨ps, rt⟩)
    (C : Ct l Z a0 EL n0 kn wd z bytes' ml' ret' [] rm ws' as' h Q) (hsub : ∀ x ∈ ws', x ∈ ws) (hd : decode bytes pc = .ok (.invokevirtual index, 3)) (hp : pc + 3 = pc') (hsz : Ls.size = ml) (has : (.ref a :: argsL).toArray = as') (hlen : argsL.length = ps.length) (hst : st = argsL.reverse ++ .ref a :: rest) (hW : (rest.map fun v => v.category).sum ≤ wt)
    (hf : rm.frames + 1 ≤ R.frames) (hl : wt + (ml' + 11) + rm.locals ≤ R.locals) (hc : k + rm.cells ≤ R.cells) (hs : n + rm.slots ≤ R.slots)
    (G : ∀ v T' h', Wk p l e R s m args below meth c Z a0 EL n0 kn wd own bytes ml ws T' h' (k + rm.cells) (n + rm.slots) → h.size ≤ h'.size → Q v h' → Go p e below Φ T' (mkF m pc' Ls (v.toList ++ rest))) : Go p e below Φ T (mkF m pc Ls st) := by
  subst hp has
  obtain ⟨hall, vm0, k0, locs, X, eT, hS, hk, hZ, hC, hws, hF, hwd, hOl⟩ := W
  have hall' := hall
  obtain ⟨hx, hb', hml, hO, hE, hlk, hkn⟩ := hall'
  have hkn' : kn = true → vm0.MethodsKnown ∧ vm0.FramesKnown below := fun q => known_vm hS.1 (hkn q)
  obtain ⟨cq, kq, qa, qb, qc⟩ := isOf (s := s.setVm vm0) hZ eT E
  obtain ⟨v, vm₁, ⟨T', L', c', n'⟩, -, X', h2, hg, ⟨L, hQ, hF', l', y', z', hC', hwd', hOl'⟩, stp⟩ := X.virtualBackS hx (y := y) (z := z) ((hZ.alike.findClass own _).trans hO) (mv (s := s.setVm vm0) hZ w1) (mv (s := s.setVm vm0) hZ w2) (nf (s.setVm vm0) hZ) (mv (s := s.setVm vm0) hZ w5) (mv (s := s.setVm vm0) hZ w6) hy
    (C.backS (p := p) (e := e) (R := R) (s := s) (args := args) (below := below) (wt := wt) hZ w4 w3 hf hl hE hC.1 hOl (fun x q => hws x (hsub x q)) hkn') qa qc (g := mkF m pc Ls st) rfl (hsz.trans hml.symm) (Steps.refl _) (argsL := argsL) (rest := rest) (lenOf hdsc hlen) hst (by simpa using hW) (hb hb' hd) (fun _ _ => ⟨rfl, eT, hc, hs⟩)
  dsimp only [Pt.U, Pt.locs, Pt.cells, Pt.slots] at X' h2 hg l' y' z' stp hQ hC' hwd' hOl'
  subst l' y' z'
  rw [eT] at hg
  exact (G v T' T'.heap (Wk.after hall hS hk hZ hC hws hF hwd X' h2 hg hF' hC' hwd' hOl') hg hQ).back fun t q => stp.trans q
/-- a contract out of a walk -/
theorem Ct.of {y : MethodName} {ret : Option FieldType} {cs : List Jvm.Cond} {rm : Room} {as' : Array Value} {Q : Option Value → Heap → Prop} (hpl : plainFor y = true) (hEL : EW Z a0 EL)
    (body : ∀ (p : Program) (e : Env) (s : State) (m : MethodId) (below : List Frame) (meth : Method) (c : Code) (T : State), Wk p l e rm s m as' below meth c Z a0 EL n0 kn wd y.cls bytes ml ws T h 0 0 → meth.sig.returnType = ret → meth.name = y.name → s.heap = h → Go p e below (Po s Z EL n0 wd rm.cells rm.slots Q) T (entryFrame m as' ml)) :
    Ct l Z a0 EL n0 kn wd y bytes ml ret cs rm ws as' h Q := by
  refine MetFree.of_bodySF hpl hisR ?_
  intro p e s m args below meth c s₁ Bd hml hP hK
  obtain ⟨rfl, hZ, hh, hC, hOl, hws⟩ := hP
  have hown : s.vm.findClass y.cls = some m.cls := findClass_of_methodNamed Bd.named
  have X0 := Stand.of_body Bd
  have e0 : s₁.heap = h := by rw [← hh, Bd.state]; rfl
  have hO : Z.vm.findClass y.cls = some m.cls := by rw [← hZ.alike.findClass]; exact hown
  have hst : s₁.vm = s.vm := by rw [Bd.state]; rfl
  refine body p e s m below meth c s₁ ⟨⟨Bd.exec, Bd.bytes, hml, hO, hEL, BodyLoose.notSynchronized Bd, hK⟩, s.vm, 0, [], X0, e0, (State.WarmedH.refl s).since _, Nat.zero_le _, hZ, ?_, hws, Fr.nil n0, (fun _ => State.WarmedH.refl s), hOl⟩ Bd.returns (name_of_methodNamed Bd.named Bd.method).1 hh
  rw [hh]
  exact CHr.refl hC
end OwnLayer
section OwnLayerMore
variable {p : Program} {l : Launch} {e : Env} {R : Room} {s : State} {m : MethodId} {args : Array Value} {below : List Frame} {meth : Method} {c : Code} {Z : State} {a0 : Array Value} {EL : List (String × Nat)} {n0 : Nat} {kn wd : Bool} {own : String} {bytes : ByteArray} {ml : Nat} {ws : List Addr} {T : State} {h : Heap} {k n : Nat} {Φ : Outcome → State → Prop} {pc pc' : Nat} {Ls : Array Slot} {st rest : List Value}
/-- instanceof, no -/
theorem gInsN {K C : String} {index : Nat} {a : Addr} (W : Wk p l e R s m args below meth c Z a0 EL n0 kn wd own bytes ml ws T h k n) (w : (Jvm.Cond.classLink own index K).before a0 Z = true) (E : Exa Z h a C) (F : ∃ c t, Z.vm.findClass C = some c ∧ Z.vm.findClass K = some t ∧ Z.vm.assignable c t = false)
    (hd : decode bytes pc = .ok (.instanceof index, 3)) (hp : pc + 3 = pc') (G : ∀ T', Wk p l e R s m args below meth c Z a0 EL n0 kn wd own bytes ml ws T' h k n → Go p e below Φ T' (mkF m pc' Ls (.int 0 :: rest))) : Go p e below Φ T (mkF m pc Ls (.ref a :: rest)) := by
  subst hp
  exact g3 W (fun vm0 locs X hx hb' _ hZ eT hO => instNo X hx hZ hO w eT E F (g := mkF m pc Ls (.ref a :: rest)) rfl rfl (hb hb' hd)) G
theorem noSub {C S K : String} {nK : Nat} (w : (Jvm.Cond.superclass C S).before a0 Z = true) (w0 : (Jvm.Cond.noSuperclass S).before a0 Z = true) (wk : (Jvm.Cond.instantiable K nK).before a0 Z = true) (h1 : C ≠ K) (h2 : S ≠ K) : ∃ c t, Z.vm.findClass C = some c ∧ Z.vm.findClass K = some t ∧ Z.vm.assignable c t = false := by
  obtain ⟨t, kt, g1, g2, g3, g4, -⟩ := Cond.instantiable_spec wk
  obtain ⟨cc, q0⟩ := found_sup w
  obtain ⟨pp, kc, kp, a1, a2, a3, a4, a5, a6, a7⟩ := Cond.superclass_spec q0 w
  obtain ⟨o, ko, b1, b2, b3, -⟩ := Cond.noSuperclass_spec w0
  cases a1.symm.trans b1
  cases a3.symm.trans b2
  have ne1 := ids_ne q0 g1 h1
  have ne2 := ids_ne b1 g1 h2
  have gI : kt.isInterface = false := by simp at g4; exact g4.1
  have sub : ∀ fuel, Z.vm.isSubclassAux fuel cc t = false := fun fuel => by
    cases fuel with
    | zero => rfl
    | succ f =>
      cases f with
      | zero => simp [Vm.isSubclassAux, ne1, a2, a4]
      | succ f => simp [Vm.isSubclassAux, ne1, ne2, a2, a4, b2, b3]
  refine ⟨cc, t, q0, g1, ?_⟩
  show Z.vm.assignableAux (255 + 1) cc t = false
  simp [Vm.assignableAux, ne1, a2, g2, a5, g3, gI, Vm.isSubclass, sub]
/-- a call through an interface -/
theorem gFace {index count : Nat} {y z : MethodName} {C' : String} {bytes' : ByteArray} {ml' : Nat} {ret' : Option FieldType} {rm : Room} {ws' : List Addr} {as' : Array Value} {Q : Option Value → Heap → Prop} {argsL : List Value} {a : Addr} {wt : Nat} {ps : List FieldType} {rt : Option FieldType} (W : Wk p l e R s m args below meth c Z a0 EL n0 kn wd own bytes ml ws T h k n) (E : Exa Z h a C')
    (w1 : (Jvm.Cond.methodLink own index y).before a0 Z = true) (w2 : (Jvm.Cond.declares y).before a0 Z = true) (w7 : ∀ (args : Array Value) (s : State), Z.Warmed39 s.vm → (Jvm.Cond.interfaceMethod y.cls y.cls y.name y.desc).before args s = true) (w5 : (Jvm.Cond.selects C' y z).before a0 Z = true) (w6 : (Jvm.Cond.instanceMethod z).before a0 Z = true) (w8 : (Jvm.Cond.publicMethod z).before a0 Z = true) (w9 : (Jvm.Cond.unhidden C' y.name y.desc).before a0 Z = true) (w10 : (Jvm.Cond.castable C' y.cls).before a0 Z = true) (w3 : (Jvm.Cond.initialized z.cls).before a0 Z = true) (w4 : (Jvm.Cond.code z bytes' ml' ret').before a0 Z = true) (hy : y.cls ≠ "java/lang/invoke/MethodHandle" ∧ y.cls ≠ "java/lang/invoke/VarHandle") (hdsc : parseMethodDescriptor y.desc = some ⟨ps, rt⟩)
    (C : Ct l Z a0 EL n0 kn wd z bytes' ml' ret' [] rm ws' as' h Q) (hsub : ∀ x ∈ ws', x ∈ ws) (hd : decode bytes pc = .ok (.invokeinterface index count, 5)) (hp : pc + 5 = pc') (hsz : Ls.size = ml) (has : (.ref a :: argsL).toArray = as') (hlen : argsL.length = ps.length) (hst : st = argsL.reverse ++ .ref a :: rest) (hW : (rest.map fun v => v.category).sum ≤ wt)
    (hf : rm.frames + 1 ≤ R.frames) (hl : wt + (ml' + 11) + rm.locals ≤ R.locals) (hc : k + rm.cells ≤ R.cells) (hs : n + rm.slots ≤ R.slots)
    (G : ∀ v T' h', Wk p l e R s m args below meth c Z a0 EL n0 kn wd own bytes ml ws T' h' (k + rm.cells) (n + rm.slots) → h.size ≤ h'.size → Q v h' → Go p e below Φ T' (mkF m pc' Ls (v.toList ++ rest))) : Go p e below Φ T (mkF m pc Ls st) := by
  subst hp has
  obtain ⟨hall, vm0, k0, locs, X, eT, hS, hk, hZ, hC, hws, hF, hwd, hOl⟩ := W
  have hall' := hall
  obtain ⟨hx, hb', hml, hO, hE, hlk, hkn⟩ := hall'
  have hkn' : kn = true → vm0.MethodsKnown ∧ vm0.FramesKnown below := fun q => known_vm hS.1 (hkn q)
  obtain ⟨cq, kq, qa, qb, qc⟩ := isOf (s := s.setVm vm0) hZ eT E
  obtain ⟨v, vm₁, ⟨T', L', c', n'⟩, -, X', h2, hg, ⟨L, hQ, hF', l', y', z', hC', hwd', hOl'⟩, stp⟩ := X.interfaceBackS hx (xi := y) (y := z) ((hZ.alike.findClass own _).trans hO) (mv (s := s.setVm vm0) hZ w1) (mv (s := s.setVm vm0) hZ w2) (w7 args (s.setVm vm0) hZ) (mv (s := s.setVm vm0) hZ w5) (mv (s := s.setVm vm0) hZ w6) (mv (s := s.setVm vm0) hZ w8) (mv (s := s.setVm vm0) hZ w9) (mv (s := s.setVm vm0) hZ w10) hy
    (C.backS (p := p) (e := e) (R := R) (s := s) (args := args) (below := below) (wt := wt) hZ w4 w3 hf hl hE hC.1 hOl (fun x q => hws x (hsub x q)) hkn') qa qb qc (g := mkF m pc Ls st) rfl (hsz.trans hml.symm) (Steps.refl _) (argsL := argsL) (rest := rest) (lenOf hdsc hlen) hst (by simpa using hW) (hb hb' hd) (fun _ _ => ⟨rfl, eT, hc, hs⟩)
  dsimp only [Pt.U, Pt.locs, Pt.cells, Pt.slots] at X' h2 hg l' y' z' stp hQ hC' hwd' hOl'
  subst l' y' z'
  rw [eT] at hg
  exact (G v T' T'.heap (Wk.after hall hS hk hZ hC hws hF hwd X' h2 hg hF' hC' hwd' hOl') hg hQ).back fun t q => stp.trans q
/-- an instance method that the entry's class inherits -/
theorem gVirtualUp {index : Nat} {x y : MethodName} {C' owner : String} {bytes' : ByteArray} {ml' : Nat} {ret' : Option FieldType} {rm : Room} {ws' : List Addr} {as' : Array Value} {Q : Option Value → Heap → Prop} {argsL : List Value} {a : Addr} {wt : Nat} {ps : List FieldType} {rt : Option FieldType} (W : Wk p l e R s m args below meth c Z a0 EL n0 kn wd own bytes ml ws T h k n) (E : Exa Z h a C')
    (w1 : (Jvm.Cond.methodLink own index x).before a0 Z = true) (w2 : (Jvm.Cond.sameMethod x.cls owner x.name x.desc).before a0 Z = true) (w7 : (Jvm.Cond.declares ⟨owner, x.name, x.desc⟩).before a0 Z = true) (ho : owner ≠ "java/lang/invoke/MethodHandle" ∧ owner ≠ "java/lang/invoke/VarHandle") (w5 : (Jvm.Cond.selects C' x y).before a0 Z = true) (w6 : (Jvm.Cond.instanceMethod y).before a0 Z = true) (w3 : (Jvm.Cond.initialized y.cls).before a0 Z = true) (w4 : (Jvm.Cond.code y bytes' ml' ret').before a0 Z = true) (hdsc : parseMethodDescriptor x.desc = some ⟨ps, rt⟩)
    (C : Ct l Z a0 EL n0 kn wd y bytes' ml' ret' [] rm ws' as' h Q) (hsub : ∀ x ∈ ws', x ∈ ws) (hd : decode bytes pc = .ok (.invokevirtual index, 3)) (hp : pc + 3 = pc') (hsz : Ls.size = ml) (has : (.ref a :: argsL).toArray = as') (hlen : argsL.length = ps.length) (hst : st = argsL.reverse ++ .ref a :: rest) (hW : (rest.map fun v => v.category).sum ≤ wt)
    (hf : rm.frames + 1 ≤ R.frames) (hl : wt + (ml' + 11) + rm.locals ≤ R.locals) (hc : k + rm.cells ≤ R.cells) (hs : n + rm.slots ≤ R.slots)
    (G : ∀ v T' h', Wk p l e R s m args below meth c Z a0 EL n0 kn wd own bytes ml ws T' h' (k + rm.cells) (n + rm.slots) → h.size ≤ h'.size → Q v h' → Go p e below Φ T' (mkF m pc' Ls (v.toList ++ rest))) : Go p e below Φ T (mkF m pc Ls st) := by
  subst hp has
  obtain ⟨hall, vm0, k0, locs, X, eT, hS, hk, hZ, hC, hws, hF, hwd, hOl⟩ := W
  have hall' := hall
  obtain ⟨hx, hb', hml, hO, hE, hlk, hkn⟩ := hall'
  have hkn' : kn = true → vm0.MethodsKnown ∧ vm0.FramesKnown below := fun q => known_vm hS.1 (hkn q)
  obtain ⟨cq, kq, qa, qb, qc⟩ := isOf (s := s.setVm vm0) hZ eT E
  obtain ⟨v, vm₁, ⟨T', L', c', n'⟩, -, X', h2, hg, ⟨L, hQ, hF', l', y', z', hC', hwd', hOl'⟩, stp⟩ := virtualBackUpS X hx (x := x) (y := y) (owner := owner) ((hZ.alike.findClass own _).trans hO) (mv (s := s.setVm vm0) hZ w1) (mv (s := s.setVm vm0) hZ w2) (mv (s := s.setVm vm0) hZ w7) ho (mv (s := s.setVm vm0) hZ w5) (mv (s := s.setVm vm0) hZ w6)
    (C.backS (p := p) (e := e) (R := R) (s := s) (args := args) (below := below) (wt := wt) hZ w4 w3 hf hl hE hC.1 hOl (fun x q => hws x (hsub x q)) hkn') qa qc (g := mkF m pc Ls st) rfl (hsz.trans hml.symm) (Steps.refl _) (argsL := argsL) (rest := rest) (lenOf hdsc hlen) hst (by simpa using hW) (hb hb' hd) (fun _ _ => ⟨rfl, eT, hc, hs⟩)
  dsimp only [Pt.U, Pt.locs, Pt.cells, Pt.slots] at X' h2 hg l' y' z' stp hQ hC' hwd' hOl'
  subst l' y' z'
  rw [eT] at hg
  exact (G v T' T'.heap (Wk.after hall hS hk hZ hC hws hF hwd X' h2 hg hF' hC' hwd' hOl') hg hQ).back fun t q => stp.trans q
end OwnLayerMore
section OwnSteps
variable {p : Program} {l : Launch} {e : Env} {R : Room} {s : State} {m : MethodId} {args : Array Value} {below : List Frame} {meth : Method} {c : Code} {Z : State} {a0 : Array Value} {EL : List (String × Nat)} {n0 : Nat} {kn wd : Bool} {own : String} {bytes : ByteArray} {ml : Nat} {ws : List Addr} {T : State} {h : Heap} {k n : Nat} {Φ : Outcome → State → Prop} {pc pc' : Nat} {Ls : Array Slot} {st rest : List Value}
theorem s_iloadN {j : Fin 4} {v : Int32} (W : Wk p l e R s m args below meth c Z a0 EL n0 kn wd own bytes ml ws T h k n) (hd : decode bytes pc = .ok (.iload_n j, 1)) (hl : Ls[j.val]? = some (.val (.int v))) (hp : pc + 1 = pc') (G : Go p e below Φ T (mkF m pc' Ls ((.int v) :: st))) : Go p e below Φ T (mkF m pc Ls st) := by
  subst hp
  exact g1 W (fun t ha hx hb' q => XS.iloadN ha hx rfl (hb hb' hd) hl q) G
theorem s_iload {j : Nat} {v : Int32} (W : Wk p l e R s m args below meth c Z a0 EL n0 kn wd own bytes ml ws T h k n) (hd : decode bytes pc = .ok (.iload j, 2)) (hl : Ls[j]? = some (.val (.int v))) (hp : pc + 2 = pc') (G : Go p e below Φ T (mkF m pc' Ls ((.int v) :: st))) : Go p e below Φ T (mkF m pc Ls st) := by
  subst hp
  exact g1 W (fun t ha hx hb' q => XS.iload ha hx rfl (hb hb' hd) hl q) G
theorem s_lloadN {j : Fin 4} {v : Int64} (W : Wk p l e R s m args below meth c Z a0 EL n0 kn wd own bytes ml ws T h k n) (hd : decode bytes pc = .ok (.lload_n j, 1)) (hl : Ls[j.val]? = some (.val (.long v))) (hp : pc + 1 = pc') (G : Go p e below Φ T (mkF m pc' Ls ((.long v) :: st))) : Go p e below Φ T (mkF m pc Ls st) := by
  subst hp
  exact g1 W (fun t ha hx hb' q => XS.lloadN ha hx rfl (hb hb' hd) hl q) G
theorem s_lload {j : Nat} {v : Int64} (W : Wk p l e R s m args below meth c Z a0 EL n0 kn wd own bytes ml ws T h k n) (hd : decode bytes pc = .ok (.lload j, 2)) (hl : Ls[j]? = some (.val (.long v))) (hp : pc + 2 = pc') (G : Go p e below Φ T (mkF m pc' Ls ((.long v) :: st))) : Go p e below Φ T (mkF m pc Ls st) := by
  subst hp
  exact g1 W (fun t ha hx hb' q => XS.lload ha hx rfl (hb hb' hd) hl q) G
theorem s_aloadN {j : Fin 4} {v : Value} (W : Wk p l e R s m args below meth c Z a0 EL n0 kn wd own bytes ml ws T h k n) (hd : decode bytes pc = .ok (.aload_n j, 1)) (hl : Ls[j.val]? = some (.val v)) (hv : v.isRef = true) (hp : pc + 1 = pc') (G : Go p e below Φ T (mkF m pc' Ls (v :: st))) : Go p e below Φ T (mkF m pc Ls st) := by
  subst hp
  exact g1 W (fun t ha hx hb' q => XS.aloadN ha hx rfl (hb hb' hd) hl hv q) G
theorem s_aload {j : Nat} {v : Value} (W : Wk p l e R s m args below meth c Z a0 EL n0 kn wd own bytes ml ws T h k n) (hd : decode bytes pc = .ok (.aload j, 2)) (hl : Ls[j]? = some (.val v)) (hv : v.isRef = true) (hp : pc + 2 = pc') (G : Go p e below Φ T (mkF m pc' Ls (v :: st))) : Go p e below Φ T (mkF m pc Ls st) := by
  subst hp
  exact g1 W (fun t ha hx hb' q => XS.aload ha hx rfl (hb hb' hd) hl hv q) G
theorem s_istoreN {j : Fin 4} {v : Int32} {l' : Array Slot} (W : Wk p l e R s m args below meth c Z a0 EL n0 kn wd own bytes ml ws T h k n) (hd : decode bytes pc = .ok (.istore_n j, 1)) (hl : storeLocals Ls j.val (.int v) = some l') (hp : pc + 1 = pc') (G : Go p e below Φ T (mkF m pc' l' rest)) : Go p e below Φ T (mkF m pc Ls ((.int v) :: rest)) := by
  subst hp
  exact g1 W (fun t ha hx hb' q => XS.istoreN ha hx rfl (hb hb' hd) rfl hl q) G
theorem s_istore {j : Nat} {v : Int32} {l' : Array Slot} (W : Wk p l e R s m args below meth c Z a0 EL n0 kn wd own bytes ml ws T h k n) (hd : decode bytes pc = .ok (.istore j, 2)) (hl : storeLocals Ls j (.int v) = some l') (hp : pc + 2 = pc') (G : Go p e below Φ T (mkF m pc' l' rest)) : Go p e below Φ T (mkF m pc Ls ((.int v) :: rest)) := by
  subst hp
  exact g1 W (fun t ha hx hb' q => XS.istore ha hx rfl (hb hb' hd) rfl hl q) G
theorem s_lstoreN {j : Fin 4} {v : Int64} {l' : Array Slot} (W : Wk p l e R s m args below meth c Z a0 EL n0 kn wd own bytes ml ws T h k n) (hd : decode bytes pc = .ok (.lstore_n j, 1)) (hl : storeLocals Ls j.val (.long v) = some l') (hp : pc + 1 = pc') (G : Go p e below Φ T (mkF m pc' l' rest)) : Go p e below Φ T (mkF m pc Ls ((.long v) :: rest)) := by
  subst hp
  exact g1 W (fun t ha hx hb' q => XS.lstoreN ha hx rfl (hb hb' hd) rfl hl q) G
theorem s_lstore {j : Nat} {v : Int64} {l' : Array Slot} (W : Wk p l e R s m args below meth c Z a0 EL n0 kn wd own bytes ml ws T h k n) (hd : decode bytes pc = .ok (.lstore j, 2)) (hl : storeLocals Ls j (.long v) = some l') (hp : pc + 2 = pc') (G : Go p e below Φ T (mkF m pc' l' rest)) : Go p e below Φ T (mkF m pc Ls ((.long v) :: rest)) := by
  subst hp
  exact g1 W (fun t ha hx hb' q => XS.lstore ha hx rfl (hb hb' hd) rfl hl q) G
theorem s_astoreN {j : Fin 4} {v : Value} {l' : Array Slot} (W : Wk p l e R s m args below meth c Z a0 EL n0 kn wd own bytes ml ws T h k n) (hd : decode bytes pc = .ok (.astore_n j, 1)) (hv : v.isRef = true) (hl : storeLocals Ls j.val v = some l') (hp : pc + 1 = pc') (G : Go p e below Φ T (mkF m pc' l' rest)) : Go p e below Φ T (mkF m pc Ls (v :: rest)) := by
  subst hp
  exact g1 W (fun t ha hx hb' q => XS.astoreN ha hx rfl (hb hb' hd) rfl hv hl q) G
theorem s_astore {j : Nat} {v : Value} {l' : Array Slot} (W : Wk p l e R s m args below meth c Z a0 EL n0 kn wd own bytes ml ws T h k n) (hd : decode bytes pc = .ok (.astore j, 2)) (hv : v.isRef = true) (hl : storeLocals Ls j v = some l') (hp : pc + 2 = pc') (G : Go p e below Φ T (mkF m pc' l' rest)) : Go p e below Φ T (mkF m pc Ls (v :: rest)) := by
  subst hp
  exact g1 W (fun t ha hx hb' q => XS.astore ha hx rfl (hb hb' hd) rfl hv hl q) G
theorem s_iconst {i : Int} {v : Int32} (W : Wk p l e R s m args below meth c Z a0 EL n0 kn wd own bytes ml ws T h k n) (hd : decode bytes pc = .ok (.iconst i, 1)) (hv : Int32.ofInt i = v) (hp : pc + 1 = pc') (G : Go p e below Φ T (mkF m pc' Ls (.int v :: st))) : Go p e below Φ T (mkF m pc Ls st) := by
  subst hp hv
  exact g1 W (fun t ha hx hb' q => XS.iconst ha hx rfl (hb hb' hd) q) G
theorem s_bipush {i : Int} {v : Int32} (W : Wk p l e R s m args below meth c Z a0 EL n0 kn wd own bytes ml ws T h k n) (hd : decode bytes pc = .ok (.bipush i, 2)) (hv : (Int8.ofInt i).toInt32 = v) (hp : pc + 2 = pc') (G : Go p e below Φ T (mkF m pc' Ls (.int v :: st))) : Go p e below Φ T (mkF m pc Ls st) := by
  subst hp hv
  exact g1 W (fun t ha hx hb' q => XS.bipush ha hx rfl (hb hb' hd) q) G
theorem s_sipush {i : Int} {v : Int32} (W : Wk p l e R s m args below meth c Z a0 EL n0 kn wd own bytes ml ws T h k n) (hd : decode bytes pc = .ok (.sipush i, 3)) (hv : (Int16.ofInt i).toInt32 = v) (hp : pc + 3 = pc') (G : Go p e below Φ T (mkF m pc' Ls (.int v :: st))) : Go p e below Φ T (mkF m pc Ls st) := by
  subst hp hv
  exact g1 W (fun t ha hx hb' q => XS.sipush ha hx rfl (hb hb' hd) q) G
theorem s_lconst {i : Fin 2} {v : Int64} (W : Wk p l e R s m args below meth c Z a0 EL n0 kn wd own bytes ml ws T h k n) (hd : decode bytes pc = .ok (.lconst i, 1)) (hv : Int64.ofNat i = v) (hp : pc + 1 = pc') (G : Go p e below Φ T (mkF m pc' Ls (.long v :: st))) : Go p e below Φ T (mkF m pc Ls st) := by
  subst hp hv
  exact g1 W (fun t ha hx hb' q => XS.lconst ha hx rfl (hb hb' hd) q) G
theorem s_aconst_null (W : Wk p l e R s m args below meth c Z a0 EL n0 kn wd own bytes ml ws T h k n) (hd : decode bytes pc = .ok (.aconst_null, 1)) (hp : pc + 1 = pc') (G : Go p e below Φ T (mkF m pc' Ls (.null :: st))) : Go p e below Φ T (mkF m pc Ls st) := by
  subst hp
  exact g1 W (fun t ha hx hb' q => XS.aconstNull ha hx rfl (hb hb' hd)  q) G
theorem s_iadd {x y : Int32} (W : Wk p l e R s m args below meth c Z a0 EL n0 kn wd own bytes ml ws T h k n) (hd : decode bytes pc = .ok (.iadd, 1)) (hp : pc + 1 = pc') (G : Go p e below Φ T (mkF m pc' Ls (.int (x + y) :: rest))) : Go p e below Φ T (mkF m pc Ls (.int y :: .int x :: rest)) := by
  subst hp
  exact g1 W (fun t ha hx hb' q => XS.iadd ha hx rfl (hb hb' hd) rfl q) G
theorem s_isub {x y : Int32} (W : Wk p l e R s m args below meth c Z a0 EL n0 kn wd own bytes ml ws T h k n) (hd : decode bytes pc = .ok (.isub, 1)) (hp : pc + 1 = pc') (G : Go p e below Φ T (mkF m pc' Ls (.int (x - y) :: rest))) : Go p e below Φ T (mkF m pc Ls (.int y :: .int x :: rest)) := by
  subst hp
  exact g1 W (fun t ha hx hb' q => XS.isub ha hx rfl (hb hb' hd) rfl q) G
theorem s_imul {x y : Int32} (W : Wk p l e R s m args below meth c Z a0 EL n0 kn wd own bytes ml ws T h k n) (hd : decode bytes pc = .ok (.imul, 1)) (hp : pc + 1 = pc') (G : Go p e below Φ T (mkF m pc' Ls (.int (x * y) :: rest))) : Go p e below Φ T (mkF m pc Ls (.int y :: .int x :: rest)) := by
  subst hp
  exact g1 W (fun t ha hx hb' q => XS.imul ha hx rfl (hb hb' hd) rfl q) G
theorem s_iand {x y : Int32} (W : Wk p l e R s m args below meth c Z a0 EL n0 kn wd own bytes ml ws T h k n) (hd : decode bytes pc = .ok (.iand, 1)) (hp : pc + 1 = pc') (G : Go p e below Φ T (mkF m pc' Ls (.int (x &&& y) :: rest))) : Go p e below Φ T (mkF m pc Ls (.int y :: .int x :: rest)) := by
  subst hp
  exact g1 W (fun t ha hx hb' q => XS.iand ha hx rfl (hb hb' hd) rfl q) G
theorem s_ior {x y : Int32} (W : Wk p l e R s m args below meth c Z a0 EL n0 kn wd own bytes ml ws T h k n) (hd : decode bytes pc = .ok (.ior, 1)) (hp : pc + 1 = pc') (G : Go p e below Φ T (mkF m pc' Ls (.int (x ||| y) :: rest))) : Go p e below Φ T (mkF m pc Ls (.int y :: .int x :: rest)) := by
  subst hp
  exact g1 W (fun t ha hx hb' q => XS.ior ha hx rfl (hb hb' hd) rfl q) G
theorem s_ixor {x y : Int32} (W : Wk p l e R s m args below meth c Z a0 EL n0 kn wd own bytes ml ws T h k n) (hd : decode bytes pc = .ok (.ixor, 1)) (hp : pc + 1 = pc') (G : Go p e below Φ T (mkF m pc' Ls (.int (x ^^^ y) :: rest))) : Go p e below Φ T (mkF m pc Ls (.int y :: .int x :: rest)) := by
  subst hp
  exact g1 W (fun t ha hx hb' q => XS.ixor ha hx rfl (hb hb' hd) rfl q) G
theorem s_ladd {x y : Int64} (W : Wk p l e R s m args below meth c Z a0 EL n0 kn wd own bytes ml ws T h k n) (hd : decode bytes pc = .ok (.ladd, 1)) (hp : pc + 1 = pc') (G : Go p e below Φ T (mkF m pc' Ls (.long (x + y) :: rest))) : Go p e below Φ T (mkF m pc Ls (.long y :: .long x :: rest)) := by
  subst hp
  exact g1 W (fun t ha hx hb' q => XS.ladd ha hx rfl (hb hb' hd) rfl q) G
theorem s_lsub {x y : Int64} (W : Wk p l e R s m args below meth c Z a0 EL n0 kn wd own bytes ml ws T h k n) (hd : decode bytes pc = .ok (.lsub, 1)) (hp : pc + 1 = pc') (G : Go p e below Φ T (mkF m pc' Ls (.long (x - y) :: rest))) : Go p e below Φ T (mkF m pc Ls (.long y :: .long x :: rest)) := by
  subst hp
  exact g1 W (fun t ha hx hb' q => XS.lsub ha hx rfl (hb hb' hd) rfl q) G
theorem s_lmul {x y : Int64} (W : Wk p l e R s m args below meth c Z a0 EL n0 kn wd own bytes ml ws T h k n) (hd : decode bytes pc = .ok (.lmul, 1)) (hp : pc + 1 = pc') (G : Go p e below Φ T (mkF m pc' Ls (.long (x * y) :: rest))) : Go p e below Φ T (mkF m pc Ls (.long y :: .long x :: rest)) := by
  subst hp
  exact g1 W (fun t ha hx hb' q => XS.lmul ha hx rfl (hb hb' hd) rfl q) G
theorem s_land {x y : Int64} (W : Wk p l e R s m args below meth c Z a0 EL n0 kn wd own bytes ml ws T h k n) (hd : decode bytes pc = .ok (.land, 1)) (hp : pc + 1 = pc') (G : Go p e below Φ T (mkF m pc' Ls (.long (x &&& y) :: rest))) : Go p e below Φ T (mkF m pc Ls (.long y :: .long x :: rest)) := by
  subst hp
  exact g1 W (fun t ha hx hb' q => XS.land ha hx rfl (hb hb' hd) rfl q) G
theorem s_lor {x y : Int64} (W : Wk p l e R s m args below meth c Z a0 EL n0 kn wd own bytes ml ws T h k n) (hd : decode bytes pc = .ok (.lor, 1)) (hp : pc + 1 = pc') (G : Go p e below Φ T (mkF m pc' Ls (.long (x ||| y) :: rest))) : Go p e below Φ T (mkF m pc Ls (.long y :: .long x :: rest)) := by
  subst hp
  exact g1 W (fun t ha hx hb' q => XS.lor ha hx rfl (hb hb' hd) rfl q) G
theorem s_lxor {x y : Int64} (W : Wk p l e R s m args below meth c Z a0 EL n0 kn wd own bytes ml ws T h k n) (hd : decode bytes pc = .ok (.lxor, 1)) (hp : pc + 1 = pc') (G : Go p e below Φ T (mkF m pc' Ls (.long (x ^^^ y) :: rest))) : Go p e below Φ T (mkF m pc Ls (.long y :: .long x :: rest)) := by
  subst hp
  exact g1 W (fun t ha hx hb' q => XS.lxor ha hx rfl (hb hb' hd) rfl q) G
theorem s_ishl {x y : Int32} (W : Wk p l e R s m args below meth c Z a0 EL n0 kn wd own bytes ml ws T h k n) (hd : decode bytes pc = .ok (.ishl, 1)) (hp : pc + 1 = pc') (G : Go p e below Φ T (mkF m pc' Ls (.int (x <<< (y &&& 31)) :: rest))) : Go p e below Φ T (mkF m pc Ls (.int y :: .int x :: rest)) := by
  subst hp
  exact g1 W (fun t ha hx hb' q => XS.ishl ha hx rfl (hb hb' hd) rfl q) G
theorem s_ishr {x y : Int32} (W : Wk p l e R s m args below meth c Z a0 EL n0 kn wd own bytes ml ws T h k n) (hd : decode bytes pc = .ok (.ishr, 1)) (hp : pc + 1 = pc') (G : Go p e below Φ T (mkF m pc' Ls (.int (x >>> (y &&& 31)) :: rest))) : Go p e below Φ T (mkF m pc Ls (.int y :: .int x :: rest)) := by
  subst hp
  exact g1 W (fun t ha hx hb' q => XS.ishr ha hx rfl (hb hb' hd) rfl q) G
theorem s_iushr {x y : Int32} (W : Wk p l e R s m args below meth c Z a0 EL n0 kn wd own bytes ml ws T h k n) (hd : decode bytes pc = .ok (.iushr, 1)) (hp : pc + 1 = pc') (G : Go p e below Φ T (mkF m pc' Ls (.int ((x.toUInt32 >>> (y &&& 31).toUInt32).toInt32) :: rest))) : Go p e below Φ T (mkF m pc Ls (.int y :: .int x :: rest)) := by
  subst hp
  exact g1 W (fun t ha hx hb' q => XS.iushr ha hx rfl (hb hb' hd) rfl q) G
theorem s_lshl {x : Int64} {y : Int32} (W : Wk p l e R s m args below meth c Z a0 EL n0 kn wd own bytes ml ws T h k n) (hd : decode bytes pc = .ok (.lshl, 1)) (hp : pc + 1 = pc') (G : Go p e below Φ T (mkF m pc' Ls (.long (x <<< (y &&& 0x3f).toInt64) :: rest))) : Go p e below Φ T (mkF m pc Ls (.int y :: .long x :: rest)) := by
  subst hp
  exact g1 W (fun t ha hx hb' q => XS.lshl ha hx rfl (hb hb' hd) rfl q) G
theorem s_lshr {x : Int64} {y : Int32} (W : Wk p l e R s m args below meth c Z a0 EL n0 kn wd own bytes ml ws T h k n) (hd : decode bytes pc = .ok (.lshr, 1)) (hp : pc + 1 = pc') (G : Go p e below Φ T (mkF m pc' Ls (.long (x >>> (y &&& 0x3f).toInt64) :: rest))) : Go p e below Φ T (mkF m pc Ls (.int y :: .long x :: rest)) := by
  subst hp
  exact g1 W (fun t ha hx hb' q => XS.lshr ha hx rfl (hb hb' hd) rfl q) G
theorem s_lushr {x : Int64} {y : Int32} (W : Wk p l e R s m args below meth c Z a0 EL n0 kn wd own bytes ml ws T h k n) (hd : decode bytes pc = .ok (.lushr, 1)) (hp : pc + 1 = pc') (G : Go p e below Φ T (mkF m pc' Ls (.long ((x.toUInt64 >>> (y &&& 0x3f).toInt64.toUInt64).toInt64) :: rest))) : Go p e below Φ T (mkF m pc Ls (.int y :: .long x :: rest)) := by
  subst hp
  exact g1 W (fun t ha hx hb' q => XS.lushr ha hx rfl (hb hb' hd) rfl q) G
theorem s_idiv {x y : Int32} (W : Wk p l e R s m args below meth c Z a0 EL n0 kn wd own bytes ml ws T h k n) (hd : decode bytes pc = .ok (.idiv, 1)) (hy : y ≠ 0) (hp : pc + 1 = pc') (G : Go p e below Φ T (mkF m pc' Ls (.int (x / y) :: rest))) : Go p e below Φ T (mkF m pc Ls (.int y :: .int x :: rest)) := by
  subst hp
  exact g1 W (fun t ha hx hb' q => XS.idiv ha hx rfl (hb hb' hd) rfl hy q) G
theorem s_irem {x y : Int32} (W : Wk p l e R s m args below meth c Z a0 EL n0 kn wd own bytes ml ws T h k n) (hd : decode bytes pc = .ok (.irem, 1)) (hy : y ≠ 0) (hp : pc + 1 = pc') (G : Go p e below Φ T (mkF m pc' Ls (.int (x % y) :: rest))) : Go p e below Φ T (mkF m pc Ls (.int y :: .int x :: rest)) := by
  subst hp
  exact g2 W (fun vm0 locs X hx hb' hZ eT hO t q => iremM (g := mkF m pc Ls (.int y :: .int x :: rest)) X hx rfl (hb hb' hd) rfl hy q) G
theorem s_ldiv {x y : Int64} (W : Wk p l e R s m args below meth c Z a0 EL n0 kn wd own bytes ml ws T h k n) (hd : decode bytes pc = .ok (.ldiv, 1)) (hy : y ≠ 0) (hp : pc + 1 = pc') (G : Go p e below Φ T (mkF m pc' Ls (.long (x / y) :: rest))) : Go p e below Φ T (mkF m pc Ls (.long y :: .long x :: rest)) := by
  subst hp
  exact g1 W (fun t ha hx hb' q => XS.ldiv ha hx rfl (hb hb' hd) rfl hy q) G
theorem s_ineg {x : Int32} (W : Wk p l e R s m args below meth c Z a0 EL n0 kn wd own bytes ml ws T h k n) (hd : decode bytes pc = .ok (.ineg, 1)) (hp : pc + 1 = pc') (G : Go p e below Φ T (mkF m pc' Ls (.int (-x) :: rest))) : Go p e below Φ T (mkF m pc Ls (.int x :: rest)) := by
  subst hp
  exact g1 W (fun t ha hx hb' q => XS.ineg ha hx rfl (hb hb' hd) rfl q) G
theorem s_lneg {x : Int64} (W : Wk p l e R s m args below meth c Z a0 EL n0 kn wd own bytes ml ws T h k n) (hd : decode bytes pc = .ok (.lneg, 1)) (hp : pc + 1 = pc') (G : Go p e below Φ T (mkF m pc' Ls (.long (-x) :: rest))) : Go p e below Φ T (mkF m pc Ls (.long x :: rest)) := by
  subst hp
  exact g1 W (fun t ha hx hb' q => XS.lneg ha hx rfl (hb hb' hd) rfl q) G
theorem s_i2l {x : Int32} (W : Wk p l e R s m args below meth c Z a0 EL n0 kn wd own bytes ml ws T h k n) (hd : decode bytes pc = .ok (.i2l, 1)) (hp : pc + 1 = pc') (G : Go p e below Φ T (mkF m pc' Ls (.long x.toInt64 :: rest))) : Go p e below Φ T (mkF m pc Ls (.int x :: rest)) := by
  subst hp
  exact g1 W (fun t ha hx hb' q => XS.i2l ha hx rfl (hb hb' hd) rfl q) G
theorem s_l2i {x : Int64} (W : Wk p l e R s m args below meth c Z a0 EL n0 kn wd own bytes ml ws T h k n) (hd : decode bytes pc = .ok (.l2i, 1)) (hp : pc + 1 = pc') (G : Go p e below Φ T (mkF m pc' Ls (.int x.toInt32 :: rest))) : Go p e below Φ T (mkF m pc Ls (.long x :: rest)) := by
  subst hp
  exact g1 W (fun t ha hx hb' q => XS.l2i ha hx rfl (hb hb' hd) rfl q) G
theorem s_i2b {x : Int32} (W : Wk p l e R s m args below meth c Z a0 EL n0 kn wd own bytes ml ws T h k n) (hd : decode bytes pc = .ok (.i2b, 1)) (hp : pc + 1 = pc') (G : Go p e below Φ T (mkF m pc' Ls (.int x.toInt8.toInt32 :: rest))) : Go p e below Φ T (mkF m pc Ls (.int x :: rest)) := by
  subst hp
  exact g1 W (fun t ha hx hb' q => XS.i2b ha hx rfl (hb hb' hd) rfl q) G
theorem s_i2s {x : Int32} (W : Wk p l e R s m args below meth c Z a0 EL n0 kn wd own bytes ml ws T h k n) (hd : decode bytes pc = .ok (.i2s, 1)) (hp : pc + 1 = pc') (G : Go p e below Φ T (mkF m pc' Ls (.int x.toInt16.toInt32 :: rest))) : Go p e below Φ T (mkF m pc Ls (.int x :: rest)) := by
  subst hp
  exact g1 W (fun t ha hx hb' q => XS.i2s ha hx rfl (hb hb' hd) rfl q) G
theorem s_i2c {x : Int32} (W : Wk p l e R s m args below meth c Z a0 EL n0 kn wd own bytes ml ws T h k n) (hd : decode bytes pc = .ok (.i2c, 1)) (hp : pc + 1 = pc') (G : Go p e below Φ T (mkF m pc' Ls (.int x.toUInt32.toUInt16.toUInt32.toInt32 :: rest))) : Go p e below Φ T (mkF m pc Ls (.int x :: rest)) := by
  subst hp
  exact g1 W (fun t ha hx hb' q => XS.i2c ha hx rfl (hb hb' hd) rfl q) G
theorem s_lcmp {x y : Int64} (W : Wk p l e R s m args below meth c Z a0 EL n0 kn wd own bytes ml ws T h k n) (hd : decode bytes pc = .ok (.lcmp, 1)) (hp : pc + 1 = pc') (G : Go p e below Φ T (mkF m pc' Ls (.int (lcmpW x y) :: rest))) : Go p e below Φ T (mkF m pc Ls (.long y :: .long x :: rest)) := by
  subst hp
  exact g1 W (fun t ha hx hb' q => XS.lcmp ha hx rfl (hb hb' hd) rfl q) G
theorem s_dup {v : Value} (W : Wk p l e R s m args below meth c Z a0 EL n0 kn wd own bytes ml ws T h k n) (hd : decode bytes pc = .ok (.dup, 1)) (hv : v.category = 1) (hp : pc + 1 = pc') (G : Go p e below Φ T (mkF m pc' Ls (v :: v :: rest))) : Go p e below Φ T (mkF m pc Ls (v :: rest)) := by
  subst hp
  exact g1 W (fun t ha hx hb' q => XS.dup ha hx rfl (hb hb' hd) rfl hv q) G
theorem s_pop {v : Value} (W : Wk p l e R s m args below meth c Z a0 EL n0 kn wd own bytes ml ws T h k n) (hd : decode bytes pc = .ok (.pop, 1)) (hv : v.category = 1) (hp : pc + 1 = pc') (G : Go p e below Φ T (mkF m pc' Ls rest)) : Go p e below Φ T (mkF m pc Ls (v :: rest)) := by
  subst hp
  exact g1 W (fun t ha hx hb' q => XS.pop ha hx rfl (hb hb' hd) rfl hv q) G
theorem s_dup_x1 {v w : Value} (W : Wk p l e R s m args below meth c Z a0 EL n0 kn wd own bytes ml ws T h k n) (hd : decode bytes pc = .ok (.dup_x1, 1)) (hv : v.category = 1) (hw' : w.category = 1) (hp : pc + 1 = pc') (G : Go p e below Φ T (mkF m pc' Ls (v :: w :: v :: rest))) : Go p e below Φ T (mkF m pc Ls (v :: w :: rest)) := by
  subst hp
  exact g1 W (fun t ha hx hb' q => XS.dupX1 ha hx rfl (hb hb' hd) rfl hv hw' q) G
theorem s_dup2 {v w : Value} (W : Wk p l e R s m args below meth c Z a0 EL n0 kn wd own bytes ml ws T h k n) (hd : decode bytes pc = .ok (.dup2, 1)) (hv : v.category = 1) (hw' : w.category = 1) (hp : pc + 1 = pc') (G : Go p e below Φ T (mkF m pc' Ls (v :: w :: v :: w :: rest))) : Go p e below Φ T (mkF m pc Ls (v :: w :: rest)) := by
  subst hp
  exact g1 W (fun t ha hx hb' q => XT.dup2 ha hx rfl (hb hb' hd) rfl hv hw' q) G
theorem s_dup2L {x : Int64} (W : Wk p l e R s m args below meth c Z a0 EL n0 kn wd own bytes ml ws T h k n) (hd : decode bytes pc = .ok (.dup2, 1)) (hp : pc + 1 = pc') (G : Go p e below Φ T (mkF m pc' Ls (.long x :: .long x :: rest))) : Go p e below Φ T (mkF m pc Ls (.long x :: rest)) := by
  subst hp
  exact g1 W (fun t ha hx hb' q => XT.dup2L ha hx rfl (hb hb' hd) rfl q) G
theorem s_iinc {j : Nat} {cst : Int} {x v : Int32} {l' : Array Slot} (W : Wk p l e R s m args below meth c Z a0 EL n0 kn wd own bytes ml ws T h k n) (hd : decode bytes pc = .ok (.iinc j cst, 3)) (hv : Int32.ofInt cst = v) (hl : Ls[j]? = some (.val (.int x))) (hl' : storeLocals Ls j (.int (x + v)) = some l') (hp : pc + 3 = pc') (G : Go p e below Φ T (mkF m pc' l' st)) : Go p e below Φ T (mkF m pc Ls st) := by
  subst hp hv
  exact g1 W (fun t ha hx hb' q => XS.iinc ha hx rfl (hb hb' hd) hl hl' q) G
theorem s_goto {o : Int} (W : Wk p l e R s m args below meth c Z a0 EL n0 kn wd own bytes ml ws T h k n) (hd : decode bytes pc = .ok (.goto o, 3)) (ho : 0 ≤ (pc : Int) + o) (hp : ((pc : Int) + o).toNat = pc') (G : Go p e below Φ T (mkF m pc' Ls st)) : Go p e below Φ T (mkF m pc Ls st) := by
  subst hp
  exact g1 W (fun t ha hx hb' q => XS.goto ha hx rfl rfl (hb hb' hd) ho rfl q) G
theorem s_ifeq {o : Int} {pc1 pc2 : Nat} {x : Int32} (W : Wk p l e R s m args below meth c Z a0 EL n0 kn wd own bytes ml ws T h k n) (hd : decode bytes pc = .ok (.ifCond .eq o, 3)) (ho : 0 ≤ (pc : Int) + o) (hp1 : ((pc : Int) + o).toNat = pc1) (hp2 : pc + 3 = pc2) (G1 : x = (0 : Int32) → Go p e below Φ T (mkF m pc1 Ls rest)) (G2 : ¬ x = (0 : Int32) → Go p e below Φ T (mkF m pc2 Ls rest)) : Go p e below Φ T (mkF m pc Ls (.int x :: rest)) := by
  subst hp1 hp2
  by_cases q : x = (0 : Int32)
  · exact g1 W (fun t ha hx hb' q' => XS.ifYes ha hx rfl rfl (hb hb' hd) rfl ((if0 _ _).trans (teq q).1) ho rfl q') (G1 q)
  · have q : ¬ x = (0 : Int32) := by first | exact q | exact Classical.not_not.mp q
    exact g1 W (fun t ha hx hb' q' => XS.ifNo ha hx rfl (hb hb' hd) rfl ((if0 _ _).trans (feq q).1) q') (G2 q)
theorem s_icmpeq {o : Int} {pc1 pc2 : Nat} {x y : Int32} (W : Wk p l e R s m args below meth c Z a0 EL n0 kn wd own bytes ml ws T h k n) (hd : decode bytes pc = .ok (.if_icmp .eq o, 3)) (ho : 0 ≤ (pc : Int) + o) (hp1 : ((pc : Int) + o).toNat = pc1) (hp2 : pc + 3 = pc2) (G1 : x = y → Go p e below Φ T (mkF m pc1 Ls rest)) (G2 : ¬ x = y → Go p e below Φ T (mkF m pc2 Ls rest)) : Go p e below Φ T (mkF m pc Ls (.int y :: .int x :: rest)) := by
  subst hp1 hp2
  by_cases q : x = y
  · exact g1 W (fun t ha hx hb' q' => XS.icmpYes ha hx rfl rfl (hb hb' hd) rfl (teq q).1 ho rfl q') (G1 q)
  · have q : ¬ x = y := by first | exact q | exact Classical.not_not.mp q
    exact g1 W (fun t ha hx hb' q' => XS.icmpNo ha hx rfl (hb hb' hd) rfl (feq q).1 q') (G2 q)
theorem s_ifne {o : Int} {pc1 pc2 : Nat} {x : Int32} (W : Wk p l e R s m args below meth c Z a0 EL n0 kn wd own bytes ml ws T h k n) (hd : decode bytes pc = .ok (.ifCond .ne o, 3)) (ho : 0 ≤ (pc : Int) + o) (hp1 : ((pc : Int) + o).toNat = pc1) (hp2 : pc + 3 = pc2) (G1 : ¬ x = (0 : Int32) → Go p e below Φ T (mkF m pc1 Ls rest)) (G2 : x = (0 : Int32) → Go p e below Φ T (mkF m pc2 Ls rest)) : Go p e below Φ T (mkF m pc Ls (.int x :: rest)) := by
  subst hp1 hp2
  by_cases q : ¬ x = (0 : Int32)
  · exact g1 W (fun t ha hx hb' q' => XS.ifYes ha hx rfl rfl (hb hb' hd) rfl ((if0 _ _).trans (feq q).2) ho rfl q') (G1 q)
  · have q : x = (0 : Int32) := by first | exact q | exact Classical.not_not.mp q
    exact g1 W (fun t ha hx hb' q' => XS.ifNo ha hx rfl (hb hb' hd) rfl ((if0 _ _).trans (teq q).2) q') (G2 q)
theorem s_icmpne {o : Int} {pc1 pc2 : Nat} {x y : Int32} (W : Wk p l e R s m args below meth c Z a0 EL n0 kn wd own bytes ml ws T h k n) (hd : decode bytes pc = .ok (.if_icmp .ne o, 3)) (ho : 0 ≤ (pc : Int) + o) (hp1 : ((pc : Int) + o).toNat = pc1) (hp2 : pc + 3 = pc2) (G1 : ¬ x = y → Go p e below Φ T (mkF m pc1 Ls rest)) (G2 : x = y → Go p e below Φ T (mkF m pc2 Ls rest)) : Go p e below Φ T (mkF m pc Ls (.int y :: .int x :: rest)) := by
  subst hp1 hp2
  by_cases q : ¬ x = y
  · exact g1 W (fun t ha hx hb' q' => XS.icmpYes ha hx rfl rfl (hb hb' hd) rfl (feq q).2 ho rfl q') (G1 q)
  · have q : x = y := by first | exact q | exact Classical.not_not.mp q
    exact g1 W (fun t ha hx hb' q' => XS.icmpNo ha hx rfl (hb hb' hd) rfl (teq q).2 q') (G2 q)
theorem s_iflt {o : Int} {pc1 pc2 : Nat} {x : Int32} (W : Wk p l e R s m args below meth c Z a0 EL n0 kn wd own bytes ml ws T h k n) (hd : decode bytes pc = .ok (.ifCond .lt o, 3)) (ho : 0 ≤ (pc : Int) + o) (hp1 : ((pc : Int) + o).toNat = pc1) (hp2 : pc + 3 = pc2) (G1 : x < (0 : Int32) → Go p e below Φ T (mkF m pc1 Ls rest)) (G2 : ¬ x < (0 : Int32) → Go p e below Φ T (mkF m pc2 Ls rest)) : Go p e below Φ T (mkF m pc Ls (.int x :: rest)) := by
  subst hp1 hp2
  by_cases q : x < (0 : Int32)
  · exact g1 W (fun t ha hx hb' q' => XS.ifYes ha hx rfl rfl (hb hb' hd) rfl ((if0 _ _).trans (tlt q).1) ho rfl q') (G1 q)
  · have q : ¬ x < (0 : Int32) := by first | exact q | exact Classical.not_not.mp q
    exact g1 W (fun t ha hx hb' q' => XS.ifNo ha hx rfl (hb hb' hd) rfl ((if0 _ _).trans (flt q).1) q') (G2 q)
theorem s_icmplt {o : Int} {pc1 pc2 : Nat} {x y : Int32} (W : Wk p l e R s m args below meth c Z a0 EL n0 kn wd own bytes ml ws T h k n) (hd : decode bytes pc = .ok (.if_icmp .lt o, 3)) (ho : 0 ≤ (pc : Int) + o) (hp1 : ((pc : Int) + o).toNat = pc1) (hp2 : pc + 3 = pc2) (G1 : x < y → Go p e below Φ T (mkF m pc1 Ls rest)) (G2 : ¬ x < y → Go p e below Φ T (mkF m pc2 Ls rest)) : Go p e below Φ T (mkF m pc Ls (.int y :: .int x :: rest)) := by
  subst hp1 hp2
  by_cases q : x < y
  · exact g1 W (fun t ha hx hb' q' => XS.icmpYes ha hx rfl rfl (hb hb' hd) rfl (tlt q).1 ho rfl q') (G1 q)
  · have q : ¬ x < y := by first | exact q | exact Classical.not_not.mp q
    exact g1 W (fun t ha hx hb' q' => XS.icmpNo ha hx rfl (hb hb' hd) rfl (flt q).1 q') (G2 q)
theorem s_ifge {o : Int} {pc1 pc2 : Nat} {x : Int32} (W : Wk p l e R s m args below meth c Z a0 EL n0 kn wd own bytes ml ws T h k n) (hd : decode bytes pc = .ok (.ifCond .ge o, 3)) (ho : 0 ≤ (pc : Int) + o) (hp1 : ((pc : Int) + o).toNat = pc1) (hp2 : pc + 3 = pc2) (G1 : ¬ x < (0 : Int32) → Go p e below Φ T (mkF m pc1 Ls rest)) (G2 : x < (0 : Int32) → Go p e below Φ T (mkF m pc2 Ls rest)) : Go p e below Φ T (mkF m pc Ls (.int x :: rest)) := by
  subst hp1 hp2
  by_cases q : ¬ x < (0 : Int32)
  · exact g1 W (fun t ha hx hb' q' => XS.ifYes ha hx rfl rfl (hb hb' hd) rfl ((if0 _ _).trans (flt q).2.1) ho rfl q') (G1 q)
  · have q : x < (0 : Int32) := by first | exact q | exact Classical.not_not.mp q
    exact g1 W (fun t ha hx hb' q' => XS.ifNo ha hx rfl (hb hb' hd) rfl ((if0 _ _).trans (tlt q).2.1) q') (G2 q)
theorem s_icmpge {o : Int} {pc1 pc2 : Nat} {x y : Int32} (W : Wk p l e R s m args below meth c Z a0 EL n0 kn wd own bytes ml ws T h k n) (hd : decode bytes pc = .ok (.if_icmp .ge o, 3)) (ho : 0 ≤ (pc : Int) + o) (hp1 : ((pc : Int) + o).toNat = pc1) (hp2 : pc + 3 = pc2) (G1 : ¬ x < y → Go p e below Φ T (mkF m pc1 Ls rest)) (G2 : x < y → Go p e below Φ T (mkF m pc2 Ls rest)) : Go p e below Φ T (mkF m pc Ls (.int y :: .int x :: rest)) := by
  subst hp1 hp2
  by_cases q : ¬ x < y
  · exact g1 W (fun t ha hx hb' q' => XS.icmpYes ha hx rfl rfl (hb hb' hd) rfl (flt q).2.1 ho rfl q') (G1 q)
  · have q : x < y := by first | exact q | exact Classical.not_not.mp q
    exact g1 W (fun t ha hx hb' q' => XS.icmpNo ha hx rfl (hb hb' hd) rfl (tlt q).2.1 q') (G2 q)
theorem s_ifgt {o : Int} {pc1 pc2 : Nat} {x : Int32} (W : Wk p l e R s m args below meth c Z a0 EL n0 kn wd own bytes ml ws T h k n) (hd : decode bytes pc = .ok (.ifCond .gt o, 3)) (ho : 0 ≤ (pc : Int) + o) (hp1 : ((pc : Int) + o).toNat = pc1) (hp2 : pc + 3 = pc2) (G1 : (0 : Int32) < x → Go p e below Φ T (mkF m pc1 Ls rest)) (G2 : ¬ (0 : Int32) < x → Go p e below Φ T (mkF m pc2 Ls rest)) : Go p e below Φ T (mkF m pc Ls (.int x :: rest)) := by
  subst hp1 hp2
  by_cases q : (0 : Int32) < x
  · exact g1 W (fun t ha hx hb' q' => XS.ifYes ha hx rfl rfl (hb hb' hd) rfl ((if0 _ _).trans (tlt q).2.2.1) ho rfl q') (G1 q)
  · have q : ¬ (0 : Int32) < x := by first | exact q | exact Classical.not_not.mp q
    exact g1 W (fun t ha hx hb' q' => XS.ifNo ha hx rfl (hb hb' hd) rfl ((if0 _ _).trans (flt q).2.2.1) q') (G2 q)
theorem s_icmpgt {o : Int} {pc1 pc2 : Nat} {x y : Int32} (W : Wk p l e R s m args below meth c Z a0 EL n0 kn wd own bytes ml ws T h k n) (hd : decode bytes pc = .ok (.if_icmp .gt o, 3)) (ho : 0 ≤ (pc : Int) + o) (hp1 : ((pc : Int) + o).toNat = pc1) (hp2 : pc + 3 = pc2) (G1 : y < x → Go p e below Φ T (mkF m pc1 Ls rest)) (G2 : ¬ y < x → Go p e below Φ T (mkF m pc2 Ls rest)) : Go p e below Φ T (mkF m pc Ls (.int y :: .int x :: rest)) := by
  subst hp1 hp2
  by_cases q : y < x
  · exact g1 W (fun t ha hx hb' q' => XS.icmpYes ha hx rfl rfl (hb hb' hd) rfl (tlt q).2.2.1 ho rfl q') (G1 q)
  · have q : ¬ y < x := by first | exact q | exact Classical.not_not.mp q
    exact g1 W (fun t ha hx hb' q' => XS.icmpNo ha hx rfl (hb hb' hd) rfl (flt q).2.2.1 q') (G2 q)
theorem s_ifle {o : Int} {pc1 pc2 : Nat} {x : Int32} (W : Wk p l e R s m args below meth c Z a0 EL n0 kn wd own bytes ml ws T h k n) (hd : decode bytes pc = .ok (.ifCond .le o, 3)) (ho : 0 ≤ (pc : Int) + o) (hp1 : ((pc : Int) + o).toNat = pc1) (hp2 : pc + 3 = pc2) (G1 : ¬ (0 : Int32) < x → Go p e below Φ T (mkF m pc1 Ls rest)) (G2 : (0 : Int32) < x → Go p e below Φ T (mkF m pc2 Ls rest)) : Go p e below Φ T (mkF m pc Ls (.int x :: rest)) := by
  subst hp1 hp2
  by_cases q : ¬ (0 : Int32) < x
  · exact g1 W (fun t ha hx hb' q' => XS.ifYes ha hx rfl rfl (hb hb' hd) rfl ((if0 _ _).trans (flt q).2.2.2) ho rfl q') (G1 q)
  · have q : (0 : Int32) < x := by first | exact q | exact Classical.not_not.mp q
    exact g1 W (fun t ha hx hb' q' => XS.ifNo ha hx rfl (hb hb' hd) rfl ((if0 _ _).trans (tlt q).2.2.2) q') (G2 q)
theorem s_icmple {o : Int} {pc1 pc2 : Nat} {x y : Int32} (W : Wk p l e R s m args below meth c Z a0 EL n0 kn wd own bytes ml ws T h k n) (hd : decode bytes pc = .ok (.if_icmp .le o, 3)) (ho : 0 ≤ (pc : Int) + o) (hp1 : ((pc : Int) + o).toNat = pc1) (hp2 : pc + 3 = pc2) (G1 : ¬ y < x → Go p e below Φ T (mkF m pc1 Ls rest)) (G2 : y < x → Go p e below Φ T (mkF m pc2 Ls rest)) : Go p e below Φ T (mkF m pc Ls (.int y :: .int x :: rest)) := by
  subst hp1 hp2
  by_cases q : ¬ y < x
  · exact g1 W (fun t ha hx hb' q' => XS.icmpYes ha hx rfl rfl (hb hb' hd) rfl (flt q).2.2.2 ho rfl q') (G1 q)
  · have q : y < x := by first | exact q | exact Classical.not_not.mp q
    exact g1 W (fun t ha hx hb' q' => XS.icmpNo ha hx rfl (hb hb' hd) rfl (tlt q).2.2.2 q') (G2 q)
theorem s_ifnull {o : Int} {pc1 pc2 : Nat} {v : Value} (W : Wk p l e R s m args below meth c Z a0 EL n0 kn wd own bytes ml ws T h k n) (hd : decode bytes pc = .ok (.ifnull o, 3)) (hv : v.isRef = true) (ho : 0 ≤ (pc : Int) + o) (hp1 : ((pc : Int) + o).toNat = pc1) (hp2 : pc + 3 = pc2) (G1 : v = .null → Go p e below Φ T (mkF m pc1 Ls rest)) (G2 : ¬ v = .null → Go p e below Φ T (mkF m pc2 Ls rest)) : Go p e below Φ T (mkF m pc Ls (v :: rest)) := by
  subst hp1 hp2
  by_cases q : v = .null
  · exact g1 W (fun t ha hx hb' q' => XT.nullYes ha hx rfl rfl (hb hb' hd) rfl q ho rfl q') (G1 q)
  · have q : ¬ v = .null := by first | exact q | exact Classical.not_not.mp q
    exact g1 W (fun t ha hx hb' q' => XT.nullNo ha hx rfl (hb hb' hd) rfl hv q q') (G2 q)
theorem s_ifnonnull {o : Int} {pc1 pc2 : Nat} {v : Value} (W : Wk p l e R s m args below meth c Z a0 EL n0 kn wd own bytes ml ws T h k n) (hd : decode bytes pc = .ok (.ifnonnull o, 3)) (hv : v.isRef = true) (ho : 0 ≤ (pc : Int) + o) (hp1 : ((pc : Int) + o).toNat = pc1) (hp2 : pc + 3 = pc2) (G1 : ¬ v = .null → Go p e below Φ T (mkF m pc1 Ls rest)) (G2 : v = .null → Go p e below Φ T (mkF m pc2 Ls rest)) : Go p e below Φ T (mkF m pc Ls (v :: rest)) := by
  subst hp1 hp2
  by_cases q : ¬ v = .null
  · exact g1 W (fun t ha hx hb' q' => XT.nonnullYes ha hx rfl rfl (hb hb' hd) rfl hv q ho rfl q') (G1 q)
  · have q : v = .null := by first | exact q | exact Classical.not_not.mp q
    exact g1 W (fun t ha hx hb' q' => XT.nonnullNo ha hx rfl (hb hb' hd) rfl q q') (G2 q)
theorem s_acmpeq {o : Int} {pc1 pc2 : Nat} {v w : Value} (W : Wk p l e R s m args below meth c Z a0 EL n0 kn wd own bytes ml ws T h k n) (hd : decode bytes pc = .ok (.if_acmp .eq o, 3)) (hv : v.isRef = true) (hw' : w.isRef = true) (ho : 0 ≤ (pc : Int) + o) (hp1 : ((pc : Int) + o).toNat = pc1) (hp2 : pc + 3 = pc2) (G1 : v = w → Go p e below Φ T (mkF m pc1 Ls rest)) (G2 : ¬ v = w → Go p e below Φ T (mkF m pc2 Ls rest)) : Go p e below Φ T (mkF m pc Ls (w :: v :: rest)) := by
  subst hp1 hp2
  by_cases q : v = w
  · exact g1 W (fun t ha hx hb' q' => XT.acmpYes ha hx rfl rfl (hb hb' hd) rfl hv hw' (decide_eq_true q) ho rfl q') (G1 q)
  · have q : ¬ v = w := by first | exact q | exact Classical.not_not.mp q
    exact g1 W (fun t ha hx hb' q' => XT.acmpNo ha hx rfl (hb hb' hd) rfl hv hw' (decide_eq_false q) q') (G2 q)
theorem s_acmpne {o : Int} {pc1 pc2 : Nat} {v w : Value} (W : Wk p l e R s m args below meth c Z a0 EL n0 kn wd own bytes ml ws T h k n) (hd : decode bytes pc = .ok (.if_acmp .ne o, 3)) (hv : v.isRef = true) (hw' : w.isRef = true) (ho : 0 ≤ (pc : Int) + o) (hp1 : ((pc : Int) + o).toNat = pc1) (hp2 : pc + 3 = pc2) (G1 : ¬ v = w → Go p e below Φ T (mkF m pc1 Ls rest)) (G2 : v = w → Go p e below Φ T (mkF m pc2 Ls rest)) : Go p e below Φ T (mkF m pc Ls (w :: v :: rest)) := by
  subst hp1 hp2
  by_cases q : ¬ v = w
  · exact g1 W (fun t ha hx hb' q' => XT.acmpYes ha hx rfl rfl (hb hb' hd) rfl hv hw' (decide_eq_true q) ho rfl q') (G1 q)
  · have q : v = w := by first | exact q | exact Classical.not_not.mp q
    exact g1 W (fun t ha hx hb' q' => XT.acmpNo ha hx rfl (hb hb' hd) rfl hv hw' (decide_eq_false (fun r => r q)) q') (G2 q)
theorem s_ldcI {index : Nat} {v : Int32} (W : Wk p l e R s m args below meth c Z a0 EL n0 kn wd own bytes ml ws T h k n) (w : (Jvm.Cond.constant own index v).before a0 Z = true) (hd : decode bytes pc = .ok (.ldc index, 2)) (hp : pc + 2 = pc') (G : Go p e below Φ T (mkF m pc' Ls (.int v :: st))) : Go p e below Φ T (mkF m pc Ls st) := by
  subst hp
  exact g2 W (fun vm0 locs X hx hb' hZ eT hO t q => X.ldcInt hx hO (mv (s := s.setVm vm0) hZ w) (g := mkF m pc Ls st) rfl (hb hb' hd) t q) G
theorem s_ldcJ {index : Nat} {v : Int64} (W : Wk p l e R s m args below meth c Z a0 EL n0 kn wd own bytes ml ws T h k n) (w : (Jvm.Cond.constantLong own index v).before a0 Z = true) (hd : decode bytes pc = .ok (.ldc2_w index, 3)) (hp : pc + 3 = pc') (G : Go p e below Φ T (mkF m pc' Ls (.long v :: st))) : Go p e below Φ T (mkF m pc Ls st) := by
  subst hp
  exact g2 W (fun vm0 locs X hx hb' hZ eT hO t q => X.ldc2Long hx hO (mv (s := s.setVm vm0) hZ w) (g := mkF m pc Ls st) rfl (hb hb' hd) t q) G
theorem s_castNull {index : Nat} (W : Wk p l e R s m args below meth c Z a0 EL n0 kn wd own bytes ml ws T h k n) (hd : decode bytes pc = .ok (.checkcast index, 3)) (hp : pc + 3 = pc') (G : Go p e below Φ T (mkF m pc' Ls (.null :: rest))) : Go p e below Φ T (mkF m pc Ls (.null :: rest)) := by
  subst hp
  exact g2 W (fun vm0 locs X hx hb' hZ eT hO t q => X.checkcastNull hx (g := mkF m pc Ls (.null :: rest)) rfl rfl (hb hb' hd) t q) G
theorem s_instNull {index : Nat} (W : Wk p l e R s m args below meth c Z a0 EL n0 kn wd own bytes ml ws T h k n) (hd : decode bytes pc = .ok (.instanceof index, 3)) (hp : pc + 3 = pc') (G : Go p e below Φ T (mkF m pc' Ls (.int 0 :: rest))) : Go p e below Φ T (mkF m pc Ls (.null :: rest)) := by
  subst hp
  exact g2 W (fun vm0 locs X hx hb' hZ eT hO t q => X.instanceofNull hx (g := mkF m pc Ls (.null :: rest)) rfl rfl (hb hb' hd) t q) G
theorem Go.cast {f f' : JFrame} (q : f = f') (G : Go p e below Φ T f') : Go p e below Φ T f := q ▸ G
end OwnSteps
section OwnNat
theorem natlt {a n : Nat} (q : a < n) : a < n := q
theorem natle {a n : Nat} (q : a ≤ n) : a ≤ n := q
theorem nateq {a n : Nat} (q : a = n) : a = n := q
theorem ane {a b : Nat} (q : a < b ∨ b < a) : a ≠ b := by omega
end OwnNat
section OwnFacts
variable {Z : State} {h h' h0 : Heap} {a b : Addr} {ws : List Addr} {v w : Value}
theorem isRef_cat (q : v.isRef = true) : v.category = 1 := by cases v <;> first | rfl | (simp [Value.isRef] at q)
theorem narrow_ref {ty : FieldType} (q : v.isRef = true) : narrow ty v = v := by cases v <;> first | (simp [Value.isRef] at q; done) | (cases ty <;> rfl)
theorem fits_ref' {ty : FieldType} (ht : ty.isReference = true) (q : v.isRef = true) : fits ty v = true := by cases ty <;> cases v <;> first | rfl | (simp [Value.isRef] at q; done) | (simp [FieldType.isReference] at ht; done)
/-- a String, its byte array, its coder -/
def Str (Z : State) (h : Heap) (a b : Addr) (kb : ClassId) (cd z : Int32) (bs : List Value) : Prop := Exa Z h a "java/lang/String" ∧ Fld Z h a "java/lang/String" "value" "[B" (.ref b) ∧ Fld Z h a "java/lang/String" "coder" "B" (.int cd) ∧ Arv Z h b kb .byte z bs (.int 0)
theorem Str.keep {kb : ClassId} {cd z : Int32} {bs : List Value} (S : Str Z h a b kb cd z bs) (K : Keep h h' ws) (ha : a ∉ ws) (hb : b ∉ ws) : Str Z h' a b kb cd z bs := ⟨S.1.keep K, S.2.1.keep K ha, S.2.2.1.keep K ha, S.2.2.2.keep K hb⟩
theorem Str.ext {kb : ClassId} {cd z : Int32} {bs : List Value} (S : Str Z h a b kb cd z bs) (E : Ext h h') : Str Z h' a b kb cd z bs := ⟨S.1.ext E, S.2.1.ext E, S.2.2.1.ext E, S.2.2.2.ext E⟩
theorem Unt.keep' (U : Unt h a) (K : Keep h h' ws) (q : a ∉ ws) : Unt h' a := Unt.keep K q U
def One1 (s : Slot) : Prop := s = .unset ∨ ∃ v, s = .val v ∧ v.category = 1
theorem One1.i (x : Int32) : One1 (.val (.int x)) := Or.inr ⟨_, rfl, rfl⟩
theorem One1.u : One1 .unset := Or.inl rfl
theorem n32 {j : Nat} (q : j < 2147483648) : j.toInt32.toInt = (j : Int) := Int32.toInt_ofNat_small (by omega)
theorem n32c {j : Nat} (q : j < 2147483648) : j.toInt32.toNatClampNeg = j := by
  show j.toInt32.toInt.toNat = j
  rw [n32 q]; exact Int.toNat_natCast j
theorem n32s (j : Nat) : j.toInt32 + (1 : Int32) = (j + 1).toInt32 := (Int32.ofNat_add j 1).symm
theorem set_last (vs : List Value) (d x : Value) {j : Nat} (q : j = vs.length) : (vs ++ List.replicate 1 d).set j x = vs ++ [x] := by
  subst q; simp
theorem take_succ' (f : Int32 → Value) (cs : List Int32) {j : Nat} (q : j < cs.length) : (cs.take (j + 1)).map f = (cs.take j).map f ++ [f cs[j]] := by
  rw [List.take_succ_eq_append_getElem q, List.map_append]; rfl
theorem getD_map' (f : Int32 → Value) (cs : List Int32) (d : Value) {j : Nat} (q : j < cs.length) : (cs.map f).getD j d = f cs[j] := by
  rw [List.getD_eq_getElem?_getD, List.getElem?_map, List.getElem?_eq_getElem q]; rfl
theorem lt32 {x y : Int32} (q : x.toInt < y.toInt) : x < y := Int32.lt_iff_toInt_lt.mpr q
theorem nlt32 {x y : Int32} (q : ¬ x.toInt < y.toInt) : ¬ x < y := fun r => q (Int32.lt_iff_toInt_lt.mp r)
theorem eq32 {x y : Int32} (q : x.toInt = y.toInt) : x = y := Int32.toInt_inj.mp q
theorem zero32 : (0 : Int32).toInt = 0 := by decide
end OwnFacts
section OwnWords
theorem allC {P : Jvm.Cond → Prop} {y : Jvm.Cond} {L : List Jvm.Cond} (q : P y) (r : ∀ x ∈ L, P x) : ∀ x ∈ y :: L, P x := fun x z => (List.mem_cons.mp z).elim (fun u => u ▸ q) (r x)
theorem allC0 {P : Jvm.Cond → Prop} : ∀ x ∈ ([] : List Jvm.Cond), P x := fun _ q => nomatch q
end OwnWords
section OwnStr
variable {Z : State} {h h' h0 : Heap} {a b : Addr} {ws : List Addr} {v w : Value} {a0 : Array Value}
theorem Str.uniq {d1 d2 : Addr} {k1 k2 : ClassId} {cd1 cd2 z1 z2 : Int32} {xs1 xs2 : List Int32} (S1 : Str Z h a d1 k1 cd1 z1 (xs1.map Value.int)) (S2 : Str Z h a d2 k2 cd2 z2 (xs2.map Value.int)) (l1 : z1.toInt = xs1.length) (l2 : z2.toInt = xs2.length) : cd1 = cd2 ∧ xs1 = xs2 := by
  have hd : d1 = d2 := by
    by_cases q : d1 = d2
    · exact q
    · exact absurd rfl (S1.2.1.ne S2.2.1 (fun r => q (Value.ref.inj r)))
  have hc : cd1 = cd2 := by
    by_cases q : cd1 = cd2
    · exact q
    · exact absurd rfl (S1.2.2.1.ne S2.2.2.1 (fun r => q (Value.int.inj r)))
  subst hd
  refine ⟨hc, ?_⟩
  have e1 : z1.toNatClampNeg = xs1.length := by show z1.toInt.toNat = _; omega
  have e2 : z2.toNatClampNeg = xs2.length := by show z2.toInt.toNat = _; omega
  have hl : xs1.length = xs2.length := by
    by_cases q : z1.toNatClampNeg = z2.toNatClampNeg
    · rw [← e1, ← e2]; exact q
    · exact absurd rfl (arv_ne S1.2.2.2 S2.2.2.2 (Or.inl q))
  refine List.ext_getElem hl fun i q1 q2 => ?_
  by_cases q : xs1[i] = xs2[i]
  · exact q
  · refine absurd rfl (arv_ne S1.2.2.2 S2.2.2.2 (Or.inr ⟨i, by omega, ?_⟩))
    rw [getD_map' _ _ _ q1, getD_map' _ _ _ q2]
    exact fun r => q (Value.int.inj r)
/-- null, or a String of these bytes -/
def NSt (Z : State) (h : Heap) (w : Value) (o : Option (List Int32)) : Prop := match o with
  | none => w = .null
  | some xs => ∃ (a d : Addr) (kd : ClassId) (z : Int32), w = .ref a ∧ z.toInt = xs.length ∧ xs.length ≤ 64 ∧ Str Z h a d kd 0 z (xs.map Value.int)
theorem NSt.ref {o : Option (List Int32)} (N : NSt Z h w o) : w.isRef = true := by
  cases o with
  | none => cases N; rfl
  | some xs => obtain ⟨a, d, kd, z, rfl, -⟩ := N; rfl
theorem NSt.ext {o : Option (List Int32)} (N : NSt Z h w o) (E : Ext h h') : NSt Z h' w o := by
  cases o with
  | none => exact N
  | some xs => obtain ⟨a, d, kd, z, h1, h2, h3, S⟩ := N; exact ⟨a, d, kd, z, h1, h2, h3, S.ext E⟩
theorem NSt.keep0 {o : Option (List Int32)} (N : NSt Z h w o) (K : Keep h h' []) : NSt Z h' w o := by
  cases o with
  | none => exact N
  | some xs => obtain ⟨a, d, kd, z, h1, h2, h3, S⟩ := N; exact ⟨a, d, kd, z, h1, h2, h3, S.keep K nin0 nin0⟩
theorem NSt.keepX {o : Option (List Int32)} {C : String} {nn : Nat} (N : NSt Z h w o) (E : Exa Z h b C) (hC : C ≠ "java/lang/String") (wi : (Jvm.Cond.instantiable C nn).before a0 Z = true) (K : Keep h h' [b]) : NSt Z h' w o := by
  cases o with
  | none => exact N
  | some xs =>
    obtain ⟨a, d, kd, z, h1, h2, h3, S⟩ := N
    exact ⟨a, d, kd, z, h1, h2, h3, S.keep K (ninS (Ne.symm (ne_exa E S.1 hC)) nin0) (ninS (Ne.symm (E.neArv S.2.2.2 wi)) nin0)⟩
end OwnStr
section OwnChars
theorem byteCharF : ∀ n : Fin 256, nar .char (((Int32.ofNat n.val).toInt8.toInt32 &&& (255 : Int32)).toUInt32.toUInt16.toUInt32.toInt32) = Int32.ofNat n.val := by decide +kernel
theorem byteChar {c : Int32} (q : 0 ≤ c.toInt ∧ c.toInt < 256) : nar .char ((c.toInt8.toInt32 &&& (255 : Int32)).toUInt32.toUInt16.toUInt32.toInt32) = c := by
  have e : c = Int32.ofNat c.toInt.toNat := eq32 (by rw [show (Int32.ofNat c.toInt.toNat).toInt = _ from n32 (by omega)]; omega)
  rw [e]
  exact byteCharF ⟨c.toInt.toNat, by omega⟩
end OwnChars
section OwnChars2
theorem nar_charF : ∀ n : Fin 256, nar .char (Int32.ofNat n.val) = Int32.ofNat n.val := by decide +kernel
theorem nar_char {c : Int32} (q : 0 ≤ c.toInt ∧ c.toInt < 256) : nar .char c = c := by
  have e : c = Int32.ofNat c.toInt.toNat := eq32 (by rw [show (Int32.ofNat c.toInt.toNat).toInt = _ from n32 (by omega)]; omega)
  rw [e]
  exact nar_charF ⟨c.toInt.toNat, by omega⟩
end OwnChars2
section OwnBits
theorem and_nat (x : Int32) {k : Nat} (hk : k < 2147483648) : ∃ n : Nat, n ≤ k ∧ x &&& Int32.ofNat k = Int32.ofNat n := by
  refine ⟨x.toBitVec.toNat &&& k, Nat.and_le_right, ?_⟩
  apply Int32.toBitVec_inj.mp
  apply BitVec.eq_of_toNat_eq
  have e1 : (Int32.ofNat k).toBitVec.toNat = k := by
    show (BitVec.ofNat 32 k).toNat = k
    rw [BitVec.toNat_ofNat]; exact Nat.mod_eq_of_lt (by omega)
  have e2 : (Int32.ofNat (x.toBitVec.toNat &&& k)).toBitVec.toNat = x.toBitVec.toNat &&& k := by
    show (BitVec.ofNat 32 (x.toBitVec.toNat &&& k)).toNat = _
    rw [BitVec.toNat_ofNat]; exact Nat.mod_eq_of_lt (Nat.lt_of_le_of_lt Nat.and_le_right (by omega))
  rw [e2]
  show (x.toBitVec &&& (Int32.ofNat k).toBitVec).toNat = _
  rw [BitVec.toNat_and, e1]
theorem ofN {j : Nat} (q : j < 2147483648) : (Int32.ofNat j).toInt = (j : Int) := n32 q
theorem rem_nat {n k : Nat} (hn : n < 2147483648) (hk : k < 2147483648) : Int32.ofNat n % Int32.ofNat k = Int32.ofNat (n % k) := by
  apply eq32
  rw [Int32.toInt_mod, ofN hn, ofN hk, ofN (Nat.lt_of_le_of_lt (Nat.mod_le n k) hn)]
  exact (Int.ofNat_tmod n k).symm
theorem ofN_add {j k : Nat} (q : j + k < 2147483648) : Int32.ofNat j + Int32.ofNat k = Int32.ofNat (j + k) := (Int32.ofNat_add j k).symm
end OwnBits
abbrev EL0 : List (String × Nat) := [("com/example/lazuline/lazuline/PlainDecimalParsePinLaw", 63)]
theorem w_0 {Z : State} {a0 : Array Value} (hw : ∀ d ∈ tables_1, d.before a0 Z = true) : (Jvm.Cond.arrayClass Jvm.ClassFile.FieldType.char).before a0 Z = true := hw _ (List.mem_of_getElem? (i := 0) rfl)
theorem w_1 {Z : State} {a0 : Array Value} (hw : ∀ d ∈ tables_1, d.before a0 Z = true) : (Jvm.Cond.methodLink "com/example/lazuline/lazuline/PlainDecimalParsePinLaw" (13 : Nat) ({ cls := "com/example/lazuline/lazuline/PlainDecimalParsePinLaw", name := "pick", desc := "(I)C" } : Jvm.MethodName)).before a0 Z = true := hw _ (List.mem_of_getElem? (i := 1) rfl)
theorem w_2 {Z : State} {a0 : Array Value} (hw : ∀ d ∈ tables_1, d.before a0 Z = true) : (Jvm.Cond.static ({ cls := "com/example/lazuline/lazuline/PlainDecimalParsePinLaw", name := "pick", desc := "(I)C" } : Jvm.MethodName)).before a0 Z = true := hw _ (List.mem_of_getElem? (i := 2) rfl)
theorem w_3 {Z : State} {a0 : Array Value} (hw : ∀ d ∈ tables_1, d.before a0 Z = true) : (Jvm.Cond.initialized "com/example/lazuline/lazuline/PlainDecimalParsePinLaw").before a0 Z = true := hw _ (List.mem_of_getElem? (i := 3) rfl)
theorem w_4 {Z : State} {a0 : Array Value} (hw : ∀ d ∈ tables_1, d.before a0 Z = true) : (Jvm.Cond.code ({ cls := "com/example/lazuline/lazuline/PlainDecimalParsePinLaw", name := "pick", desc := "(I)C" } : Jvm.MethodName) method_6_code (2 : Nat) (Option.some Jvm.ClassFile.FieldType.char)).before a0 Z = true := hw _ (List.mem_of_getElem? (i := 4) rfl)
theorem w_5 {Z : State} {a0 : Array Value} (hw : ∀ d ∈ tables_1, d.before a0 Z = true) : (Jvm.Cond.stringLink "com/example/lazuline/lazuline/PlainDecimalParsePinLaw" (63 : Nat) "-0123456789/:+.-").before a0 Z = true := hw _ (List.mem_of_getElem? (i := 5) rfl)
theorem w_6 {Z : State} {a0 : Array Value} (hw : ∀ d ∈ tables_1, d.before a0 Z = true) : (Jvm.Cond.initialized "java/lang/String").before a0 Z = true := hw _ (List.mem_of_getElem? (i := 6) rfl)
theorem w_7 {Z : State} {a0 : Array Value} (hw : ∀ d ∈ tables_1, d.before a0 Z = true) : (Jvm.Cond.instantiable "java/lang/String" (4 : Nat)).before a0 Z = true := hw _ (List.mem_of_getElem? (i := 7) rfl)
theorem w_8 {Z : State} {a0 : Array Value} (hw : ∀ d ∈ tables_1, d.before a0 Z = true) : (Jvm.Cond.arrayClass Jvm.ClassFile.FieldType.byte).before a0 Z = true := hw _ (List.mem_of_getElem? (i := 8) rfl)
theorem w_9 {Z : State} {a0 : Array Value} (hw : ∀ d ∈ tables_1, d.before a0 Z = true) : (Jvm.Cond.laysFinal "java/lang/String" "java/lang/String" "value" "[B").before a0 Z = true := hw _ (List.mem_of_getElem? (i := 9) rfl)
theorem w_10 {Z : State} {a0 : Array Value} (hw : ∀ d ∈ tables_1, d.before a0 Z = true) : (Jvm.Cond.laysFinal "java/lang/String" "java/lang/String" "coder" "B").before a0 Z = true := hw _ (List.mem_of_getElem? (i := 10) rfl)
theorem w_11 {Z : State} {a0 : Array Value} (hw : ∀ d ∈ tables_1, d.before a0 Z = true) : (Jvm.Cond.soleField "java/lang/String" "value").before a0 Z = true := hw _ (List.mem_of_getElem? (i := 11) rfl)
theorem w_12 {Z : State} {a0 : Array Value} (hw : ∀ d ∈ tables_1, d.before a0 Z = true) : (Jvm.Cond.soleField "java/lang/String" "coder").before a0 Z = true := hw _ (List.mem_of_getElem? (i := 12) rfl)
theorem w_13 {Z : State} {a0 : Array Value} (hw : ∀ d ∈ tables_1, d.before a0 Z = true) : (Jvm.Cond.methodLink "com/example/lazuline/lazuline/PlainDecimalParsePinLaw" (65 : Nat) ({ cls := "java/lang/String", name := "charAt", desc := "(I)C" } : Jvm.MethodName)).before a0 Z = true := hw _ (List.mem_of_getElem? (i := 13) rfl)
theorem w_14 {Z : State} {a0 : Array Value} (hw : ∀ d ∈ tables_1, d.before a0 Z = true) : (Jvm.Cond.declares ({ cls := "java/lang/String", name := "charAt", desc := "(I)C" } : Jvm.MethodName)).before a0 Z = true := hw _ (List.mem_of_getElem? (i := 14) rfl)
theorem w_15 {Z : State} {a0 : Array Value} (hw : ∀ d ∈ tables_1, d.before a0 Z = true) : (Jvm.Cond.instanceMethod ({ cls := "java/lang/String", name := "charAt", desc := "(I)C" } : Jvm.MethodName)).before a0 Z = true := hw _ (List.mem_of_getElem? (i := 15) rfl)
theorem w_16 {Z : State} {a0 : Array Value} (hw : ∀ d ∈ tables_1, d.before a0 Z = true) : (Jvm.Cond.selects "java/lang/String" ({ cls := "java/lang/String", name := "charAt", desc := "(I)C" } : Jvm.MethodName) ({ cls := "java/lang/String", name := "charAt", desc := "(I)C" } : Jvm.MethodName)).before a0 Z = true := hw _ (List.mem_of_getElem? (i := 16) rfl)
theorem w_17 {Z : State} {a0 : Array Value} (hw : ∀ d ∈ tables_1, d.before a0 Z = true) : (Jvm.Cond.code ({ cls := "java/lang/String", name := "charAt", desc := "(I)C" } : Jvm.MethodName) jdk_42_method_56_code (2 : Nat) (Option.some Jvm.ClassFile.FieldType.char)).before a0 Z = true := hw _ (List.mem_of_getElem? (i := 17) rfl)
theorem w_18 {Z : State} {a0 : Array Value} (hw : ∀ d ∈ tables_1, d.before a0 Z = true) : (Jvm.Cond.methodLink "java/lang/String" (492 : Nat) ({ cls := "java/lang/String", name := "isLatin1", desc := "()Z" } : Jvm.MethodName)).before a0 Z = true := hw _ (List.mem_of_getElem? (i := 18) rfl)
theorem w_19 {Z : State} {a0 : Array Value} (hw : ∀ d ∈ tables_1, d.before a0 Z = true) : (Jvm.Cond.declares ({ cls := "java/lang/String", name := "isLatin1", desc := "()Z" } : Jvm.MethodName)).before a0 Z = true := hw _ (List.mem_of_getElem? (i := 19) rfl)
theorem w_20 {Z : State} {a0 : Array Value} (hw : ∀ d ∈ tables_1, d.before a0 Z = true) : (Jvm.Cond.instanceMethod ({ cls := "java/lang/String", name := "isLatin1", desc := "()Z" } : Jvm.MethodName)).before a0 Z = true := hw _ (List.mem_of_getElem? (i := 20) rfl)
theorem w_21 {Z : State} {a0 : Array Value} (hw : ∀ d ∈ tables_1, d.before a0 Z = true) : (Jvm.Cond.selects "java/lang/String" ({ cls := "java/lang/String", name := "isLatin1", desc := "()Z" } : Jvm.MethodName) ({ cls := "java/lang/String", name := "isLatin1", desc := "()Z" } : Jvm.MethodName)).before a0 Z = true := hw _ (List.mem_of_getElem? (i := 21) rfl)
theorem w_22 {Z : State} {a0 : Array Value} (hw : ∀ d ∈ tables_1, d.before a0 Z = true) : (Jvm.Cond.code ({ cls := "java/lang/String", name := "isLatin1", desc := "()Z" } : Jvm.MethodName) jdk_42_method_154_code (1 : Nat) (Option.some Jvm.ClassFile.FieldType.boolean)).before a0 Z = true := hw _ (List.mem_of_getElem? (i := 22) rfl)
theorem w_23 {Z : State} {a0 : Array Value} (hw : ∀ d ∈ tables_1, d.before a0 Z = true) : (Jvm.Cond.fieldLink "java/lang/String" (38 : Nat) "java/lang/String" "COMPACT_STRINGS" "Z").before a0 Z = true := hw _ (List.mem_of_getElem? (i := 23) rfl)
theorem w_24 {Z : State} {a0 : Array Value} (hw : ∀ d ∈ tables_1, d.before a0 Z = true) : (Jvm.Cond.fieldLink "java/lang/String" (15 : Nat) "java/lang/String" "coder" "B").before a0 Z = true := hw _ (List.mem_of_getElem? (i := 24) rfl)
theorem w_25 {Z : State} {a0 : Array Value} (hw : ∀ d ∈ tables_1, d.before a0 Z = true) : (Jvm.Cond.fieldLink "java/lang/String" (9 : Nat) "java/lang/String" "value" "[B").before a0 Z = true := hw _ (List.mem_of_getElem? (i := 25) rfl)
theorem w_26 {Z : State} {a0 : Array Value} (hw : ∀ d ∈ tables_1, d.before a0 Z = true) : (Jvm.Cond.methodLink "java/lang/String" (495 : Nat) ({ cls := "java/lang/StringLatin1", name := "charAt", desc := "([BI)C" } : Jvm.MethodName)).before a0 Z = true := hw _ (List.mem_of_getElem? (i := 26) rfl)
theorem w_27 {Z : State} {a0 : Array Value} (hw : ∀ d ∈ tables_1, d.before a0 Z = true) : (Jvm.Cond.static ({ cls := "java/lang/StringLatin1", name := "charAt", desc := "([BI)C" } : Jvm.MethodName)).before a0 Z = true := hw _ (List.mem_of_getElem? (i := 27) rfl)
theorem w_28 {Z : State} {a0 : Array Value} (hw : ∀ d ∈ tables_1, d.before a0 Z = true) : (Jvm.Cond.initialized "java/lang/StringLatin1").before a0 Z = true := hw _ (List.mem_of_getElem? (i := 28) rfl)
theorem w_29 {Z : State} {a0 : Array Value} (hw : ∀ d ∈ tables_1, d.before a0 Z = true) : (Jvm.Cond.code ({ cls := "java/lang/StringLatin1", name := "charAt", desc := "([BI)C" } : Jvm.MethodName) jdk_43_method_2_code (2 : Nat) (Option.some Jvm.ClassFile.FieldType.char)).before a0 Z = true := hw _ (List.mem_of_getElem? (i := 29) rfl)
theorem w_30 {Z : State} {a0 : Array Value} (hw : ∀ d ∈ tables_1, d.before a0 Z = true) : (Jvm.Cond.methodLink "java/lang/StringLatin1" (9 : Nat) ({ cls := "java/lang/String", name := "checkIndex", desc := "(II)V" } : Jvm.MethodName)).before a0 Z = true := hw _ (List.mem_of_getElem? (i := 30) rfl)
theorem w_31 {Z : State} {a0 : Array Value} (hw : ∀ d ∈ tables_1, d.before a0 Z = true) : (Jvm.Cond.static ({ cls := "java/lang/String", name := "checkIndex", desc := "(II)V" } : Jvm.MethodName)).before a0 Z = true := hw _ (List.mem_of_getElem? (i := 31) rfl)
theorem w_32 {Z : State} {a0 : Array Value} (hw : ∀ d ∈ tables_1, d.before a0 Z = true) : (Jvm.Cond.code ({ cls := "java/lang/String", name := "checkIndex", desc := "(II)V" } : Jvm.MethodName) jdk_42_method_155_code (2 : Nat) (Option.none : Option Jvm.ClassFile.FieldType)).before a0 Z = true := hw _ (List.mem_of_getElem? (i := 32) rfl)
theorem w_33 {Z : State} {a0 : Array Value} (hw : ∀ d ∈ tables_1, d.before a0 Z = true) : (Jvm.Cond.fieldLink "java/lang/String" (1053 : Nat) "jdk/internal/util/Preconditions" "SIOOBE_FORMATTER" "Ljava/util/function/BiFunction;").before a0 Z = true := hw _ (List.mem_of_getElem? (i := 33) rfl)
theorem w_34 {Z : State} {a0 : Array Value} (hw : ∀ d ∈ tables_1, d.before a0 Z = true) : (Jvm.Cond.initialized "jdk/internal/util/Preconditions").before a0 Z = true := hw _ (List.mem_of_getElem? (i := 34) rfl)
theorem w_35 {Z : State} {a0 : Array Value} (hw : ∀ d ∈ tables_1, d.before a0 Z = true) : (Jvm.Cond.methodLink "java/lang/String" (1059 : Nat) ({ cls := "jdk/internal/util/Preconditions", name := "checkIndex", desc := "(IILjava/util/function/BiFunction;)I" } : Jvm.MethodName)).before a0 Z = true := hw _ (List.mem_of_getElem? (i := 35) rfl)
theorem w_36 {Z : State} {a0 : Array Value} (hw : ∀ d ∈ tables_1, d.before a0 Z = true) : (Jvm.Cond.static ({ cls := "jdk/internal/util/Preconditions", name := "checkIndex", desc := "(IILjava/util/function/BiFunction;)I" } : Jvm.MethodName)).before a0 Z = true := hw _ (List.mem_of_getElem? (i := 36) rfl)
theorem w_37 {Z : State} {a0 : Array Value} (hw : ∀ d ∈ tables_1, d.before a0 Z = true) : (Jvm.Cond.code ({ cls := "jdk/internal/util/Preconditions", name := "checkIndex", desc := "(IILjava/util/function/BiFunction;)I" } : Jvm.MethodName) jdk_41_method_11_code (3 : Nat) (Option.some Jvm.ClassFile.FieldType.int)).before a0 Z = true := hw _ (List.mem_of_getElem? (i := 37) rfl)
theorem w_38 {Z : State} {a0 : Array Value} (hw : ∀ d ∈ tables_1, d.before a0 Z = true) : (Jvm.Cond.classLink "com/example/lazuline/lazuline/PlainDecimalParsePinLaw" (21 : Nat) "java/lang/String").before a0 Z = true := hw _ (List.mem_of_getElem? (i := 38) rfl)
theorem w_39 {Z : State} {a0 : Array Value} (hw : ∀ d ∈ tables_1, d.before a0 Z = true) : (Jvm.Cond.methodLink "com/example/lazuline/lazuline/PlainDecimalParsePinLaw" (23 : Nat) ({ cls := "java/lang/String", name := "<init>", desc := "([C)V" } : Jvm.MethodName)).before a0 Z = true := hw _ (List.mem_of_getElem? (i := 39) rfl)
theorem w_40 {Z : State} {a0 : Array Value} (hw : ∀ d ∈ tables_1, d.before a0 Z = true) : (Jvm.Cond.instanceMethod ({ cls := "java/lang/String", name := "<init>", desc := "([C)V" } : Jvm.MethodName)).before a0 Z = true := hw _ (List.mem_of_getElem? (i := 40) rfl)
theorem w_41 {Z : State} {a0 : Array Value} (hw : ∀ d ∈ tables_1, d.before a0 Z = true) : (Jvm.Cond.code ({ cls := "java/lang/String", name := "<init>", desc := "([C)V" } : Jvm.MethodName) jdk_42_method_3_code (2 : Nat) (Option.none : Option Jvm.ClassFile.FieldType)).before a0 Z = true := hw _ (List.mem_of_getElem? (i := 41) rfl)
theorem w_42 {Z : State} {a0 : Array Value} (hw : ∀ d ∈ tables_1, d.before a0 Z = true) : (Jvm.Cond.methodLink "java/lang/String" (27 : Nat) ({ cls := "java/lang/String", name := "<init>", desc := "([CIILjava/lang/Void;)V" } : Jvm.MethodName)).before a0 Z = true := hw _ (List.mem_of_getElem? (i := 42) rfl)
theorem w_43 {Z : State} {a0 : Array Value} (hw : ∀ d ∈ tables_1, d.before a0 Z = true) : (Jvm.Cond.instanceMethod ({ cls := "java/lang/String", name := "<init>", desc := "([CIILjava/lang/Void;)V" } : Jvm.MethodName)).before a0 Z = true := hw _ (List.mem_of_getElem? (i := 43) rfl)
theorem w_45 {Z : State} {a0 : Array Value} (hw : ∀ d ∈ tables_1, d.before a0 Z = true) : (Jvm.Cond.code ({ cls := "java/lang/String", name := "<init>", desc := "([CIILjava/lang/Void;)V" } : Jvm.MethodName) jdk_42_method_149_code (6 : Nat) (Option.none : Option Jvm.ClassFile.FieldType)).before a0 Z = true := hw _ (List.mem_of_getElem? (i := 45) rfl)
theorem w_46 {Z : State} {a0 : Array Value} (hw : ∀ d ∈ tables_1, d.before a0 Z = true) : (Jvm.Cond.methodLink "java/lang/String" (1 : Nat) ({ cls := "java/lang/Object", name := "<init>", desc := "()V" } : Jvm.MethodName)).before a0 Z = true := hw _ (List.mem_of_getElem? (i := 46) rfl)
theorem w_47 {Z : State} {a0 : Array Value} (hw : ∀ d ∈ tables_1, d.before a0 Z = true) : (Jvm.Cond.instanceMethod ({ cls := "java/lang/Object", name := "<init>", desc := "()V" } : Jvm.MethodName)).before a0 Z = true := hw _ (List.mem_of_getElem? (i := 47) rfl)
theorem w_48 {Z : State} {a0 : Array Value} (hw : ∀ d ∈ tables_1, d.before a0 Z = true) : (Jvm.Cond.code ({ cls := "java/lang/Object", name := "<init>", desc := "()V" } : Jvm.MethodName) object_method_1_code (1 : Nat) (Option.none : Option Jvm.ClassFile.FieldType)).before a0 Z = true := hw _ (List.mem_of_getElem? (i := 48) rfl)
theorem w_49 {Z : State} {a0 : Array Value} (hw : ∀ d ∈ tables_1, d.before a0 Z = true) : (Jvm.Cond.methodLink "java/lang/String" (177 : Nat) ({ cls := "java/lang/StringUTF16", name := "compress", desc := "([CII)[B" } : Jvm.MethodName)).before a0 Z = true := hw _ (List.mem_of_getElem? (i := 49) rfl)
theorem w_50 {Z : State} {a0 : Array Value} (hw : ∀ d ∈ tables_1, d.before a0 Z = true) : (Jvm.Cond.static ({ cls := "java/lang/StringUTF16", name := "compress", desc := "([CII)[B" } : Jvm.MethodName)).before a0 Z = true := hw _ (List.mem_of_getElem? (i := 50) rfl)
theorem w_51 {Z : State} {a0 : Array Value} (hw : ∀ d ∈ tables_1, d.before a0 Z = true) : (Jvm.Cond.initialized "java/lang/StringUTF16").before a0 Z = true := hw _ (List.mem_of_getElem? (i := 51) rfl)
theorem w_52 {Z : State} {a0 : Array Value} (hw : ∀ d ∈ tables_1, d.before a0 Z = true) : (Jvm.Cond.code ({ cls := "java/lang/StringUTF16", name := "compress", desc := "([CII)[B" } : Jvm.MethodName) jdk_52_method_16_code (6 : Nat) (Option.some (Jvm.ClassFile.FieldType.array Jvm.ClassFile.FieldType.byte))).before a0 Z = true := hw _ (List.mem_of_getElem? (i := 52) rfl)
theorem w_53 {Z : State} {a0 : Array Value} (hw : ∀ d ∈ tables_1, d.before a0 Z = true) : (Jvm.Cond.methodLink "java/lang/StringUTF16" (115 : Nat) ({ cls := "java/lang/StringUTF16", name := "compress", desc := "([CI[BII)I" } : Jvm.MethodName)).before a0 Z = true := hw _ (List.mem_of_getElem? (i := 53) rfl)
theorem w_54 {Z : State} {a0 : Array Value} (hw : ∀ d ∈ tables_1, d.before a0 Z = true) : (Jvm.Cond.static ({ cls := "java/lang/StringUTF16", name := "compress", desc := "([CI[BII)I" } : Jvm.MethodName)).before a0 Z = true := hw _ (List.mem_of_getElem? (i := 54) rfl)
theorem w_55 {Z : State} {a0 : Array Value} (hw : ∀ d ∈ tables_1, d.before a0 Z = true) : (Jvm.Cond.code ({ cls := "java/lang/StringUTF16", name := "compress", desc := "([CI[BII)I" } : Jvm.MethodName) jdk_52_method_21_code (7 : Nat) (Option.some Jvm.ClassFile.FieldType.int)).before a0 Z = true := hw _ (List.mem_of_getElem? (i := 55) rfl)
theorem w_56 {Z : State} {a0 : Array Value} (hw : ∀ d ∈ tables_1, d.before a0 Z = true) : (Jvm.Cond.methodLink "java/lang/String" (47 : Nat) ({ cls := "java/lang/StringUTF16", name := "coderFromArrayLen", desc := "([BI)B" } : Jvm.MethodName)).before a0 Z = true := hw _ (List.mem_of_getElem? (i := 56) rfl)
theorem w_57 {Z : State} {a0 : Array Value} (hw : ∀ d ∈ tables_1, d.before a0 Z = true) : (Jvm.Cond.static ({ cls := "java/lang/StringUTF16", name := "coderFromArrayLen", desc := "([BI)B" } : Jvm.MethodName)).before a0 Z = true := hw _ (List.mem_of_getElem? (i := 57) rfl)
theorem w_58 {Z : State} {a0 : Array Value} (hw : ∀ d ∈ tables_1, d.before a0 Z = true) : (Jvm.Cond.code ({ cls := "java/lang/StringUTF16", name := "coderFromArrayLen", desc := "([BI)B" } : Jvm.MethodName) jdk_52_method_15_code (2 : Nat) (Option.some Jvm.ClassFile.FieldType.byte)).before a0 Z = true := hw _ (List.mem_of_getElem? (i := 58) rfl)
theorem w_59 {Z : State} {a0 : Array Value} (hw : ∀ d ∈ tables_1, d.before a0 Z = true) : (Jvm.Cond.methodLink "com/example/lazuline/lazuline/PlainDecimalParsePinLaw" (26 : Nat) ({ cls := "com/example/lazuline/lazuline/PlainDecimal", name := "parse", desc := "(Ljava/lang/CharSequence;II)Ljava/util/OptionalLong;" } : Jvm.MethodName)).before a0 Z = true := hw _ (List.mem_of_getElem? (i := 59) rfl)
theorem w_60 {Z : State} {a0 : Array Value} (hw : ∀ d ∈ tables_1, d.before a0 Z = true) : (Jvm.Cond.static ({ cls := "com/example/lazuline/lazuline/PlainDecimal", name := "parse", desc := "(Ljava/lang/CharSequence;II)Ljava/util/OptionalLong;" } : Jvm.MethodName)).before a0 Z = true := hw _ (List.mem_of_getElem? (i := 60) rfl)
theorem w_61 {Z : State} {a0 : Array Value} (hw : ∀ d ∈ tables_1, d.before a0 Z = true) : (Jvm.Cond.initialized "com/example/lazuline/lazuline/PlainDecimal").before a0 Z = true := hw _ (List.mem_of_getElem? (i := 61) rfl)
theorem w_62 {Z : State} {a0 : Array Value} (hw : ∀ d ∈ tables_1, d.before a0 Z = true) : (Jvm.Cond.code ({ cls := "com/example/lazuline/lazuline/PlainDecimal", name := "parse", desc := "(Ljava/lang/CharSequence;II)Ljava/util/OptionalLong;" } : Jvm.MethodName) prog_27_method_3_code (11 : Nat) (Option.some (Jvm.ClassFile.FieldType.object "java/util/OptionalLong"))).before a0 Z = true := hw _ (List.mem_of_getElem? (i := 62) rfl)
theorem w_63 {Z : State} {a0 : Array Value} (hw : ∀ d ∈ tables_1, d.before a0 Z = true) : (Jvm.Cond.methodLink "com/example/lazuline/lazuline/PlainDecimal" (25 : Nat) ({ cls := "java/util/OptionalLong", name := "empty", desc := "()Ljava/util/OptionalLong;" } : Jvm.MethodName)).before a0 Z = true := hw _ (List.mem_of_getElem? (i := 63) rfl)
theorem w_64 {Z : State} {a0 : Array Value} (hw : ∀ d ∈ tables_1, d.before a0 Z = true) : (Jvm.Cond.static ({ cls := "java/util/OptionalLong", name := "empty", desc := "()Ljava/util/OptionalLong;" } : Jvm.MethodName)).before a0 Z = true := hw _ (List.mem_of_getElem? (i := 64) rfl)
theorem w_65 {Z : State} {a0 : Array Value} (hw : ∀ d ∈ tables_1, d.before a0 Z = true) : (Jvm.Cond.initialized "java/util/OptionalLong").before a0 Z = true := hw _ (List.mem_of_getElem? (i := 65) rfl)
theorem w_66 {Z : State} {a0 : Array Value} (hw : ∀ d ∈ tables_1, d.before a0 Z = true) : (Jvm.Cond.code ({ cls := "java/util/OptionalLong", name := "empty", desc := "()Ljava/util/OptionalLong;" } : Jvm.MethodName) jdk_2650_method_2_code (0 : Nat) (Option.some (Jvm.ClassFile.FieldType.object "java/util/OptionalLong"))).before a0 Z = true := hw _ (List.mem_of_getElem? (i := 66) rfl)
theorem w_67 {Z : State} {a0 : Array Value} (hw : ∀ d ∈ tables_1, d.before a0 Z = true) : (Jvm.Cond.fieldLink "java/util/OptionalLong" (17 : Nat) "java/util/OptionalLong" "EMPTY" "Ljava/util/OptionalLong;").before a0 Z = true := hw _ (List.mem_of_getElem? (i := 67) rfl)
theorem w_68 {Z : State} {a0 : Array Value} (hw : ∀ d ∈ tables_1, d.before a0 Z = true) : (Jvm.Cond.methodLink "com/example/lazuline/lazuline/PlainDecimalParsePinLaw" (32 : Nat) ({ cls := "com/example/lazuline/lazuline/PlainDecimalParsePinLaw", name := "same", desc := "(Ljava/util/OptionalLong;ZJ)Z" } : Jvm.MethodName)).before a0 Z = true := hw _ (List.mem_of_getElem? (i := 68) rfl)
theorem w_69 {Z : State} {a0 : Array Value} (hw : ∀ d ∈ tables_1, d.before a0 Z = true) : (Jvm.Cond.static ({ cls := "com/example/lazuline/lazuline/PlainDecimalParsePinLaw", name := "same", desc := "(Ljava/util/OptionalLong;ZJ)Z" } : Jvm.MethodName)).before a0 Z = true := hw _ (List.mem_of_getElem? (i := 69) rfl)
theorem w_70 {Z : State} {a0 : Array Value} (hw : ∀ d ∈ tables_1, d.before a0 Z = true) : (Jvm.Cond.code ({ cls := "com/example/lazuline/lazuline/PlainDecimalParsePinLaw", name := "same", desc := "(Ljava/util/OptionalLong;ZJ)Z" } : Jvm.MethodName) method_4_code (4 : Nat) (Option.some Jvm.ClassFile.FieldType.boolean)).before a0 Z = true := hw _ (List.mem_of_getElem? (i := 70) rfl)
theorem w_71 {Z : State} {a0 : Array Value} (hw : ∀ d ∈ tables_1, d.before a0 Z = true) : (Jvm.Cond.methodLink "com/example/lazuline/lazuline/PlainDecimalParsePinLaw" (51 : Nat) ({ cls := "java/util/OptionalLong", name := "isPresent", desc := "()Z" } : Jvm.MethodName)).before a0 Z = true := hw _ (List.mem_of_getElem? (i := 71) rfl)
theorem w_72 {Z : State} {a0 : Array Value} (hw : ∀ d ∈ tables_1, d.before a0 Z = true) : (Jvm.Cond.declares ({ cls := "java/util/OptionalLong", name := "isPresent", desc := "()Z" } : Jvm.MethodName)).before a0 Z = true := hw _ (List.mem_of_getElem? (i := 72) rfl)
theorem w_73 {Z : State} {a0 : Array Value} (hw : ∀ d ∈ tables_1, d.before a0 Z = true) : (Jvm.Cond.instanceMethod ({ cls := "java/util/OptionalLong", name := "isPresent", desc := "()Z" } : Jvm.MethodName)).before a0 Z = true := hw _ (List.mem_of_getElem? (i := 73) rfl)
theorem w_74 {Z : State} {a0 : Array Value} (hw : ∀ d ∈ tables_1, d.before a0 Z = true) : (Jvm.Cond.selects "java/util/OptionalLong" ({ cls := "java/util/OptionalLong", name := "isPresent", desc := "()Z" } : Jvm.MethodName) ({ cls := "java/util/OptionalLong", name := "isPresent", desc := "()Z" } : Jvm.MethodName)).before a0 Z = true := hw _ (List.mem_of_getElem? (i := 74) rfl)
theorem w_75 {Z : State} {a0 : Array Value} (hw : ∀ d ∈ tables_1, d.before a0 Z = true) : (Jvm.Cond.code ({ cls := "java/util/OptionalLong", name := "isPresent", desc := "()Z" } : Jvm.MethodName) jdk_2650_method_6_code (1 : Nat) (Option.some Jvm.ClassFile.FieldType.boolean)).before a0 Z = true := hw _ (List.mem_of_getElem? (i := 75) rfl)
theorem w_76 {Z : State} {a0 : Array Value} (hw : ∀ d ∈ tables_1, d.before a0 Z = true) : (Jvm.Cond.fieldLink "java/util/OptionalLong" (7 : Nat) "java/util/OptionalLong" "isPresent" "Z").before a0 Z = true := hw _ (List.mem_of_getElem? (i := 76) rfl)
theorem w_77 {Z : State} {a0 : Array Value} (hw : ∀ d ∈ tables_1, d.before a0 Z = true) : (Jvm.Cond.laysFinal "java/util/OptionalLong" "java/util/OptionalLong" "isPresent" "Z").before a0 Z = true := hw _ (List.mem_of_getElem? (i := 77) rfl)
theorem w_78 {Z : State} {a0 : Array Value} (hw : ∀ d ∈ tables_1, d.before a0 Z = true) : (Jvm.Cond.methodLink "com/example/lazuline/lazuline/PlainDecimalParsePinLaw" (7 : Nat) ({ cls := "com/example/lazuline/lazuline/PlainDecimalParsePinLaw", name := "bigCase", desc := "(IIII)Z" } : Jvm.MethodName)).before a0 Z = true := hw _ (List.mem_of_getElem? (i := 78) rfl)
theorem w_79 {Z : State} {a0 : Array Value} (hw : ∀ d ∈ tables_1, d.before a0 Z = true) : (Jvm.Cond.static ({ cls := "com/example/lazuline/lazuline/PlainDecimalParsePinLaw", name := "bigCase", desc := "(IIII)Z" } : Jvm.MethodName)).before a0 Z = true := hw _ (List.mem_of_getElem? (i := 79) rfl)
theorem w_80 {Z : State} {a0 : Array Value} (hw : ∀ d ∈ tables_1, d.before a0 Z = true) : (Jvm.Cond.code ({ cls := "com/example/lazuline/lazuline/PlainDecimalParsePinLaw", name := "bigCase", desc := "(IIII)Z" } : Jvm.MethodName) method_3_code (16 : Nat) (Option.some Jvm.ClassFile.FieldType.boolean)).before a0 Z = true := hw _ (List.mem_of_getElem? (i := 80) rfl)
theorem w_81 {Z : State} {a0 : Array Value} (hw : ∀ d ∈ tables_1, d.before a0 Z = true) : (Jvm.Cond.constant "com/example/lazuline/lazuline/PlainDecimalParsePinLaw" (36 : Nat) (2147483647 : Int32)).before a0 Z = true := hw _ (List.mem_of_getElem? (i := 81) rfl)
theorem w_82 {Z : State} {a0 : Array Value} (hw : ∀ d ∈ tables_1, d.before a0 Z = true) : (Jvm.Cond.constantLong "com/example/lazuline/lazuline/PlainDecimalParsePinLaw" (37 : Nat) (10 : Int64)).before a0 Z = true := hw _ (List.mem_of_getElem? (i := 82) rfl)
theorem w_83 {Z : State} {a0 : Array Value} (hw : ∀ d ∈ tables_1, d.before a0 Z = true) : (Jvm.Cond.constantLong "com/example/lazuline/lazuline/PlainDecimalParsePinLaw" (41 : Nat) (2233720368547758000 : Int64)).before a0 Z = true := hw _ (List.mem_of_getElem? (i := 83) rfl)
theorem w_84 {Z : State} {a0 : Array Value} (hw : ∀ d ∈ tables_1, d.before a0 Z = true) : (Jvm.Cond.methodLink "com/example/lazuline/lazuline/PlainDecimal" (19 : Nat) ({ cls := "java/lang/CharSequence", name := "charAt", desc := "(I)C" } : Jvm.MethodName)).before a0 Z = true := hw _ (List.mem_of_getElem? (i := 84) rfl)
theorem w_85 {Z : State} {a0 : Array Value} (hw : ∀ d ∈ tables_1, d.before a0 Z = true) : (Jvm.Cond.declares ({ cls := "java/lang/CharSequence", name := "charAt", desc := "(I)C" } : Jvm.MethodName)).before a0 Z = true := hw _ (List.mem_of_getElem? (i := 85) rfl)
theorem w_86 {Z : State} {a0 : Array Value} (hw : ∀ d ∈ tables_1, d.before a0 Z = true) : (Jvm.Cond.interfaceMethod "java/lang/CharSequence" "java/lang/CharSequence" "charAt" "(I)C").before a0 Z = true := hw _ (List.mem_of_getElem? (i := 86) rfl)
theorem w_87 {Z : State} {a0 : Array Value} (hw : ∀ d ∈ tables_1, d.before a0 Z = true) : (Jvm.Cond.selects "java/lang/String" ({ cls := "java/lang/CharSequence", name := "charAt", desc := "(I)C" } : Jvm.MethodName) ({ cls := "java/lang/String", name := "charAt", desc := "(I)C" } : Jvm.MethodName)).before a0 Z = true := hw _ (List.mem_of_getElem? (i := 87) rfl)
theorem w_88 {Z : State} {a0 : Array Value} (hw : ∀ d ∈ tables_1, d.before a0 Z = true) : (Jvm.Cond.publicMethod ({ cls := "java/lang/String", name := "charAt", desc := "(I)C" } : Jvm.MethodName)).before a0 Z = true := hw _ (List.mem_of_getElem? (i := 88) rfl)
theorem w_89 {Z : State} {a0 : Array Value} (hw : ∀ d ∈ tables_1, d.before a0 Z = true) : (Jvm.Cond.unhidden "java/lang/String" "charAt" "(I)C").before a0 Z = true := hw _ (List.mem_of_getElem? (i := 89) rfl)
theorem w_90 {Z : State} {a0 : Array Value} (hw : ∀ d ∈ tables_1, d.before a0 Z = true) : (Jvm.Cond.castable "java/lang/String" "java/lang/CharSequence").before a0 Z = true := hw _ (List.mem_of_getElem? (i := 90) rfl)
theorem w_91 {Z : State} {a0 : Array Value} (hw : ∀ d ∈ tables_1, d.before a0 Z = true) : (Jvm.Cond.constantLong "com/example/lazuline/lazuline/PlainDecimal" (35 : Nat) (-9223372036854775807 : Int64)).before a0 Z = true := hw _ (List.mem_of_getElem? (i := 91) rfl)
theorem w_92 {Z : State} {a0 : Array Value} (hw : ∀ d ∈ tables_1, d.before a0 Z = true) : (Jvm.Cond.constantLong "com/example/lazuline/lazuline/PlainDecimal" (37 : Nat) (10 : Int64)).before a0 Z = true := hw _ (List.mem_of_getElem? (i := 92) rfl)
theorem w_93 {Z : State} {a0 : Array Value} (hw : ∀ d ∈ tables_1, d.before a0 Z = true) : (Jvm.Cond.methodLink "com/example/lazuline/lazuline/PlainDecimal" (39 : Nat) ({ cls := "java/util/OptionalLong", name := "of", desc := "(J)Ljava/util/OptionalLong;" } : Jvm.MethodName)).before a0 Z = true := hw _ (List.mem_of_getElem? (i := 93) rfl)
theorem w_94 {Z : State} {a0 : Array Value} (hw : ∀ d ∈ tables_1, d.before a0 Z = true) : (Jvm.Cond.static ({ cls := "java/util/OptionalLong", name := "of", desc := "(J)Ljava/util/OptionalLong;" } : Jvm.MethodName)).before a0 Z = true := hw _ (List.mem_of_getElem? (i := 94) rfl)
theorem w_95 {Z : State} {a0 : Array Value} (hw : ∀ d ∈ tables_1, d.before a0 Z = true) : (Jvm.Cond.code ({ cls := "java/util/OptionalLong", name := "of", desc := "(J)Ljava/util/OptionalLong;" } : Jvm.MethodName) jdk_2650_method_4_code (2 : Nat) (Option.some (Jvm.ClassFile.FieldType.object "java/util/OptionalLong"))).before a0 Z = true := hw _ (List.mem_of_getElem? (i := 95) rfl)
theorem w_96 {Z : State} {a0 : Array Value} (hw : ∀ d ∈ tables_1, d.before a0 Z = true) : (Jvm.Cond.classLink "java/util/OptionalLong" (8 : Nat) "java/util/OptionalLong").before a0 Z = true := hw _ (List.mem_of_getElem? (i := 96) rfl)
theorem w_97 {Z : State} {a0 : Array Value} (hw : ∀ d ∈ tables_1, d.before a0 Z = true) : (Jvm.Cond.instantiable "java/util/OptionalLong" (2 : Nat)).before a0 Z = true := hw _ (List.mem_of_getElem? (i := 97) rfl)
theorem w_98 {Z : State} {a0 : Array Value} (hw : ∀ d ∈ tables_1, d.before a0 Z = true) : (Jvm.Cond.methodLink "java/util/OptionalLong" (21 : Nat) ({ cls := "java/util/OptionalLong", name := "<init>", desc := "(J)V" } : Jvm.MethodName)).before a0 Z = true := hw _ (List.mem_of_getElem? (i := 98) rfl)
theorem w_99 {Z : State} {a0 : Array Value} (hw : ∀ d ∈ tables_1, d.before a0 Z = true) : (Jvm.Cond.instanceMethod ({ cls := "java/util/OptionalLong", name := "<init>", desc := "(J)V" } : Jvm.MethodName)).before a0 Z = true := hw _ (List.mem_of_getElem? (i := 99) rfl)
theorem w_101 {Z : State} {a0 : Array Value} (hw : ∀ d ∈ tables_1, d.before a0 Z = true) : (Jvm.Cond.code ({ cls := "java/util/OptionalLong", name := "<init>", desc := "(J)V" } : Jvm.MethodName) jdk_2650_method_3_code (3 : Nat) (Option.none : Option Jvm.ClassFile.FieldType)).before a0 Z = true := hw _ (List.mem_of_getElem? (i := 101) rfl)
theorem w_102 {Z : State} {a0 : Array Value} (hw : ∀ d ∈ tables_1, d.before a0 Z = true) : (Jvm.Cond.methodLink "java/util/OptionalLong" (1 : Nat) ({ cls := "java/lang/Object", name := "<init>", desc := "()V" } : Jvm.MethodName)).before a0 Z = true := hw _ (List.mem_of_getElem? (i := 102) rfl)
theorem w_103 {Z : State} {a0 : Array Value} (hw : ∀ d ∈ tables_1, d.before a0 Z = true) : (Jvm.Cond.fieldLink "java/util/OptionalLong" (13 : Nat) "java/util/OptionalLong" "value" "J").before a0 Z = true := hw _ (List.mem_of_getElem? (i := 103) rfl)
theorem w_104 {Z : State} {a0 : Array Value} (hw : ∀ d ∈ tables_1, d.before a0 Z = true) : (Jvm.Cond.laysFinal "java/util/OptionalLong" "java/util/OptionalLong" "value" "J").before a0 Z = true := hw _ (List.mem_of_getElem? (i := 104) rfl)
theorem w_105 {Z : State} {a0 : Array Value} (hw : ∀ d ∈ tables_1, d.before a0 Z = true) : (Jvm.Cond.methodLink "com/example/lazuline/lazuline/PlainDecimalParsePinLaw" (57 : Nat) ({ cls := "java/util/OptionalLong", name := "getAsLong", desc := "()J" } : Jvm.MethodName)).before a0 Z = true := hw _ (List.mem_of_getElem? (i := 105) rfl)
theorem w_106 {Z : State} {a0 : Array Value} (hw : ∀ d ∈ tables_1, d.before a0 Z = true) : (Jvm.Cond.declares ({ cls := "java/util/OptionalLong", name := "getAsLong", desc := "()J" } : Jvm.MethodName)).before a0 Z = true := hw _ (List.mem_of_getElem? (i := 106) rfl)
theorem w_107 {Z : State} {a0 : Array Value} (hw : ∀ d ∈ tables_1, d.before a0 Z = true) : (Jvm.Cond.instanceMethod ({ cls := "java/util/OptionalLong", name := "getAsLong", desc := "()J" } : Jvm.MethodName)).before a0 Z = true := hw _ (List.mem_of_getElem? (i := 107) rfl)
theorem w_108 {Z : State} {a0 : Array Value} (hw : ∀ d ∈ tables_1, d.before a0 Z = true) : (Jvm.Cond.selects "java/util/OptionalLong" ({ cls := "java/util/OptionalLong", name := "getAsLong", desc := "()J" } : Jvm.MethodName) ({ cls := "java/util/OptionalLong", name := "getAsLong", desc := "()J" } : Jvm.MethodName)).before a0 Z = true := hw _ (List.mem_of_getElem? (i := 108) rfl)
theorem w_109 {Z : State} {a0 : Array Value} (hw : ∀ d ∈ tables_1, d.before a0 Z = true) : (Jvm.Cond.code ({ cls := "java/util/OptionalLong", name := "getAsLong", desc := "()J" } : Jvm.MethodName) jdk_2650_method_5_code (1 : Nat) (Option.some Jvm.ClassFile.FieldType.long)).before a0 Z = true := hw _ (List.mem_of_getElem? (i := 109) rfl)
theorem w_110 {Z : State} {a0 : Array Value} (hw : ∀ d ∈ tables_1, d.before a0 Z = true) : (Jvm.Cond.constantLong "com/example/lazuline/lazuline/PlainDecimal" (33 : Nat) (-9223372036854775808 : Int64)).before a0 Z = true := hw _ (List.mem_of_getElem? (i := 110) rfl)
theorem w_111 {Z : State} {a0 : Array Value} (hw : ∀ d ∈ tables_1, d.before a0 Z = true) : (Jvm.Cond.constantLong "com/example/lazuline/lazuline/PlainDecimalParsePinLaw" (43 : Nat) (7 : Int64)).before a0 Z = true := hw _ (List.mem_of_getElem? (i := 111) rfl)
theorem w_112 {Z : State} {a0 : Array Value} (hw : ∀ d ∈ tables_1, d.before a0 Z = true) : (Jvm.Cond.methodLink "com/example/lazuline/lazuline/PlainDecimalParsePinLaw" (17 : Nat) ({ cls := "com/example/lazuline/lazuline/PlainDecimalParsePinLaw", name := "acc", desc := "([CIIJ)J" } : Jvm.MethodName)).before a0 Z = true := hw _ (List.mem_of_getElem? (i := 112) rfl)
theorem w_113 {Z : State} {a0 : Array Value} (hw : ∀ d ∈ tables_1, d.before a0 Z = true) : (Jvm.Cond.static ({ cls := "com/example/lazuline/lazuline/PlainDecimalParsePinLaw", name := "acc", desc := "([CIIJ)J" } : Jvm.MethodName)).before a0 Z = true := hw _ (List.mem_of_getElem? (i := 113) rfl)
theorem w_114 {Z : State} {a0 : Array Value} (hw : ∀ d ∈ tables_1, d.before a0 Z = true) : (Jvm.Cond.code ({ cls := "com/example/lazuline/lazuline/PlainDecimalParsePinLaw", name := "acc", desc := "([CIIJ)J" } : Jvm.MethodName) method_5_code (6 : Nat) (Option.some Jvm.ClassFile.FieldType.long)).before a0 Z = true := hw _ (List.mem_of_getElem? (i := 114) rfl)
theorem w_115 {Z : State} {a0 : Array Value} (hw : ∀ d ∈ tables_1, d.before a0 Z = true) : (Jvm.Cond.constantLong "com/example/lazuline/lazuline/PlainDecimalParsePinLaw" (61 : Nat) (-1 : Int64)).before a0 Z = true := hw _ (List.mem_of_getElem? (i := 115) rfl)
theorem w_116 {Z : State} {a0 : Array Value} (hw : ∀ d ∈ tables_1, d.before a0 Z = true) : (Jvm.Cond.constantLong "com/example/lazuline/lazuline/PlainDecimalParsePinLaw" (39 : Nat) (223372036854775800 : Int64)).before a0 Z = true := hw _ (List.mem_of_getElem? (i := 116) rfl)
theorem w_117 {Z : State} {a0 : Array Value} (hw : ∀ d ∈ tables_1, d.before a0 Z = true) : (Jvm.Cond.constantLong "com/example/lazuline/lazuline/PlainDecimalParsePinLaw" (47 : Nat) (8 : Int64)).before a0 Z = true := hw _ (List.mem_of_getElem? (i := 117) rfl)
theorem w_118 {Z : State} {a0 : Array Value} (hw : ∀ d ∈ tables_1, d.before a0 Z = true) : (Jvm.Cond.constantLong "com/example/lazuline/lazuline/PlainDecimalParsePinLaw" (45 : Nat) (9223372036854775800 : Int64)).before a0 Z = true := hw _ (List.mem_of_getElem? (i := 118) rfl)
theorem w_119 {Z : State} {a0 : Array Value} (hw : ∀ d ∈ tables_1, d.before a0 Z = true) : (Jvm.Cond.constantLong "com/example/lazuline/lazuline/PlainDecimalParsePinLaw" (49 : Nat) (-9223372036854775800 : Int64)).before a0 Z = true := hw _ (List.mem_of_getElem? (i := 119) rfl)
theorem pd_0 : parseMethodDescriptor "([CI[BII)I" = some ⟨[(.array .char), .int, (.array .byte), .int, .int], some .int⟩ := by decide +kernel
theorem pd_1 : parseMethodDescriptor "([CII)[B" = some ⟨[(.array .char), .int, .int], some (.array .byte)⟩ := by decide +kernel
theorem pd_2 : parseMethodDescriptor "([BI)B" = some ⟨[(.array .byte), .int], some .byte⟩ := by decide +kernel
theorem pd_3 : parseMethodDescriptor "([CIILjava/lang/Void;)V" = some ⟨[(.array .char), .int, .int, (.object "java/lang/Void")], none⟩ := by decide +kernel
theorem pd_4 : parseMethodDescriptor "(IILjava/util/function/BiFunction;)I" = some ⟨[.int, .int, (.object "java/util/function/BiFunction")], some .int⟩ := by decide +kernel
theorem pd_5 : parseMethodDescriptor "(II)V" = some ⟨[.int, .int], none⟩ := by decide +kernel
theorem pd_6 : parseMethodDescriptor "()Z" = some ⟨[], some .boolean⟩ := by decide +kernel
theorem pd_7 : parseMethodDescriptor "([BI)C" = some ⟨[(.array .byte), .int], some .char⟩ := by decide +kernel
theorem pd_8 : parseMethodDescriptor "(J)V" = some ⟨[.long], none⟩ := by decide +kernel
theorem pd_9 : parseMethodDescriptor "()J" = some ⟨[], some .long⟩ := by decide +kernel
theorem pd_10 : parseMethodDescriptor "(J)Ljava/util/OptionalLong;" = some ⟨[.long], some (.object "java/util/OptionalLong")⟩ := by decide +kernel
theorem pd_11 : parseMethodDescriptor "(I)C" = some ⟨[.int], some .char⟩ := by decide +kernel
theorem pd_12 : parseMethodDescriptor "()Ljava/util/OptionalLong;" = some ⟨[], some (.object "java/util/OptionalLong")⟩ := by decide +kernel
theorem pd_13 : parseMethodDescriptor "([C)V" = some ⟨[(.array .char)], none⟩ := by decide +kernel
theorem pd_14 : parseMethodDescriptor "(Ljava/lang/CharSequence;II)Ljava/util/OptionalLong;" = some ⟨[(.object "java/lang/CharSequence"), .int, .int], some (.object "java/util/OptionalLong")⟩ := by decide +kernel
theorem pd_15 : parseMethodDescriptor "(Ljava/util/OptionalLong;ZJ)Z" = some ⟨[(.object "java/util/OptionalLong"), .boolean, .long], some .boolean⟩ := by decide +kernel
theorem pd_16 : parseMethodDescriptor "([CIIJ)J" = some ⟨[(.array .char), .int, .int, .long], some .long⟩ := by decide +kernel
theorem pd_17 : parseMethodDescriptor "(IIII)Z" = some ⟨[.int, .int, .int, .int], some .boolean⟩ := by decide +kernel
theorem pn_0 : plainName "java/lang/StringUTF16" = true := by first | (simp [plainName, overriddenIn]; done) | decide +kernel
theorem pn_1 : plainName "java/lang/String" = true := by first | (simp [plainName, overriddenIn]; done) | decide +kernel
theorem pn_2 : plainName "jdk/internal/util/Preconditions" = true := by first | (simp [plainName, overriddenIn]; done) | decide +kernel
theorem pn_3 : plainName "java/lang/StringLatin1" = true := by first | (simp [plainName, overriddenIn]; done) | decide +kernel
theorem pn_4 : plainName "java/util/OptionalLong" = true := by first | (simp [plainName, overriddenIn]; done) | decide +kernel
theorem pn_5 : plainName "com/example/lazuline/lazuline/PlainDecimalParsePinLaw" = true := by first | (simp [plainName, overriddenIn]; done) | decide +kernel
theorem pn_6 : plainName "com/example/lazuline/lazuline/PlainDecimal" = true := by first | (simp [plainName, overriddenIn]; done) | decide +kernel
theorem d1_0 : decode method_6_code 0 = .ok (.iload_n 0, 1) := by decide +kernel
theorem d1_1 : decode method_6_code 1 = .ok (.bipush 31, 2) := by decide +kernel
theorem d1_3 : decode method_6_code 3 = .ok (.iand, 1) := by decide +kernel
theorem d1_4 : decode method_6_code 4 = .ok (.istore_n 1, 1) := by decide +kernel
theorem d1_5 : decode method_6_code 5 = .ok (.iload_n 1, 1) := by decide +kernel
theorem d1_6 : decode method_6_code 6 = .ok (.bipush 16, 2) := by decide +kernel
theorem d1_8 : decode method_6_code 8 = .ok (.if_icmp .ge 10, 3) := by decide +kernel
theorem d1_11 : decode method_6_code 11 = .ok (.ldc 63, 2) := by decide +kernel
theorem d1_13 : decode method_6_code 13 = .ok (.iload_n 1, 1) := by decide +kernel
theorem d1_14 : decode method_6_code 14 = .ok (.invokevirtual 65, 3) := by decide +kernel
theorem d1_17 : decode method_6_code 17 = .ok (.ireturn, 1) := by decide +kernel
theorem d1_18 : decode method_6_code 18 = .ok (.iload_n 0, 1) := by decide +kernel
theorem d1_19 : decode method_6_code 19 = .ok (.iconst 5, 1) := by decide +kernel
theorem d1_20 : decode method_6_code 20 = .ok (.iushr, 1) := by decide +kernel
theorem d1_21 : decode method_6_code 21 = .ok (.sipush 255, 3) := by decide +kernel
theorem d1_24 : decode method_6_code 24 = .ok (.iand, 1) := by decide +kernel
theorem d1_25 : decode method_6_code 25 = .ok (.i2c, 1) := by decide +kernel
theorem d1_26 : decode method_6_code 26 = .ok (.ireturn, 1) := by decide +kernel
theorem d2_0 : decode jdk_42_method_56_code 0 = .ok (.aload_n 0, 1) := by decide +kernel
theorem d2_1 : decode jdk_42_method_56_code 1 = .ok (.invokevirtual 492, 3) := by decide +kernel
theorem d2_4 : decode jdk_42_method_56_code 4 = .ok (.ifCond .eq 12, 3) := by decide +kernel
theorem d2_7 : decode jdk_42_method_56_code 7 = .ok (.aload_n 0, 1) := by decide +kernel
theorem d2_8 : decode jdk_42_method_56_code 8 = .ok (.getfield 9, 3) := by decide +kernel
theorem d2_11 : decode jdk_42_method_56_code 11 = .ok (.iload_n 1, 1) := by decide +kernel
theorem d2_12 : decode jdk_42_method_56_code 12 = .ok (.invokestatic 495, 3) := by decide +kernel
theorem d2_15 : decode jdk_42_method_56_code 15 = .ok (.ireturn, 1) := by decide +kernel
theorem d3_0 : decode jdk_42_method_154_code 0 = .ok (.getstatic 38, 3) := by decide +kernel
theorem d3_3 : decode jdk_42_method_154_code 3 = .ok (.ifCond .eq 14, 3) := by decide +kernel
theorem d3_6 : decode jdk_42_method_154_code 6 = .ok (.aload_n 0, 1) := by decide +kernel
theorem d3_7 : decode jdk_42_method_154_code 7 = .ok (.getfield 15, 3) := by decide +kernel
theorem d3_10 : decode jdk_42_method_154_code 10 = .ok (.ifCond .ne 7, 3) := by decide +kernel
theorem d3_13 : decode jdk_42_method_154_code 13 = .ok (.iconst 1, 1) := by decide +kernel
theorem d3_14 : decode jdk_42_method_154_code 14 = .ok (.goto 4, 3) := by decide +kernel
theorem d3_17 : decode jdk_42_method_154_code 17 = .ok (.iconst 0, 1) := by decide +kernel
theorem d3_18 : decode jdk_42_method_154_code 18 = .ok (.ireturn, 1) := by decide +kernel
theorem d4_0 : decode jdk_43_method_2_code 0 = .ok (.iload_n 1, 1) := by decide +kernel
theorem d4_1 : decode jdk_43_method_2_code 1 = .ok (.aload_n 0, 1) := by decide +kernel
theorem d4_2 : decode jdk_43_method_2_code 2 = .ok (.arraylength, 1) := by decide +kernel
theorem d4_3 : decode jdk_43_method_2_code 3 = .ok (.invokestatic 9, 3) := by decide +kernel
theorem d4_6 : decode jdk_43_method_2_code 6 = .ok (.aload_n 0, 1) := by decide +kernel
theorem d4_7 : decode jdk_43_method_2_code 7 = .ok (.iload_n 1, 1) := by decide +kernel
theorem d4_8 : decode jdk_43_method_2_code 8 = .ok (.baload, 1) := by decide +kernel
theorem d4_9 : decode jdk_43_method_2_code 9 = .ok (.sipush 255, 3) := by decide +kernel
theorem d4_12 : decode jdk_43_method_2_code 12 = .ok (.iand, 1) := by decide +kernel
theorem d4_13 : decode jdk_43_method_2_code 13 = .ok (.i2c, 1) := by decide +kernel
theorem d4_14 : decode jdk_43_method_2_code 14 = .ok (.ireturn, 1) := by decide +kernel
theorem d5_0 : decode jdk_42_method_155_code 0 = .ok (.iload_n 0, 1) := by decide +kernel
theorem d5_1 : decode jdk_42_method_155_code 1 = .ok (.iload_n 1, 1) := by decide +kernel
theorem d5_2 : decode jdk_42_method_155_code 2 = .ok (.getstatic 1053, 3) := by decide +kernel
theorem d5_5 : decode jdk_42_method_155_code 5 = .ok (.invokestatic 1059, 3) := by decide +kernel
theorem d5_8 : decode jdk_42_method_155_code 8 = .ok (.pop, 1) := by decide +kernel
theorem d5_9 : decode jdk_42_method_155_code 9 = .ok (.return_, 1) := by decide +kernel
theorem d6_0 : decode jdk_41_method_11_code 0 = .ok (.iload_n 0, 1) := by decide +kernel
theorem d6_1 : decode jdk_41_method_11_code 1 = .ok (.ifCond .lt 8, 3) := by decide +kernel
theorem d6_4 : decode jdk_41_method_11_code 4 = .ok (.iload_n 0, 1) := by decide +kernel
theorem d6_5 : decode jdk_41_method_11_code 5 = .ok (.iload_n 1, 1) := by decide +kernel
theorem d6_6 : decode jdk_41_method_11_code 6 = .ok (.if_icmp .lt 10, 3) := by decide +kernel
theorem d6_16 : decode jdk_41_method_11_code 16 = .ok (.iload_n 0, 1) := by decide +kernel
theorem d6_17 : decode jdk_41_method_11_code 17 = .ok (.ireturn, 1) := by decide +kernel
theorem d7_0 : decode jdk_42_method_3_code 0 = .ok (.aload_n 0, 1) := by decide +kernel
theorem d7_1 : decode jdk_42_method_3_code 1 = .ok (.aload_n 1, 1) := by decide +kernel
theorem d7_2 : decode jdk_42_method_3_code 2 = .ok (.iconst 0, 1) := by decide +kernel
theorem d7_3 : decode jdk_42_method_3_code 3 = .ok (.aload_n 1, 1) := by decide +kernel
theorem d7_4 : decode jdk_42_method_3_code 4 = .ok (.arraylength, 1) := by decide +kernel
theorem d7_5 : decode jdk_42_method_3_code 5 = .ok (.aconst_null, 1) := by decide +kernel
theorem d7_6 : decode jdk_42_method_3_code 6 = .ok (.invokespecial 27, 3) := by decide +kernel
theorem d7_9 : decode jdk_42_method_3_code 9 = .ok (.return_, 1) := by decide +kernel
theorem d8_0 : decode jdk_42_method_149_code 0 = .ok (.aload_n 0, 1) := by decide +kernel
theorem d8_1 : decode jdk_42_method_149_code 1 = .ok (.invokespecial 1, 3) := by decide +kernel
theorem d8_4 : decode jdk_42_method_149_code 4 = .ok (.iload_n 3, 1) := by decide +kernel
theorem d8_5 : decode jdk_42_method_149_code 5 = .ok (.ifCond .ne 22, 3) := by decide +kernel
theorem d8_27 : decode jdk_42_method_149_code 27 = .ok (.getstatic 38, 3) := by decide +kernel
theorem d8_30 : decode jdk_42_method_149_code 30 = .ok (.ifCond .eq 28, 3) := by decide +kernel
theorem d8_33 : decode jdk_42_method_149_code 33 = .ok (.aload_n 1, 1) := by decide +kernel
theorem d8_34 : decode jdk_42_method_149_code 34 = .ok (.iload_n 2, 1) := by decide +kernel
theorem d8_35 : decode jdk_42_method_149_code 35 = .ok (.iload_n 3, 1) := by decide +kernel
theorem d8_36 : decode jdk_42_method_149_code 36 = .ok (.invokestatic 177, 3) := by decide +kernel
theorem d8_39 : decode jdk_42_method_149_code 39 = .ok (.astore 5, 2) := by decide +kernel
theorem d8_41 : decode jdk_42_method_149_code 41 = .ok (.aload_n 0, 1) := by decide +kernel
theorem d8_42 : decode jdk_42_method_149_code 42 = .ok (.aload 5, 2) := by decide +kernel
theorem d8_44 : decode jdk_42_method_149_code 44 = .ok (.iload_n 3, 1) := by decide +kernel
theorem d8_45 : decode jdk_42_method_149_code 45 = .ok (.invokestatic 47, 3) := by decide +kernel
theorem d8_48 : decode jdk_42_method_149_code 48 = .ok (.putfield 15, 3) := by decide +kernel
theorem d8_51 : decode jdk_42_method_149_code 51 = .ok (.aload_n 0, 1) := by decide +kernel
theorem d8_52 : decode jdk_42_method_149_code 52 = .ok (.aload 5, 2) := by decide +kernel
theorem d8_54 : decode jdk_42_method_149_code 54 = .ok (.putfield 9, 3) := by decide +kernel
theorem d8_57 : decode jdk_42_method_149_code 57 = .ok (.return_, 1) := by decide +kernel
theorem d10_0 : decode jdk_52_method_16_code 0 = .ok (.iload_n 2, 1) := by decide +kernel
theorem d10_1 : decode jdk_52_method_16_code 1 = .ok (.newarray .byte, 2) := by decide +kernel
theorem d10_3 : decode jdk_52_method_16_code 3 = .ok (.astore_n 3, 1) := by decide +kernel
theorem d10_4 : decode jdk_52_method_16_code 4 = .ok (.aload_n 0, 1) := by decide +kernel
theorem d10_5 : decode jdk_52_method_16_code 5 = .ok (.iload_n 1, 1) := by decide +kernel
theorem d10_6 : decode jdk_52_method_16_code 6 = .ok (.aload_n 3, 1) := by decide +kernel
theorem d10_7 : decode jdk_52_method_16_code 7 = .ok (.iconst 0, 1) := by decide +kernel
theorem d10_8 : decode jdk_52_method_16_code 8 = .ok (.iload_n 2, 1) := by decide +kernel
theorem d10_9 : decode jdk_52_method_16_code 9 = .ok (.invokestatic 115, 3) := by decide +kernel
theorem d10_12 : decode jdk_52_method_16_code 12 = .ok (.istore 4, 2) := by decide +kernel
theorem d10_14 : decode jdk_52_method_16_code 14 = .ok (.iload 4, 2) := by decide +kernel
theorem d10_16 : decode jdk_52_method_16_code 16 = .ok (.iload_n 2, 1) := by decide +kernel
theorem d10_17 : decode jdk_52_method_16_code 17 = .ok (.if_icmp .eq 40, 3) := by decide +kernel
theorem d10_57 : decode jdk_52_method_16_code 57 = .ok (.aload_n 3, 1) := by decide +kernel
theorem d10_58 : decode jdk_52_method_16_code 58 = .ok (.areturn, 1) := by decide +kernel
theorem d11_0 : decode jdk_52_method_21_code 0 = .ok (.iconst 0, 1) := by decide +kernel
theorem d11_1 : decode jdk_52_method_21_code 1 = .ok (.istore 5, 2) := by decide +kernel
theorem d11_3 : decode jdk_52_method_21_code 3 = .ok (.iload 5, 2) := by decide +kernel
theorem d11_5 : decode jdk_52_method_21_code 5 = .ok (.iload 4, 2) := by decide +kernel
theorem d11_7 : decode jdk_52_method_21_code 7 = .ok (.if_icmp .ge 37, 3) := by decide +kernel
theorem d11_10 : decode jdk_52_method_21_code 10 = .ok (.aload_n 0, 1) := by decide +kernel
theorem d11_11 : decode jdk_52_method_21_code 11 = .ok (.iload_n 1, 1) := by decide +kernel
theorem d11_12 : decode jdk_52_method_21_code 12 = .ok (.caload, 1) := by decide +kernel
theorem d11_13 : decode jdk_52_method_21_code 13 = .ok (.istore 6, 2) := by decide +kernel
theorem d11_15 : decode jdk_52_method_21_code 15 = .ok (.iload 6, 2) := by decide +kernel
theorem d11_17 : decode jdk_52_method_21_code 17 = .ok (.sipush 255, 3) := by decide +kernel
theorem d11_20 : decode jdk_52_method_21_code 20 = .ok (.if_icmp .le 6, 3) := by decide +kernel
theorem d11_26 : decode jdk_52_method_21_code 26 = .ok (.aload_n 2, 1) := by decide +kernel
theorem d11_27 : decode jdk_52_method_21_code 27 = .ok (.iload_n 3, 1) := by decide +kernel
theorem d11_28 : decode jdk_52_method_21_code 28 = .ok (.iload 6, 2) := by decide +kernel
theorem d11_30 : decode jdk_52_method_21_code 30 = .ok (.i2b, 1) := by decide +kernel
theorem d11_31 : decode jdk_52_method_21_code 31 = .ok (.bastore, 1) := by decide +kernel
theorem d11_32 : decode jdk_52_method_21_code 32 = .ok (.iinc 1 1, 3) := by decide +kernel
theorem d11_35 : decode jdk_52_method_21_code 35 = .ok (.iinc 3 1, 3) := by decide +kernel
theorem d11_38 : decode jdk_52_method_21_code 38 = .ok (.iinc 5 1, 3) := by decide +kernel
theorem d11_41 : decode jdk_52_method_21_code 41 = .ok (.goto (-38), 3) := by decide +kernel
theorem d11_44 : decode jdk_52_method_21_code 44 = .ok (.iload 4, 2) := by decide +kernel
theorem d11_46 : decode jdk_52_method_21_code 46 = .ok (.ireturn, 1) := by decide +kernel
theorem d12_0 : decode jdk_52_method_15_code 0 = .ok (.iload_n 1, 1) := by decide +kernel
theorem d12_1 : decode jdk_52_method_15_code 1 = .ok (.aload_n 0, 1) := by decide +kernel
theorem d12_2 : decode jdk_52_method_15_code 2 = .ok (.arraylength, 1) := by decide +kernel
theorem d12_3 : decode jdk_52_method_15_code 3 = .ok (.isub, 1) := by decide +kernel
theorem d12_4 : decode jdk_52_method_15_code 4 = .ok (.bipush 31, 2) := by decide +kernel
theorem d12_6 : decode jdk_52_method_15_code 6 = .ok (.iushr, 1) := by decide +kernel
theorem d12_7 : decode jdk_52_method_15_code 7 = .ok (.i2b, 1) := by decide +kernel
theorem d12_8 : decode jdk_52_method_15_code 8 = .ok (.ireturn, 1) := by decide +kernel
theorem d13_0 : decode prog_27_method_3_code 0 = .ok (.iload_n 1, 1) := by decide +kernel
theorem d13_1 : decode prog_27_method_3_code 1 = .ok (.iload_n 2, 1) := by decide +kernel
theorem d13_2 : decode prog_27_method_3_code 2 = .ok (.if_icmp .ge 19, 3) := by decide +kernel
theorem d13_5 : decode prog_27_method_3_code 5 = .ok (.aload_n 0, 1) := by decide +kernel
theorem d13_6 : decode prog_27_method_3_code 6 = .ok (.iload_n 1, 1) := by decide +kernel
theorem d13_7 : decode prog_27_method_3_code 7 = .ok (.invokeinterface 19 2, 5) := by decide +kernel
theorem d13_12 : decode prog_27_method_3_code 12 = .ok (.bipush 45, 2) := by decide +kernel
theorem d13_14 : decode prog_27_method_3_code 14 = .ok (.if_icmp .ne 7, 3) := by decide +kernel
theorem d13_17 : decode prog_27_method_3_code 17 = .ok (.iconst 1, 1) := by decide +kernel
theorem d13_18 : decode prog_27_method_3_code 18 = .ok (.goto 4, 3) := by decide +kernel
theorem d13_21 : decode prog_27_method_3_code 21 = .ok (.iconst 0, 1) := by decide +kernel
theorem d13_22 : decode prog_27_method_3_code 22 = .ok (.istore_n 3, 1) := by decide +kernel
theorem d13_23 : decode prog_27_method_3_code 23 = .ok (.iload_n 3, 1) := by decide +kernel
theorem d13_24 : decode prog_27_method_3_code 24 = .ok (.ifCond .eq 9, 3) := by decide +kernel
theorem d13_27 : decode prog_27_method_3_code 27 = .ok (.iload_n 1, 1) := by decide +kernel
theorem d13_28 : decode prog_27_method_3_code 28 = .ok (.iconst 1, 1) := by decide +kernel
theorem d13_29 : decode prog_27_method_3_code 29 = .ok (.iadd, 1) := by decide +kernel
theorem d13_30 : decode prog_27_method_3_code 30 = .ok (.goto 4, 3) := by decide +kernel
theorem d13_33 : decode prog_27_method_3_code 33 = .ok (.iload_n 1, 1) := by decide +kernel
theorem d13_34 : decode prog_27_method_3_code 34 = .ok (.istore 4, 2) := by decide +kernel
theorem d13_36 : decode prog_27_method_3_code 36 = .ok (.iload 4, 2) := by decide +kernel
theorem d13_38 : decode prog_27_method_3_code 38 = .ok (.iload_n 2, 1) := by decide +kernel
theorem d13_39 : decode prog_27_method_3_code 39 = .ok (.if_icmp .eq 23, 3) := by decide +kernel
theorem d13_42 : decode prog_27_method_3_code 42 = .ok (.aload_n 0, 1) := by decide +kernel
theorem d13_43 : decode prog_27_method_3_code 43 = .ok (.iload 4, 2) := by decide +kernel
theorem d13_45 : decode prog_27_method_3_code 45 = .ok (.invokeinterface 19 2, 5) := by decide +kernel
theorem d13_50 : decode prog_27_method_3_code 50 = .ok (.bipush 48, 2) := by decide +kernel
theorem d13_52 : decode prog_27_method_3_code 52 = .ok (.if_icmp .ne 14, 3) := by decide +kernel
theorem d13_55 : decode prog_27_method_3_code 55 = .ok (.iload_n 2, 1) := by decide +kernel
theorem d13_56 : decode prog_27_method_3_code 56 = .ok (.iload_n 1, 1) := by decide +kernel
theorem d13_57 : decode prog_27_method_3_code 57 = .ok (.isub, 1) := by decide +kernel
theorem d13_58 : decode prog_27_method_3_code 58 = .ok (.iconst 1, 1) := by decide +kernel
theorem d13_59 : decode prog_27_method_3_code 59 = .ok (.if_icmp .le 7, 3) := by decide +kernel
theorem d13_62 : decode prog_27_method_3_code 62 = .ok (.invokestatic 25, 3) := by decide +kernel
theorem d13_65 : decode prog_27_method_3_code 65 = .ok (.areturn, 1) := by decide +kernel
theorem d13_66 : decode prog_27_method_3_code 66 = .ok (.iload_n 3, 1) := by decide +kernel
theorem d13_67 : decode prog_27_method_3_code 67 = .ok (.ifCond .eq 9, 3) := by decide +kernel
theorem d13_70 : decode prog_27_method_3_code 70 = .ok (.ldc2_w 33, 3) := by decide +kernel
theorem d13_73 : decode prog_27_method_3_code 73 = .ok (.goto 6, 3) := by decide +kernel
theorem d13_76 : decode prog_27_method_3_code 76 = .ok (.ldc2_w 35, 3) := by decide +kernel
theorem d13_79 : decode prog_27_method_3_code 79 = .ok (.lstore 5, 2) := by decide +kernel
theorem d13_81 : decode prog_27_method_3_code 81 = .ok (.lconst 0, 1) := by decide +kernel
theorem d13_82 : decode prog_27_method_3_code 82 = .ok (.lstore 7, 2) := by decide +kernel
theorem d13_84 : decode prog_27_method_3_code 84 = .ok (.iload 4, 2) := by decide +kernel
theorem d13_86 : decode prog_27_method_3_code 86 = .ok (.istore 9, 2) := by decide +kernel
theorem d13_88 : decode prog_27_method_3_code 88 = .ok (.iload 9, 2) := by decide +kernel
theorem d13_90 : decode prog_27_method_3_code 90 = .ok (.iload_n 2, 1) := by decide +kernel
theorem d13_91 : decode prog_27_method_3_code 91 = .ok (.if_icmp .ge 66, 3) := by decide +kernel
theorem d13_94 : decode prog_27_method_3_code 94 = .ok (.aload_n 0, 1) := by decide +kernel
theorem d13_95 : decode prog_27_method_3_code 95 = .ok (.iload 9, 2) := by decide +kernel
theorem d13_97 : decode prog_27_method_3_code 97 = .ok (.invokeinterface 19 2, 5) := by decide +kernel
theorem d13_102 : decode prog_27_method_3_code 102 = .ok (.bipush 48, 2) := by decide +kernel
theorem d13_104 : decode prog_27_method_3_code 104 = .ok (.isub, 1) := by decide +kernel
theorem d13_105 : decode prog_27_method_3_code 105 = .ok (.istore 10, 2) := by decide +kernel
theorem d13_107 : decode prog_27_method_3_code 107 = .ok (.iload 10, 2) := by decide +kernel
theorem d13_109 : decode prog_27_method_3_code 109 = .ok (.ifCond .lt 26, 3) := by decide +kernel
theorem d13_112 : decode prog_27_method_3_code 112 = .ok (.iload 10, 2) := by decide +kernel
theorem d13_114 : decode prog_27_method_3_code 114 = .ok (.bipush 9, 2) := by decide +kernel
theorem d13_116 : decode prog_27_method_3_code 116 = .ok (.if_icmp .gt 19, 3) := by decide +kernel
theorem d13_119 : decode prog_27_method_3_code 119 = .ok (.lload 7, 2) := by decide +kernel
theorem d13_121 : decode prog_27_method_3_code 121 = .ok (.lload 5, 2) := by decide +kernel
theorem d13_123 : decode prog_27_method_3_code 123 = .ok (.iload 10, 2) := by decide +kernel
theorem d13_125 : decode prog_27_method_3_code 125 = .ok (.i2l, 1) := by decide +kernel
theorem d13_126 : decode prog_27_method_3_code 126 = .ok (.ladd, 1) := by decide +kernel
theorem d13_127 : decode prog_27_method_3_code 127 = .ok (.ldc2_w 37, 3) := by decide +kernel
theorem d13_130 : decode prog_27_method_3_code 130 = .ok (.ldiv, 1) := by decide +kernel
theorem d13_131 : decode prog_27_method_3_code 131 = .ok (.lcmp, 1) := by decide +kernel
theorem d13_132 : decode prog_27_method_3_code 132 = .ok (.ifCond .ge 7, 3) := by decide +kernel
theorem d13_135 : decode prog_27_method_3_code 135 = .ok (.invokestatic 25, 3) := by decide +kernel
theorem d13_138 : decode prog_27_method_3_code 138 = .ok (.areturn, 1) := by decide +kernel
theorem d13_139 : decode prog_27_method_3_code 139 = .ok (.lload 7, 2) := by decide +kernel
theorem d13_141 : decode prog_27_method_3_code 141 = .ok (.ldc2_w 37, 3) := by decide +kernel
theorem d13_144 : decode prog_27_method_3_code 144 = .ok (.lmul, 1) := by decide +kernel
theorem d13_145 : decode prog_27_method_3_code 145 = .ok (.iload 10, 2) := by decide +kernel
theorem d13_147 : decode prog_27_method_3_code 147 = .ok (.i2l, 1) := by decide +kernel
theorem d13_148 : decode prog_27_method_3_code 148 = .ok (.lsub, 1) := by decide +kernel
theorem d13_149 : decode prog_27_method_3_code 149 = .ok (.lstore 7, 2) := by decide +kernel
theorem d13_151 : decode prog_27_method_3_code 151 = .ok (.iinc 9 1, 3) := by decide +kernel
theorem d13_154 : decode prog_27_method_3_code 154 = .ok (.goto (-66), 3) := by decide +kernel
theorem d13_157 : decode prog_27_method_3_code 157 = .ok (.iload_n 3, 1) := by decide +kernel
theorem d13_158 : decode prog_27_method_3_code 158 = .ok (.ifCond .eq 8, 3) := by decide +kernel
theorem d13_161 : decode prog_27_method_3_code 161 = .ok (.lload 7, 2) := by decide +kernel
theorem d13_163 : decode prog_27_method_3_code 163 = .ok (.goto 6, 3) := by decide +kernel
theorem d13_166 : decode prog_27_method_3_code 166 = .ok (.lload 7, 2) := by decide +kernel
theorem d13_168 : decode prog_27_method_3_code 168 = .ok (.lneg, 1) := by decide +kernel
theorem d13_169 : decode prog_27_method_3_code 169 = .ok (.invokestatic 39, 3) := by decide +kernel
theorem d13_172 : decode prog_27_method_3_code 172 = .ok (.areturn, 1) := by decide +kernel
theorem d14_0 : decode jdk_2650_method_2_code 0 = .ok (.getstatic 17, 3) := by decide +kernel
theorem d14_3 : decode jdk_2650_method_2_code 3 = .ok (.areturn, 1) := by decide +kernel
theorem d15_0 : decode method_4_code 0 = .ok (.aload_n 0, 1) := by decide +kernel
theorem d15_1 : decode method_4_code 1 = .ok (.invokevirtual 51, 3) := by decide +kernel
theorem d15_4 : decode method_4_code 4 = .ok (.iload_n 1, 1) := by decide +kernel
theorem d15_5 : decode method_4_code 5 = .ok (.if_icmp .eq 5, 3) := by decide +kernel
theorem d15_10 : decode method_4_code 10 = .ok (.iload_n 1, 1) := by decide +kernel
theorem d15_11 : decode method_4_code 11 = .ok (.ifCond .eq 12, 3) := by decide +kernel
theorem d15_14 : decode method_4_code 14 = .ok (.aload_n 0, 1) := by decide +kernel
theorem d15_15 : decode method_4_code 15 = .ok (.invokevirtual 57, 3) := by decide +kernel
theorem d15_18 : decode method_4_code 18 = .ok (.lload_n 2, 1) := by decide +kernel
theorem d15_19 : decode method_4_code 19 = .ok (.lcmp, 1) := by decide +kernel
theorem d15_20 : decode method_4_code 20 = .ok (.ifCond .ne 7, 3) := by decide +kernel
theorem d15_23 : decode method_4_code 23 = .ok (.iconst 1, 1) := by decide +kernel
theorem d15_24 : decode method_4_code 24 = .ok (.goto 4, 3) := by decide +kernel
theorem d15_28 : decode method_4_code 28 = .ok (.ireturn, 1) := by decide +kernel
theorem d16_0 : decode jdk_2650_method_6_code 0 = .ok (.aload_n 0, 1) := by decide +kernel
theorem d16_1 : decode jdk_2650_method_6_code 1 = .ok (.getfield 7, 3) := by decide +kernel
theorem d16_4 : decode jdk_2650_method_6_code 4 = .ok (.ireturn, 1) := by decide +kernel
theorem d17_0 : decode method_3_code 0 = .ok (.iload_n 0, 1) := by decide +kernel
theorem d17_1 : decode method_3_code 1 = .ok (.ldc 36, 2) := by decide +kernel
theorem d17_3 : decode method_3_code 3 = .ok (.iand, 1) := by decide +kernel
theorem d17_4 : decode method_3_code 4 = .ok (.bipush 10, 2) := by decide +kernel
theorem d17_6 : decode method_3_code 6 = .ok (.irem, 1) := by decide +kernel
theorem d17_7 : decode method_3_code 7 = .ok (.istore 4, 2) := by decide +kernel
theorem d17_9 : decode method_3_code 9 = .ok (.iload_n 1, 1) := by decide +kernel
theorem d17_10 : decode method_3_code 10 = .ok (.ldc 36, 2) := by decide +kernel
theorem d17_12 : decode method_3_code 12 = .ok (.iand, 1) := by decide +kernel
theorem d17_13 : decode method_3_code 13 = .ok (.bipush 10, 2) := by decide +kernel
theorem d17_15 : decode method_3_code 15 = .ok (.irem, 1) := by decide +kernel
theorem d17_16 : decode method_3_code 16 = .ok (.istore 5, 2) := by decide +kernel
theorem d17_18 : decode method_3_code 18 = .ok (.iload_n 2, 1) := by decide +kernel
theorem d17_19 : decode method_3_code 19 = .ok (.ldc 36, 2) := by decide +kernel
theorem d17_21 : decode method_3_code 21 = .ok (.iand, 1) := by decide +kernel
theorem d17_22 : decode method_3_code 22 = .ok (.bipush 10, 2) := by decide +kernel
theorem d17_24 : decode method_3_code 24 = .ok (.irem, 1) := by decide +kernel
theorem d17_25 : decode method_3_code 25 = .ok (.istore 6, 2) := by decide +kernel
theorem d17_27 : decode method_3_code 27 = .ok (.bipush 22, 2) := by decide +kernel
theorem d17_29 : decode method_3_code 29 = .ok (.newarray .char, 2) := by decide +kernel
theorem d17_31 : decode method_3_code 31 = .ok (.astore 7, 2) := by decide +kernel
theorem d17_33 : decode method_3_code 33 = .ok (.aload 7, 2) := by decide +kernel
theorem d17_35 : decode method_3_code 35 = .ok (.iconst 0, 1) := by decide +kernel
theorem d17_36 : decode method_3_code 36 = .ok (.bipush 45, 2) := by decide +kernel
theorem d17_38 : decode method_3_code 38 = .ok (.castore, 1) := by decide +kernel
theorem d17_39 : decode method_3_code 39 = .ok (.aload 7, 2) := by decide +kernel
theorem d17_41 : decode method_3_code 41 = .ok (.iconst 1, 1) := by decide +kernel
theorem d17_42 : decode method_3_code 42 = .ok (.bipush 57, 2) := by decide +kernel
theorem d17_44 : decode method_3_code 44 = .ok (.castore, 1) := by decide +kernel
theorem d17_45 : decode method_3_code 45 = .ok (.aload 7, 2) := by decide +kernel
theorem d17_47 : decode method_3_code 47 = .ok (.iconst 2, 1) := by decide +kernel
theorem d17_48 : decode method_3_code 48 = .ok (.bipush 50, 2) := by decide +kernel
theorem d17_50 : decode method_3_code 50 = .ok (.castore, 1) := by decide +kernel
theorem d17_51 : decode method_3_code 51 = .ok (.aload 7, 2) := by decide +kernel
theorem d17_53 : decode method_3_code 53 = .ok (.iconst 3, 1) := by decide +kernel
theorem d17_54 : decode method_3_code 54 = .ok (.bipush 50, 2) := by decide +kernel
theorem d17_56 : decode method_3_code 56 = .ok (.castore, 1) := by decide +kernel
theorem d17_57 : decode method_3_code 57 = .ok (.aload 7, 2) := by decide +kernel
theorem d17_59 : decode method_3_code 59 = .ok (.iconst 4, 1) := by decide +kernel
theorem d17_60 : decode method_3_code 60 = .ok (.bipush 51, 2) := by decide +kernel
theorem d17_62 : decode method_3_code 62 = .ok (.castore, 1) := by decide +kernel
theorem d17_63 : decode method_3_code 63 = .ok (.aload 7, 2) := by decide +kernel
theorem d17_65 : decode method_3_code 65 = .ok (.iconst 5, 1) := by decide +kernel
theorem d17_66 : decode method_3_code 66 = .ok (.bipush 51, 2) := by decide +kernel
theorem d17_68 : decode method_3_code 68 = .ok (.castore, 1) := by decide +kernel
theorem d17_69 : decode method_3_code 69 = .ok (.aload 7, 2) := by decide +kernel
theorem d17_71 : decode method_3_code 71 = .ok (.bipush 6, 2) := by decide +kernel
theorem d17_73 : decode method_3_code 73 = .ok (.bipush 55, 2) := by decide +kernel
theorem d17_75 : decode method_3_code 75 = .ok (.castore, 1) := by decide +kernel
theorem d17_76 : decode method_3_code 76 = .ok (.aload 7, 2) := by decide +kernel
theorem d17_78 : decode method_3_code 78 = .ok (.bipush 7, 2) := by decide +kernel
theorem d17_80 : decode method_3_code 80 = .ok (.bipush 50, 2) := by decide +kernel
theorem d17_82 : decode method_3_code 82 = .ok (.castore, 1) := by decide +kernel
theorem d17_83 : decode method_3_code 83 = .ok (.aload 7, 2) := by decide +kernel
theorem d17_85 : decode method_3_code 85 = .ok (.bipush 8, 2) := by decide +kernel
theorem d17_87 : decode method_3_code 87 = .ok (.bipush 48, 2) := by decide +kernel
theorem d17_89 : decode method_3_code 89 = .ok (.castore, 1) := by decide +kernel
theorem d17_90 : decode method_3_code 90 = .ok (.aload 7, 2) := by decide +kernel
theorem d17_92 : decode method_3_code 92 = .ok (.bipush 9, 2) := by decide +kernel
theorem d17_94 : decode method_3_code 94 = .ok (.bipush 51, 2) := by decide +kernel
theorem d17_96 : decode method_3_code 96 = .ok (.castore, 1) := by decide +kernel
theorem d17_97 : decode method_3_code 97 = .ok (.aload 7, 2) := by decide +kernel
theorem d17_99 : decode method_3_code 99 = .ok (.bipush 10, 2) := by decide +kernel
theorem d17_101 : decode method_3_code 101 = .ok (.bipush 54, 2) := by decide +kernel
theorem d17_103 : decode method_3_code 103 = .ok (.castore, 1) := by decide +kernel
theorem d17_104 : decode method_3_code 104 = .ok (.aload 7, 2) := by decide +kernel
theorem d17_106 : decode method_3_code 106 = .ok (.bipush 11, 2) := by decide +kernel
theorem d17_108 : decode method_3_code 108 = .ok (.bipush 56, 2) := by decide +kernel
theorem d17_110 : decode method_3_code 110 = .ok (.castore, 1) := by decide +kernel
theorem d17_111 : decode method_3_code 111 = .ok (.aload 7, 2) := by decide +kernel
theorem d17_113 : decode method_3_code 113 = .ok (.bipush 12, 2) := by decide +kernel
theorem d17_115 : decode method_3_code 115 = .ok (.bipush 53, 2) := by decide +kernel
theorem d17_117 : decode method_3_code 117 = .ok (.castore, 1) := by decide +kernel
theorem d17_118 : decode method_3_code 118 = .ok (.aload 7, 2) := by decide +kernel
theorem d17_120 : decode method_3_code 120 = .ok (.bipush 13, 2) := by decide +kernel
theorem d17_122 : decode method_3_code 122 = .ok (.bipush 52, 2) := by decide +kernel
theorem d17_124 : decode method_3_code 124 = .ok (.castore, 1) := by decide +kernel
theorem d17_125 : decode method_3_code 125 = .ok (.aload 7, 2) := by decide +kernel
theorem d17_127 : decode method_3_code 127 = .ok (.bipush 14, 2) := by decide +kernel
theorem d17_129 : decode method_3_code 129 = .ok (.bipush 55, 2) := by decide +kernel
theorem d17_131 : decode method_3_code 131 = .ok (.castore, 1) := by decide +kernel
theorem d17_132 : decode method_3_code 132 = .ok (.aload 7, 2) := by decide +kernel
theorem d17_134 : decode method_3_code 134 = .ok (.bipush 15, 2) := by decide +kernel
theorem d17_136 : decode method_3_code 136 = .ok (.bipush 55, 2) := by decide +kernel
theorem d17_138 : decode method_3_code 138 = .ok (.castore, 1) := by decide +kernel
theorem d17_139 : decode method_3_code 139 = .ok (.aload 7, 2) := by decide +kernel
theorem d17_141 : decode method_3_code 141 = .ok (.bipush 16, 2) := by decide +kernel
theorem d17_143 : decode method_3_code 143 = .ok (.bipush 53, 2) := by decide +kernel
theorem d17_145 : decode method_3_code 145 = .ok (.castore, 1) := by decide +kernel
theorem d17_146 : decode method_3_code 146 = .ok (.aload 7, 2) := by decide +kernel
theorem d17_148 : decode method_3_code 148 = .ok (.bipush 17, 2) := by decide +kernel
theorem d17_150 : decode method_3_code 150 = .ok (.bipush 56, 2) := by decide +kernel
theorem d17_152 : decode method_3_code 152 = .ok (.castore, 1) := by decide +kernel
theorem d17_153 : decode method_3_code 153 = .ok (.aload 7, 2) := by decide +kernel
theorem d17_155 : decode method_3_code 155 = .ok (.bipush 18, 2) := by decide +kernel
theorem d17_157 : decode method_3_code 157 = .ok (.bipush 48, 2) := by decide +kernel
theorem d17_159 : decode method_3_code 159 = .ok (.iload 4, 2) := by decide +kernel
theorem d17_161 : decode method_3_code 161 = .ok (.iadd, 1) := by decide +kernel
theorem d17_162 : decode method_3_code 162 = .ok (.i2c, 1) := by decide +kernel
theorem d17_163 : decode method_3_code 163 = .ok (.castore, 1) := by decide +kernel
theorem d17_164 : decode method_3_code 164 = .ok (.aload 7, 2) := by decide +kernel
theorem d17_166 : decode method_3_code 166 = .ok (.bipush 19, 2) := by decide +kernel
theorem d17_168 : decode method_3_code 168 = .ok (.bipush 48, 2) := by decide +kernel
theorem d17_170 : decode method_3_code 170 = .ok (.iload 5, 2) := by decide +kernel
theorem d17_172 : decode method_3_code 172 = .ok (.iadd, 1) := by decide +kernel
theorem d17_173 : decode method_3_code 173 = .ok (.i2c, 1) := by decide +kernel
theorem d17_174 : decode method_3_code 174 = .ok (.castore, 1) := by decide +kernel
theorem d17_175 : decode method_3_code 175 = .ok (.aload 7, 2) := by decide +kernel
theorem d17_177 : decode method_3_code 177 = .ok (.bipush 20, 2) := by decide +kernel
theorem d17_179 : decode method_3_code 179 = .ok (.bipush 48, 2) := by decide +kernel
theorem d17_181 : decode method_3_code 181 = .ok (.iload 6, 2) := by decide +kernel
theorem d17_183 : decode method_3_code 183 = .ok (.iadd, 1) := by decide +kernel
theorem d17_184 : decode method_3_code 184 = .ok (.i2c, 1) := by decide +kernel
theorem d17_185 : decode method_3_code 185 = .ok (.castore, 1) := by decide +kernel
theorem d17_186 : decode method_3_code 186 = .ok (.aload 7, 2) := by decide +kernel
theorem d17_188 : decode method_3_code 188 = .ok (.bipush 21, 2) := by decide +kernel
theorem d17_190 : decode method_3_code 190 = .ok (.bipush 53, 2) := by decide +kernel
theorem d17_192 : decode method_3_code 192 = .ok (.castore, 1) := by decide +kernel
theorem d17_193 : decode method_3_code 193 = .ok (.iload_n 3, 1) := by decide +kernel
theorem d17_194 : decode method_3_code 194 = .ok (.sipush 255, 3) := by decide +kernel
theorem d17_197 : decode method_3_code 197 = .ok (.iand, 1) := by decide +kernel
theorem d17_198 : decode method_3_code 198 = .ok (.iconst 3, 1) := by decide +kernel
theorem d17_199 : decode method_3_code 199 = .ok (.irem, 1) := by decide +kernel
theorem d17_200 : decode method_3_code 200 = .ok (.istore 8, 2) := by decide +kernel
theorem d17_202 : decode method_3_code 202 = .ok (.bipush 20, 2) := by decide +kernel
theorem d17_204 : decode method_3_code 204 = .ok (.iload_n 3, 1) := by decide +kernel
theorem d17_205 : decode method_3_code 205 = .ok (.bipush 8, 2) := by decide +kernel
theorem d17_207 : decode method_3_code 207 = .ok (.iushr, 1) := by decide +kernel
theorem d17_208 : decode method_3_code 208 = .ok (.iconst 1, 1) := by decide +kernel
theorem d17_209 : decode method_3_code 209 = .ok (.iand, 1) := by decide +kernel
theorem d17_210 : decode method_3_code 210 = .ok (.iadd, 1) := by decide +kernel
theorem d17_211 : decode method_3_code 211 = .ok (.istore 9, 2) := by decide +kernel
theorem d17_213 : decode method_3_code 213 = .ok (.iload 4, 2) := by decide +kernel
theorem d17_215 : decode method_3_code 215 = .ok (.i2l, 1) := by decide +kernel
theorem d17_216 : decode method_3_code 216 = .ok (.ldc2_w 37, 3) := by decide +kernel
theorem d17_219 : decode method_3_code 219 = .ok (.lmul, 1) := by decide +kernel
theorem d17_220 : decode method_3_code 220 = .ok (.iload 5, 2) := by decide +kernel
theorem d17_222 : decode method_3_code 222 = .ok (.i2l, 1) := by decide +kernel
theorem d17_223 : decode method_3_code 223 = .ok (.ladd, 1) := by decide +kernel
theorem d17_224 : decode method_3_code 224 = .ok (.lstore 10, 2) := by decide +kernel
theorem d17_226 : decode method_3_code 226 = .ok (.lconst 0, 1) := by decide +kernel
theorem d17_227 : decode method_3_code 227 = .ok (.lstore 13, 2) := by decide +kernel
theorem d17_229 : decode method_3_code 229 = .ok (.iload 8, 2) := by decide +kernel
theorem d17_231 : decode method_3_code 231 = .ok (.iconst 2, 1) := by decide +kernel
theorem d17_232 : decode method_3_code 232 = .ok (.if_icmp .ne 43, 3) := by decide +kernel
theorem d17_235 : decode method_3_code 235 = .ok (.iconst 1, 1) := by decide +kernel
theorem d17_236 : decode method_3_code 236 = .ok (.istore 12, 2) := by decide +kernel
theorem d17_238 : decode method_3_code 238 = .ok (.iload 9, 2) := by decide +kernel
theorem d17_240 : decode method_3_code 240 = .ok (.bipush 20, 2) := by decide +kernel
theorem d17_242 : decode method_3_code 242 = .ok (.if_icmp .ne 14, 3) := by decide +kernel
theorem d17_245 : decode method_3_code 245 = .ok (.ldc2_w 39, 3) := by decide +kernel
theorem d17_248 : decode method_3_code 248 = .ok (.lload 10, 2) := by decide +kernel
theorem d17_250 : decode method_3_code 250 = .ok (.ladd, 1) := by decide +kernel
theorem d17_251 : decode method_3_code 251 = .ok (.lstore 13, 2) := by decide +kernel
theorem d17_253 : decode method_3_code 253 = .ok (.goto 102, 3) := by decide +kernel
theorem d17_256 : decode method_3_code 256 = .ok (.ldc2_w 41, 3) := by decide +kernel
theorem d17_259 : decode method_3_code 259 = .ok (.lload 10, 2) := by decide +kernel
theorem d17_261 : decode method_3_code 261 = .ok (.ldc2_w 37, 3) := by decide +kernel
theorem d17_264 : decode method_3_code 264 = .ok (.lmul, 1) := by decide +kernel
theorem d17_265 : decode method_3_code 265 = .ok (.ladd, 1) := by decide +kernel
theorem d17_266 : decode method_3_code 266 = .ok (.iload 6, 2) := by decide +kernel
theorem d17_268 : decode method_3_code 268 = .ok (.i2l, 1) := by decide +kernel
theorem d17_269 : decode method_3_code 269 = .ok (.ladd, 1) := by decide +kernel
theorem d17_270 : decode method_3_code 270 = .ok (.lstore 13, 2) := by decide +kernel
theorem d17_272 : decode method_3_code 272 = .ok (.goto 83, 3) := by decide +kernel
theorem d17_275 : decode method_3_code 275 = .ok (.iload 9, 2) := by decide +kernel
theorem d17_277 : decode method_3_code 277 = .ok (.bipush 21, 2) := by decide +kernel
theorem d17_279 : decode method_3_code 279 = .ok (.if_icmp .ne 9, 3) := by decide +kernel
theorem d17_282 : decode method_3_code 282 = .ok (.iconst 0, 1) := by decide +kernel
theorem d17_283 : decode method_3_code 283 = .ok (.istore 12, 2) := by decide +kernel
theorem d17_285 : decode method_3_code 285 = .ok (.goto 70, 3) := by decide +kernel
theorem d17_288 : decode method_3_code 288 = .ok (.iload 8, 2) := by decide +kernel
theorem d17_290 : decode method_3_code 290 = .ok (.iconst 1, 1) := by decide +kernel
theorem d17_291 : decode method_3_code 291 = .ok (.if_icmp .ne 35, 3) := by decide +kernel
theorem d17_294 : decode method_3_code 294 = .ok (.lload 10, 2) := by decide +kernel
theorem d17_296 : decode method_3_code 296 = .ok (.ldc2_w 43, 3) := by decide +kernel
theorem d17_299 : decode method_3_code 299 = .ok (.lcmp, 1) := by decide +kernel
theorem d17_300 : decode method_3_code 300 = .ok (.ifCond .gt 7, 3) := by decide +kernel
theorem d17_303 : decode method_3_code 303 = .ok (.iconst 1, 1) := by decide +kernel
theorem d17_304 : decode method_3_code 304 = .ok (.goto 4, 3) := by decide +kernel
theorem d17_307 : decode method_3_code 307 = .ok (.iconst 0, 1) := by decide +kernel
theorem d17_308 : decode method_3_code 308 = .ok (.istore 12, 2) := by decide +kernel
theorem d17_310 : decode method_3_code 310 = .ok (.iload 12, 2) := by decide +kernel
theorem d17_312 : decode method_3_code 312 = .ok (.ifCond .eq 43, 3) := by decide +kernel
theorem d17_315 : decode method_3_code 315 = .ok (.ldc2_w 45, 3) := by decide +kernel
theorem d17_318 : decode method_3_code 318 = .ok (.lload 10, 2) := by decide +kernel
theorem d17_320 : decode method_3_code 320 = .ok (.ladd, 1) := by decide +kernel
theorem d17_321 : decode method_3_code 321 = .ok (.lstore 13, 2) := by decide +kernel
theorem d17_323 : decode method_3_code 323 = .ok (.goto 32, 3) := by decide +kernel
theorem d17_326 : decode method_3_code 326 = .ok (.lload 10, 2) := by decide +kernel
theorem d17_328 : decode method_3_code 328 = .ok (.ldc2_w 47, 3) := by decide +kernel
theorem d17_331 : decode method_3_code 331 = .ok (.lcmp, 1) := by decide +kernel
theorem d17_332 : decode method_3_code 332 = .ok (.ifCond .gt 7, 3) := by decide +kernel
theorem d17_335 : decode method_3_code 335 = .ok (.iconst 1, 1) := by decide +kernel
theorem d17_336 : decode method_3_code 336 = .ok (.goto 4, 3) := by decide +kernel
theorem d17_339 : decode method_3_code 339 = .ok (.iconst 0, 1) := by decide +kernel
theorem d17_340 : decode method_3_code 340 = .ok (.istore 12, 2) := by decide +kernel
theorem d17_342 : decode method_3_code 342 = .ok (.iload 12, 2) := by decide +kernel
theorem d17_344 : decode method_3_code 344 = .ok (.ifCond .eq 11, 3) := by decide +kernel
theorem d17_347 : decode method_3_code 347 = .ok (.ldc2_w 49, 3) := by decide +kernel
theorem d17_350 : decode method_3_code 350 = .ok (.lload 10, 2) := by decide +kernel
theorem d17_352 : decode method_3_code 352 = .ok (.lsub, 1) := by decide +kernel
theorem d17_353 : decode method_3_code 353 = .ok (.lstore 13, 2) := by decide +kernel
theorem d17_355 : decode method_3_code 355 = .ok (.new 21, 3) := by decide +kernel
theorem d17_358 : decode method_3_code 358 = .ok (.dup, 1) := by decide +kernel
theorem d17_359 : decode method_3_code 359 = .ok (.aload 7, 2) := by decide +kernel
theorem d17_361 : decode method_3_code 361 = .ok (.invokespecial 23, 3) := by decide +kernel
theorem d17_364 : decode method_3_code 364 = .ok (.iload 8, 2) := by decide +kernel
theorem d17_366 : decode method_3_code 366 = .ok (.iload 9, 2) := by decide +kernel
theorem d17_368 : decode method_3_code 368 = .ok (.invokestatic 26, 3) := by decide +kernel
theorem d17_371 : decode method_3_code 371 = .ok (.astore 15, 2) := by decide +kernel
theorem d17_373 : decode method_3_code 373 = .ok (.aload 15, 2) := by decide +kernel
theorem d17_375 : decode method_3_code 375 = .ok (.iload 12, 2) := by decide +kernel
theorem d17_377 : decode method_3_code 377 = .ok (.lload 13, 2) := by decide +kernel
theorem d17_379 : decode method_3_code 379 = .ok (.invokestatic 32, 3) := by decide +kernel
theorem d17_382 : decode method_3_code 382 = .ok (.ireturn, 1) := by decide +kernel
theorem d18_0 : decode jdk_2650_method_4_code 0 = .ok (.new 8, 3) := by decide +kernel
theorem d18_3 : decode jdk_2650_method_4_code 3 = .ok (.dup, 1) := by decide +kernel
theorem d18_4 : decode jdk_2650_method_4_code 4 = .ok (.lload_n 0, 1) := by decide +kernel
theorem d18_5 : decode jdk_2650_method_4_code 5 = .ok (.invokespecial 21, 3) := by decide +kernel
theorem d18_8 : decode jdk_2650_method_4_code 8 = .ok (.areturn, 1) := by decide +kernel
theorem d19_0 : decode jdk_2650_method_3_code 0 = .ok (.aload_n 0, 1) := by decide +kernel
theorem d19_1 : decode jdk_2650_method_3_code 1 = .ok (.invokespecial 1, 3) := by decide +kernel
theorem d19_4 : decode jdk_2650_method_3_code 4 = .ok (.aload_n 0, 1) := by decide +kernel
theorem d19_5 : decode jdk_2650_method_3_code 5 = .ok (.iconst 1, 1) := by decide +kernel
theorem d19_6 : decode jdk_2650_method_3_code 6 = .ok (.putfield 7, 3) := by decide +kernel
theorem d19_9 : decode jdk_2650_method_3_code 9 = .ok (.aload_n 0, 1) := by decide +kernel
theorem d19_10 : decode jdk_2650_method_3_code 10 = .ok (.lload_n 1, 1) := by decide +kernel
theorem d19_11 : decode jdk_2650_method_3_code 11 = .ok (.putfield 13, 3) := by decide +kernel
theorem d19_14 : decode jdk_2650_method_3_code 14 = .ok (.return_, 1) := by decide +kernel
theorem d20_0 : decode jdk_2650_method_5_code 0 = .ok (.aload_n 0, 1) := by decide +kernel
theorem d20_1 : decode jdk_2650_method_5_code 1 = .ok (.getfield 7, 3) := by decide +kernel
theorem d20_4 : decode jdk_2650_method_5_code 4 = .ok (.ifCond .ne 13, 3) := by decide +kernel
theorem d20_17 : decode jdk_2650_method_5_code 17 = .ok (.aload_n 0, 1) := by decide +kernel
theorem d20_18 : decode jdk_2650_method_5_code 18 = .ok (.getfield 13, 3) := by decide +kernel
theorem d20_21 : decode jdk_2650_method_5_code 21 = .ok (.lreturn, 1) := by decide +kernel
theorem d21_0 : decode method_5_code 0 = .ok (.lload_n 3, 1) := by decide +kernel
theorem d21_1 : decode method_5_code 1 = .ok (.lconst 0, 1) := by decide +kernel
theorem d21_2 : decode method_5_code 2 = .ok (.lcmp, 1) := by decide +kernel
theorem d21_3 : decode method_5_code 3 = .ok (.ifCond .lt 8, 3) := by decide +kernel
theorem d21_6 : decode method_5_code 6 = .ok (.iload_n 1, 1) := by decide +kernel
theorem d21_7 : decode method_5_code 7 = .ok (.iload_n 2, 1) := by decide +kernel
theorem d21_8 : decode method_5_code 8 = .ok (.if_icmp .lt 5, 3) := by decide +kernel
theorem d21_11 : decode method_5_code 11 = .ok (.lload_n 3, 1) := by decide +kernel
theorem d21_12 : decode method_5_code 12 = .ok (.lreturn, 1) := by decide +kernel
theorem d21_13 : decode method_5_code 13 = .ok (.aload_n 0, 1) := by decide +kernel
theorem d21_14 : decode method_5_code 14 = .ok (.iload_n 1, 1) := by decide +kernel
theorem d21_15 : decode method_5_code 15 = .ok (.caload, 1) := by decide +kernel
theorem d21_16 : decode method_5_code 16 = .ok (.istore 5, 2) := by decide +kernel
theorem d21_18 : decode method_5_code 18 = .ok (.iload 5, 2) := by decide +kernel
theorem d21_20 : decode method_5_code 20 = .ok (.bipush 48, 2) := by decide +kernel
theorem d21_22 : decode method_5_code 22 = .ok (.if_icmp .lt 10, 3) := by decide +kernel
theorem d21_25 : decode method_5_code 25 = .ok (.iload 5, 2) := by decide +kernel
theorem d21_27 : decode method_5_code 27 = .ok (.bipush 57, 2) := by decide +kernel
theorem d21_29 : decode method_5_code 29 = .ok (.if_icmp .le 7, 3) := by decide +kernel
theorem d21_32 : decode method_5_code 32 = .ok (.ldc2_w 61, 3) := by decide +kernel
theorem d21_35 : decode method_5_code 35 = .ok (.lreturn, 1) := by decide +kernel
theorem d21_36 : decode method_5_code 36 = .ok (.lload_n 3, 1) := by decide +kernel
theorem d21_37 : decode method_5_code 37 = .ok (.ldc2_w 37, 3) := by decide +kernel
theorem d21_40 : decode method_5_code 40 = .ok (.lmul, 1) := by decide +kernel
theorem d21_41 : decode method_5_code 41 = .ok (.iload 5, 2) := by decide +kernel
theorem d21_43 : decode method_5_code 43 = .ok (.bipush 48, 2) := by decide +kernel
theorem d21_45 : decode method_5_code 45 = .ok (.isub, 1) := by decide +kernel
theorem d21_46 : decode method_5_code 46 = .ok (.i2l, 1) := by decide +kernel
theorem d21_47 : decode method_5_code 47 = .ok (.ladd, 1) := by decide +kernel
theorem d21_48 : decode method_5_code 48 = .ok (.lreturn, 1) := by decide +kernel
theorem ef_RIRII_7 (m : MethodId) (x0 : Addr) (x1 : Int32) (x2 : Addr) (x3 : Int32) (x4 : Int32) : entryFrame m #[(.ref x0), (.int x1), (.ref x2), (.int x3), (.int x4)] 7 = mkF m 0 #[.val (.ref x0), .val (.int x1), .val (.ref x2), .val (.int x3), .val (.int x4), .unset, .unset] [] := by first | (simp [entryFrame, mkF, argsToLocals, Value.category]; done) | rfl
theorem ef_RII_6 (m : MethodId) (x0 : Addr) (x1 : Int32) (x2 : Int32) : entryFrame m #[(.ref x0), (.int x1), (.int x2)] 6 = mkF m 0 #[.val (.ref x0), .val (.int x1), .val (.int x2), .unset, .unset, .unset] [] := by first | (simp [entryFrame, mkF, argsToLocals, Value.category]; done) | rfl
theorem ef_RI_2 (m : MethodId) (x0 : Addr) (x1 : Int32) : entryFrame m #[(.ref x0), (.int x1)] 2 = mkF m 0 #[.val (.ref x0), .val (.int x1)] [] := by first | (simp [entryFrame, mkF, argsToLocals, Value.category]; done) | rfl
theorem ef_RRIIN_6 (m : MethodId) (x0 : Addr) (x1 : Addr) (x2 : Int32) (x3 : Int32) : entryFrame m #[(.ref x0), (.ref x1), (.int x2), (.int x3), .null] 6 = mkF m 0 #[.val (.ref x0), .val (.ref x1), .val (.int x2), .val (.int x3), .val .null, .unset] [] := by first | (simp [entryFrame, mkF, argsToLocals, Value.category]; done) | rfl
theorem ef_RR_2 (m : MethodId) (x0 : Addr) (x1 : Addr) : entryFrame m #[(.ref x0), (.ref x1)] 2 = mkF m 0 #[.val (.ref x0), .val (.ref x1)] [] := by first | (simp [entryFrame, mkF, argsToLocals, Value.category]; done) | rfl
theorem ef_IIO_3 (m : MethodId) (x0 : Int32) (x1 : Int32) (x2 : Value) (hx2 : x2.isRef = true) : entryFrame m #[(.int x0), (.int x1), x2] 3 = mkF m 0 #[.val (.int x0), .val (.int x1), .val x2] [] := by rcases ref_cases hx2 with rfl | ⟨_, rfl⟩ <;> first | (simp [entryFrame, mkF, argsToLocals, Value.category]; done) | rfl
theorem ef_II_2 (m : MethodId) (x0 : Int32) (x1 : Int32) : entryFrame m #[(.int x0), (.int x1)] 2 = mkF m 0 #[.val (.int x0), .val (.int x1)] [] := by first | (simp [entryFrame, mkF, argsToLocals, Value.category]; done) | rfl
theorem ef_R_1 (m : MethodId) (x0 : Addr) : entryFrame m #[(.ref x0)] 1 = mkF m 0 #[.val (.ref x0)] [] := by first | (simp [entryFrame, mkF, argsToLocals, Value.category]; done) | rfl
theorem ef_RJ_3 (m : MethodId) (x0 : Addr) (x1 : Int64) : entryFrame m #[(.ref x0), (.long x1)] 3 = mkF m 0 #[.val (.ref x0), .val (.long x1), .second] [] := by first | (simp [entryFrame, mkF, argsToLocals, Value.category]; done) | rfl
theorem ef_J_2 (m : MethodId) (x0 : Int64) : entryFrame m #[(.long x0)] 2 = mkF m 0 #[.val (.long x0), .second] [] := by first | (simp [entryFrame, mkF, argsToLocals, Value.category]; done) | rfl
theorem ef_x_0 (m : MethodId)  : entryFrame m #[] 0 = mkF m 0 #[] [] := by first | (simp [entryFrame, mkF, argsToLocals, Value.category]; done) | rfl
theorem ef_RIJ_4 (m : MethodId) (x0 : Addr) (x1 : Int32) (x2 : Int64) : entryFrame m #[(.ref x0), (.int x1), (.long x2)] 4 = mkF m 0 #[.val (.ref x0), .val (.int x1), .val (.long x2), .second] [] := by first | (simp [entryFrame, mkF, argsToLocals, Value.category]; done) | rfl
theorem ef_RII_11 (m : MethodId) (x0 : Addr) (x1 : Int32) (x2 : Int32) : entryFrame m #[(.ref x0), (.int x1), (.int x2)] 11 = mkF m 0 #[.val (.ref x0), .val (.int x1), .val (.int x2), .unset, .unset, .unset, .unset, .unset, .unset, .unset, .unset] [] := by first | (simp [entryFrame, mkF, argsToLocals, Value.category]; done) | rfl
theorem ef_I_2 (m : MethodId) (x0 : Int32) : entryFrame m #[(.int x0)] 2 = mkF m 0 #[.val (.int x0), .unset] [] := by first | (simp [entryFrame, mkF, argsToLocals, Value.category]; done) | rfl
theorem ef_RIIJ_6 (m : MethodId) (x0 : Addr) (x1 : Int32) (x2 : Int32) (x3 : Int64) : entryFrame m #[(.ref x0), (.int x1), (.int x2), (.long x3)] 6 = mkF m 0 #[.val (.ref x0), .val (.int x1), .val (.int x2), .val (.long x3), .second, .unset] [] := by first | (simp [entryFrame, mkF, argsToLocals, Value.category]; done) | rfl
theorem ef_IIII_16 (m : MethodId) (x0 : Int32) (x1 : Int32) (x2 : Int32) (x3 : Int32) : entryFrame m #[(.int x0), (.int x1), (.int x2), (.int x3)] 16 = mkF m 0 #[.val (.int x0), .val (.int x1), .val (.int x2), .val (.int x3), .unset, .unset, .unset, .unset, .unset, .unset, .unset, .unset, .unset, .unset, .unset, .unset] [] := by first | (simp [entryFrame, mkF, argsToLocals, Value.category]; done) | rfl
theorem ef_IIIIII_16 (m : MethodId) (x0 : Int32) (x1 : Int32) (x2 : Int32) (x3 : Int32) (x4 : Int32) (x5 : Int32) : entryFrame m #[(.int x0), (.int x1), (.int x2), (.int x3), (.int x4), (.int x5)] 16 = mkF m 0 #[.val (.int x0), .val (.int x1), .val (.int x2), .val (.int x3), .val (.int x4), .val (.int x5), .unset, .unset, .unset, .unset, .unset, .unset, .unset, .unset, .unset, .unset] [] := by first | (simp [entryFrame, mkF, argsToLocals, Value.category]; done) | rfl
def Q_cmp5 (Z : State) (n0 : Nat) (b d : Addr) (kb kd : ClassId) (z : Int32) (cs : List Int32) (h0 : Heap) (v : Option Value) (h : Heap) : Prop := v = some (.int z) ∧ Keep h0 h [d] ∧ Arv Z h d kd .byte z (cs.map fun c => Value.int c.toInt8.toInt32) (.int 0)
set_option maxRecDepth 65536 in
set_option maxHeartbeats 40000000 in
theorem ct_cmp5 {l : Launch} {Z : State} {a0 : Array Value} (hw : ∀ d ∈ tables_1, d.before a0 Z = true) (hEL : EW Z a0 EL0) {n0 : Nat} (cds : List Jvm.Cond) (b d : Addr) (kb kd : ClassId) (z : Int32) (cs : List Int32) (h0 : Heap) (hz : z.toInt = cs.length) (hlen : cs.length ≤ 24) (hcs : ∀ c ∈ cs, 0 ≤ c.toInt ∧ c.toInt < 256) (Vb : Arv Z h0 b kb .char z (cs.map Value.int) (.int 0)) (Vd : Arv Z h0 d kd .byte z [] (.int 0)) (n0_d : n0 ≤ d) (hne : b ≠ d) :
    Ct l Z a0 EL0 n0 false true (⟨"java/lang/StringUTF16", "compress", "([CI[BII)I"⟩ : MethodName) jdk_52_method_21_code 7 (Option.some Jvm.ClassFile.FieldType.int) cds ({ frames := 0, cells := 0, slots := 0, locals := 0 } : Room) [d] #[(.ref b), (.int (0 : Int32)), (.ref d), (.int (0 : Int32)), (.int z)] h0 (Q_cmp5 Z n0 b d kb kd z cs h0) := by
  refine Ct.of (plainFor_of_name pn_0) hEL ?_
  intro p e s m below meth c T0 W0 hret hnm hs0
  refine Go.cast (ef_RIRII_7 m b (0 : Int32) d (0 : Int32) z) ?_
  show Go p e below _ T0 (mkF m 0 #[.val (.ref b), .val (.int (0 : Int32)), .val (.ref d), .val (.int (0 : Int32)), .val (.int z), .unset, .unset] [])
  refine s_iconst W0 d11_0 (v := (0 : Int32)) (by decide) (pc' := 1) rfl ?_
  refine s_istore W0 d11_1 (l' := #[.val (.ref b), .val (.int (0 : Int32)), .val (.ref d), .val (.int (0 : Int32)), .val (.int z), .val (.int (0 : Int32)), .unset]) rfl (pc' := 3) rfl ?_
  suffices loop : ∀ (r j : Nat), j + r = cs.length → ∀ (T : State) (h : Heap) (s6 : Slot), One1 s6 → Wk p l e _ s m _ below meth c Z a0 EL0 n0 false true _ _ _ [d] T h 0 0 → Keep h0 h [d] → Arv Z h d kd .byte z ((cs.take j).map fun c => Value.int c.toInt8.toInt32) (.int 0) → Go p e below (Po s Z EL0 n0 true _ _ (Q_cmp5 Z n0 b d kb kd z cs h0)) T (mkF m 3 #[.val (.ref b), .val (.int j.toInt32), .val (.ref d), .val (.int j.toInt32), .val (.int z), .val (.int j.toInt32), s6] []) from
    loop cs.length 0 (Nat.zero_add _) T0 h0 .unset One1.u W0 (Keep.refl _ _) Vd
  intro r
  induction r with
  | zero =>
    intro j hj T1 h1 s6 h6 W1 K1 Vj
    have ej : j.toInt32.toInt = j := n32 (by omega)
    refine s_iload W1 d11_3 rfl (pc' := 5) rfl ?_
    refine s_iload W1 d11_5 rfl (pc' := 7) rfl ?_
    refine s_icmpge W1 d11_7 (by decide) (pc1 := 44) (by decide) (pc2 := 10) rfl ?_ (fun q => absurd q (nlt32 (by omega)))
    intro q7
    refine s_iload W1 d11_44 rfl (pc' := 46) rfl ?_
    exact gRetI W1 hret d11_46 (by decide) (by decide) ⟨rfl, K1, by rw [List.take_of_length_le (by omega)] at Vj; exact Vj⟩
  | succ r ih =>
    intro j hj T1 h1 s6 h6 W1 K1 Vj
    have hjl : j < cs.length := by omega
    have ej : j.toInt32.toInt = j := n32 (by omega)
    have hc := hcs cs[j] (List.getElem_mem hjl)
    have os : storeLocals #[.val (.ref b), .val (.int j.toInt32), .val (.ref d), .val (.int j.toInt32), .val (.int z), .val (.int j.toInt32), s6] 6 (.int cs[j]) = some #[.val (.ref b), .val (.int j.toInt32), .val (.ref d), .val (.int j.toInt32), .val (.int z), .val (.int j.toInt32), .val (.int cs[j])] := by
      rcases h6 with rfl | ⟨w, rfl, hw⟩
      · rfl
      · cases w <;> first | rfl | (simp [Value.category] at hw)
    refine s_iload W1 d11_3 rfl (pc' := 5) rfl ?_
    refine s_iload W1 d11_5 rfl (pc' := 7) rfl ?_
    refine s_icmpge W1 d11_7 (by decide) (pc1 := 44) (by decide) (pc2 := 10) rfl (fun q => absurd q (fun q' => q' (lt32 (by omega)))) ?_
    intro q7
    refine s_aloadN W1 d11_10 rfl rfl (pc' := 11) rfl ?_
    refine s_iloadN W1 d11_11 rfl (pc' := 12) rfl ?_
    have Vb1 := Vb.keep K1 (ninS hne nin0)
    refine gLdC W1 Vb1 ⟨nlt32 (by rw [zero32]; omega), lt32 (by omega)⟩ (v := .int cs[j]) (by rw [n32c (by omega)]; exact getD_map' _ _ _ hjl) d11_12 (pc' := 13) rfl ?_
    refine s_istore W1 d11_13 (l' := #[.val (.ref b), .val (.int j.toInt32), .val (.ref d), .val (.int j.toInt32), .val (.int z), .val (.int j.toInt32), .val (.int cs[j])]) os (pc' := 15) rfl ?_
    refine s_iload W1 d11_15 rfl (pc' := 17) rfl ?_
    refine s_sipush W1 d11_17 (v := (255 : Int32)) (by decide) (pc' := 20) rfl ?_
    refine s_icmple W1 d11_20 (by decide) (pc1 := 26) (by decide) (pc2 := 23) rfl ?_ (fun q => absurd q (nlt32 (by rw [show (255 : Int32).toInt = 255 from by decide]; omega)))
    intro q20
    refine s_aloadN W1 d11_26 rfl rfl (pc' := 27) rfl ?_
    refine s_iloadN W1 d11_27 rfl (pc' := 28) rfl ?_
    refine s_iload W1 d11_28 rfl (pc' := 30) rfl ?_
    refine s_i2b W1 d11_30 (pc' := 31) rfl ?_
    have Vp := Arv.pad Vj (pad_rep _ (.int 0) 1)
    refine gStB W1 n0_d (List.mem_of_getElem? (i := 0) rfl) Vp ⟨nlt32 (by rw [zero32]; omega), lt32 (by omega)⟩ (i := j) (n32c (by omega)) (by simp; omega) d11_31 (pc' := 32) rfl ?_
    intro T2 h2 W2 K2 V2
    refine s_iinc W2 d11_32 (v := (1 : Int32)) (by decide) rfl (l' := #[.val (.ref b), .val (.int (j.toInt32 + (1 : Int32))), .val (.ref d), .val (.int j.toInt32), .val (.int z), .val (.int j.toInt32), .val (.int cs[j])]) rfl (pc' := 35) rfl ?_
    refine s_iinc W2 d11_35 (v := (1 : Int32)) (by decide) rfl (l' := #[.val (.ref b), .val (.int (j.toInt32 + (1 : Int32))), .val (.ref d), .val (.int (j.toInt32 + (1 : Int32))), .val (.int z), .val (.int j.toInt32), .val (.int cs[j])]) rfl (pc' := 38) rfl ?_
    refine s_iinc W2 d11_38 (v := (1 : Int32)) (by decide) rfl (l' := #[.val (.ref b), .val (.int (j.toInt32 + (1 : Int32))), .val (.ref d), .val (.int (j.toInt32 + (1 : Int32))), .val (.int z), .val (.int (j.toInt32 + (1 : Int32))), .val (.int cs[j])]) rfl (pc' := 41) rfl ?_
    refine s_goto W2 d11_41 (by decide) (pc' := 3) (by decide) ?_
    rw [n32s]
    refine ih (j + 1) (by omega) T2 h2 _ (One1.i _) W2 (K1.trans K2 (allS (Or.inl (by simp)) all0)) ?_
    rw [take_succ' _ _ hjl]
    rw [set_last _ _ _ (by simp; omega)] at V2
    have e2 : cs[j].toInt8.toInt32.toInt8.toInt32 = cs[j].toInt8.toInt32 := by simp
    rw [e2] at V2
    exact V2
def Q_cmp3 (Z : State) (n0 : Nat) (b : Addr) (kb : ClassId) (z : Int32) (cs : List Int32) (h0 : Heap) (v : Option Value) (h : Heap) : Prop := ∃ d kd, v = some (.ref d) ∧ Keep h0 h [] ∧ h0.size ≤ d ∧ Arv Z h d kd .byte z (cs.map fun c => Value.int c.toInt8.toInt32) (.int 0)
set_option maxRecDepth 65536 in
set_option maxHeartbeats 40000000 in
theorem ct_cmp3 {l : Launch} {Z : State} {a0 : Array Value} (hw : ∀ d ∈ tables_1, d.before a0 Z = true) (hEL : EW Z a0 EL0) {n0 : Nat} (cds : List Jvm.Cond) (b : Addr) (kb : ClassId) (z : Int32) (cs : List Int32) (h0 : Heap) (hz : z.toInt = cs.length) (hlen : cs.length ≤ 24) (hcs : ∀ c ∈ cs, 0 ≤ c.toInt ∧ c.toInt < 256) (Vb : Arv Z h0 b kb .char z (cs.map Value.int) (.int 0)) :
    Ct l Z a0 EL0 n0 false true (⟨"java/lang/StringUTF16", "compress", "([CII)[B"⟩ : MethodName) jdk_52_method_16_code 6 (Option.some (Jvm.ClassFile.FieldType.array Jvm.ClassFile.FieldType.byte)) cds ({ frames := 1, cells := 1, slots := 24, locals := 18 } : Room) [] #[(.ref b), (.int (0 : Int32)), (.int z)] h0 (Q_cmp3 Z n0 b kb z cs h0) := by
  refine Ct.of (plainFor_of_name pn_0) hEL ?_
  intro p e s m below meth c T0 W0 hret hnm hs0
  refine Go.cast (ef_RII_6 m b (0 : Int32) z) ?_
  show Go p e below _ T0 (mkF m 0 #[.val (.ref b), .val (.int (0 : Int32)), .val (.int z), .unset, .unset, .unset] [])
  have lt_b := natlt Vb.lt
  refine s_iloadN W0 d10_0 rfl (pc' := 1) rfl ?_
  refine gNewP (aty := .byte) W0 (w_8 hw) (ad := "[B") (by decide +kernel) d10_1 (pc' := 3) rfl (nlt32 (by rw [zero32]; omega)) (cap := 24) (by show z.toInt.toNat ≤ _; omega) (by decide) (by decide) (by decide) ?_
  intro T1 h1 b1 g1 W1 E1 ⟨k1, V1, A1⟩
  have z1 : h0.size ≤ h1.size := E1.1
  have lt_b1 := natlt A1.lt
  have gg1 := nateq g1
  have n0_b1 : n0 ≤ b1 := by have := W0.n0le; omega
  have Vp1 : Arv Z h1 b1 k1 .byte z [] (.int (0 : Int32)) := V1
  refine s_astoreN W1 d10_3 rfl (l' := #[.val (.ref b), .val (.int (0 : Int32)), .val (.int z), .val (.ref b1), .unset, .unset]) rfl (pc' := 4) rfl ?_
  refine s_aloadN W1 d10_4 rfl rfl (pc' := 5) rfl ?_
  refine s_iloadN W1 d10_5 rfl (pc' := 6) rfl ?_
  refine s_aloadN W1 d10_6 rfl rfl (pc' := 7) rfl ?_
  refine s_iconst W1 d10_7 (v := (0 : Int32)) (by decide) (pc' := 8) rfl ?_
  refine s_iloadN W1 d10_8 rfl (pc' := 9) rfl ?_
  have fx2 := (Vb.ext E1)
  refine gStatic W1 (w_53 hw) (w_54 hw) (w_51 hw) (w_55 hw) (by decide) pd_0 (ct_cmp5 hw hEL [] b b1 kb k1 z cs h1 hz hlen hcs fx2 Vp1 n0_b1 (ane (by omega))) (by simp) d10_9 (pc' := 12) rfl rfl (argsL := [(.ref b), (.int (0 : Int32)), (.ref b1), (.int (0 : Int32)), (.int z)]) rfl rfl (rest := []) rfl (wt := 0) (Nat.le_of_eq rfl) (by decide) (by decide) (by decide) (by decide) ?_
  rintro v3 T3 h3 W3 z3 ⟨rfl, K, V⟩
  show Go p e below _ T3 (mkF m 12 #[.val (.ref b), .val (.int (0 : Int32)), .val (.int z), .val (.ref b1), .unset, .unset] [(.int z)])
  refine s_istore W3 d10_12 (l' := #[.val (.ref b), .val (.int (0 : Int32)), .val (.int z), .val (.ref b1), .val (.int z), .unset]) rfl (pc' := 14) rfl ?_
  refine s_iload W3 d10_14 rfl (pc' := 16) rfl ?_
  refine s_iloadN W3 d10_16 rfl (pc' := 17) rfl ?_
  refine s_icmpeq W3 d10_17 (by decide) (pc1 := 57) (by decide) (pc2 := 20) rfl ?_ (fun q => (q rfl).elim)
  intro q17
  refine s_aloadN W3 d10_57 rfl rfl (pc' := 58) rfl ?_
  exact gRetA W3 hret rfl rfl d10_58 (by decide) (by decide) ⟨_, _, rfl, (((Keep.refl h0 []).ext E1).trans K (allS (Or.inr (natle (by omega))) all0)), by omega, V⟩
def Q_coder (Z : State) (n0 : Nat) (d : Addr) (kd : ClassId) (z zz : Int32) (vs : List Value) (h0 : Heap) (v : Option Value) (h : Heap) : Prop := v = some (.int (nar .byte (((z - zz).toUInt32 >>> ((31 : Int32) &&& 31).toUInt32).toInt32.toInt8.toInt32))) ∧ h0 = h
set_option maxRecDepth 65536 in
set_option maxHeartbeats 40000000 in
theorem ct_coder {l : Launch} {Z : State} {a0 : Array Value} (hw : ∀ d ∈ tables_1, d.before a0 Z = true) (hEL : EW Z a0 EL0) {n0 : Nat} (cds : List Jvm.Cond) (d : Addr) (kd : ClassId) (z zz : Int32) (vs : List Value) (h0 : Heap) (Vd : Arv Z h0 d kd .byte zz vs (.int 0)) :
    Ct l Z a0 EL0 n0 false true (⟨"java/lang/StringUTF16", "coderFromArrayLen", "([BI)B"⟩ : MethodName) jdk_52_method_15_code 2 (Option.some Jvm.ClassFile.FieldType.byte) cds ({ frames := 0, cells := 0, slots := 0, locals := 0 } : Room) [] #[(.ref d), (.int z)] h0 (Q_coder Z n0 d kd z zz vs h0) := by
  refine Ct.of (plainFor_of_name pn_0) hEL ?_
  intro p e s m below meth c T0 W0 hret hnm hs0
  refine Go.cast (ef_RI_2 m d z) ?_
  show Go p e below _ T0 (mkF m 0 #[.val (.ref d), .val (.int z)] [])
  refine s_iloadN W0 d12_0 rfl (pc' := 1) rfl ?_
  refine s_aloadN W0 d12_1 rfl rfl (pc' := 2) rfl ?_
  refine gLen W0 Vd d12_2 (pc' := 3) rfl ?_
  refine s_isub W0 d12_3 (pc' := 4) rfl ?_
  refine s_bipush W0 d12_4 (v := (31 : Int32)) (by decide) (pc' := 6) rfl ?_
  refine s_iushr W0 d12_6 (pc' := 7) rfl ?_
  refine s_i2b W0 d12_7 (pc' := 8) rfl ?_
  exact gRetN W0 hret (by simp) d12_8 (by decide) (by decide) ⟨rfl, rfl⟩
theorem wS {Z : State} {a0 : Array Value} (hw : ∀ d ∈ tables_1, d.before a0 Z = true) : ∀ a ∈ Bundle.stringAtoms, a.before a0 Z = true := (allC (P := fun a => a.before a0 Z = true) (w_6 hw) (allC (P := fun a => a.before a0 Z = true) (w_7 hw) (allC (P := fun a => a.before a0 Z = true) (w_8 hw) (allC (P := fun a => a.before a0 Z = true) (w_9 hw) (allC (P := fun a => a.before a0 Z = true) (w_10 hw) (allC (P := fun a => a.before a0 Z = true) (w_11 hw) (allC (P := fun a => a.before a0 Z = true) (w_12 hw) allC0)))))))
def Q_str4 (Z : State) (n0 : Nat) (a b : Addr) (kb : ClassId) (z ccs : Int32) (cs : List Int32) (h0 : Heap) (v : Option Value) (h : Heap) : Prop := v = none ∧ Keep h0 h [a] ∧ ∃ d kd, Str Z h a d kd 0 z (cs.map fun c => Value.int c.toInt8.toInt32) ∧ (cs ≠ [] → h0.size ≤ d)
set_option maxRecDepth 65536 in
set_option maxHeartbeats 40000000 in
theorem ct_str4 {l : Launch} {Z : State} {a0 : Array Value} (hw : ∀ d ∈ tables_1, d.before a0 Z = true) (hEL : EW Z a0 EL0) {n0 : Nat} (cds : List Jvm.Cond) (a b : Addr) (kb : ClassId) (z ccs : Int32) (cs : List Int32) (h0 : Heap) (hz : z.toInt = cs.length) (hlen : cs.length ≤ 24) (hcs : ∀ c ∈ cs, 0 ≤ c.toInt ∧ c.toInt < 256) (Vb : Arv Z h0 b kb .char z (cs.map Value.int) (.int 0)) (Ea : Exa Z h0 a "java/lang/String") (Fv : Fld Z h0 a "java/lang/String" "value" "[B" .null) (Fc : Fld Z h0 a "java/lang/String" "coder" "B" (.int 0)) (n0_a : n0 ≤ a) (SCS : Sta Z Z.heap "java/lang/String" "COMPACT_STRINGS" "Z" (.int ccs)) (hccs : ¬ ccs = 0) (hne0 : cs ≠ []) :
    Ct l Z a0 EL0 n0 false true (⟨"java/lang/String", "<init>", "([CIILjava/lang/Void;)V"⟩ : MethodName) jdk_42_method_149_code 6 (Option.none : Option Jvm.ClassFile.FieldType) cds ({ frames := 2, cells := 1, slots := 24, locals := 35 } : Room) [a] #[(.ref a), (.ref b), (.int (0 : Int32)), (.int z), .null] h0 (Q_str4 Z n0 a b kb z ccs cs h0) := by
  refine Ct.of (plainFor_of_name pn_1) hEL ?_
  intro p e s m below meth c T0 W0 hret hnm hs0
  refine Go.cast (ef_RRIIN_6 m a b (0 : Int32) z) ?_
  show Go p e below _ T0 (mkF m 0 #[.val (.ref a), .val (.ref b), .val (.int (0 : Int32)), .val (.int z), .val .null, .unset] [])
  have lt_a := natlt Ea.lt
  have lt_b := natlt Vb.lt
  have hz0 : ¬ z = 0 := fun q => hne0 (List.eq_nil_of_length_eq_zero (by rw [q, zero32] at hz; omega))
  refine s_aloadN W0 d8_0 rfl rfl (pc' := 1) rfl ?_
  refine gInitO W0 (w_46 hw) (w_47 hw) (w_48 hw) d8_1 (pc' := 4) rfl rfl (by decide) (wt := 0) (Nat.le_of_eq rfl) (by decide) ?_
  intro T1 W1
  refine s_iloadN W1 d8_4 rfl (pc' := 5) rfl ?_
  refine s_ifne W1 d8_5 (by decide) (pc1 := 27) (by decide) (pc2 := 8) rfl ?_ (fun q => absurd q hz0)
  intro q5
  refine gGetS W1 (host := "") (Or.inl (w_23 hw)) Via.refl (SCS.ext W1.old.2) d8_27 (pc' := 30) rfl ?_
  intro T2 W2
  refine s_ifeq W2 d8_30 (by decide) (pc1 := 58) (by decide) (pc2 := 33) rfl (fun q => absurd q hccs) ?_
  intro q30
  refine s_aloadN W2 d8_33 rfl rfl (pc' := 34) rfl ?_
  refine s_iloadN W2 d8_34 rfl (pc' := 35) rfl ?_
  refine s_iloadN W2 d8_35 rfl (pc' := 36) rfl ?_
  refine gStatic W2 (w_49 hw) (w_50 hw) (w_51 hw) (w_52 hw) (by decide) pd_1 (ct_cmp3 hw hEL [] b kb z cs h0 hz hlen hcs Vb) (by simp) d8_36 (pc' := 39) rfl rfl (argsL := [(.ref b), (.int (0 : Int32)), (.int z)]) rfl rfl (rest := []) rfl (wt := 0) (Nat.le_of_eq rfl) (by decide) (by decide) (by decide) (by decide) ?_
  rintro v3 T3 h3 W3 z3 ⟨d, kd, rfl, K3, g3, V3⟩
  have lt_d := natlt V3.lt
  show Go p e below _ T3 (mkF m 39 #[.val (.ref a), .val (.ref b), .val (.int (0 : Int32)), .val (.int z), .val .null, .unset] [(.ref d)])
  refine s_astore W3 d8_39 rfl (l' := #[.val (.ref a), .val (.ref b), .val (.int (0 : Int32)), .val (.int z), .val .null, .val (.ref d)]) rfl (pc' := 41) rfl ?_
  refine s_aloadN W3 d8_41 rfl rfl (pc' := 42) rfl ?_
  refine s_aload W3 d8_42 rfl rfl (pc' := 44) rfl ?_
  refine s_iloadN W3 d8_44 rfl (pc' := 45) rfl ?_
  refine gStatic W3 (w_56 hw) (w_57 hw) (w_51 hw) (w_58 hw) (by decide) pd_2 (ct_coder hw hEL [] d kd z z (cs.map fun c => Value.int c.toInt8.toInt32) h3 V3) (by simp) d8_45 (pc' := 48) rfl rfl (argsL := [(.ref d), (.int z)]) rfl rfl (rest := [(.ref a)]) rfl (wt := 1) (Nat.le_of_eq rfl) (by decide) (by decide) (by decide) (by decide) ?_
  rintro v4 T4 h4 W4 z4 ⟨rfl, rfl⟩
  have ec : (nar .byte (((z - z).toUInt32 >>> ((31 : Int32) &&& 31).toUInt32).toInt32.toInt8.toInt32)) = 0 := by rw [Int32.sub_self]; decide
  rw [ec]
  show Go p e below _ T4 (mkF m 48 #[.val (.ref a), .val (.ref b), .val (.int (0 : Int32)), .val (.int z), .val .null, .val (.ref d)] [(.int (0 : Int32)), (.ref a)])
  have fx6 := (Fc.keep K3 nin0)
  have fx7 := (Ea.keep K3)
  refine gPutFN W4 n0_a (Or.inl (List.mem_of_getElem? (i := 0) rfl)) (w_24 hw) Via.refl fx6 fx7 (Or.inr ⟨(w_10 hw), rfl, hnm⟩) (w_7 hw) (ty := .byte) (v' := (.int (0 : Int32))) (by decide) (by decide) (by decide) d8_48 (pc' := 51) rfl ?_
  intro T5 h5 W5 Wr5
  have Fw5 := fx6.same Wr5
  have z5 : h3.size ≤ h5.size := Nat.le_of_eq Wr5.size.symm
  refine s_aloadN W5 d8_51 rfl rfl (pc' := 52) rfl ?_
  refine s_aload W5 d8_52 rfl rfl (pc' := 54) rfl ?_
  have fx9 := ((Fv.keep K3 nin0).other Wr5 (Or.inr (slot_ne (Or.inr (w_9 hw)) (Or.inr (w_10 hw)) (by decide) (t := (.array .byte)) (t' := .byte) (by decide) (by decide))))
  have fx10 := (fx7.wr Wr5)
  refine gPutF W5 n0_a (Or.inl (List.mem_of_getElem? (i := 0) rfl)) (host := "") (Or.inl (w_25 hw)) Via.refl fx9 fx10 (Or.inr ⟨(w_9 hw), rfl, hnm⟩) (w_7 hw) (ty := (.array .byte)) (by decide) rfl rfl d8_54 (pc' := 57) rfl ?_
  intro T8 h8 W8 Wr8
  have Fw8 := fx9.same Wr8
  have z8 : h5.size ≤ h8.size := Nat.le_of_eq Wr8.size.symm
  have fx11 := (fx10.wr Wr8)
  have fx12 := (Fw5.other Wr8 (Or.inr (slot_ne (Or.inr (w_10 hw)) (Or.inr (w_9 hw)) (by decide) (t := .byte) (t' := (.array .byte)) (by decide) (by decide))))
  have fx13 := ((V3.other Wr5 (ane (by omega))).other Wr8 (ane (by omega)))
  exact gRetV W8 hret d8_57 (by decide) (by decide) ⟨rfl, ((((Keep.refl h0 [a]).trans K3 all0).wr Wr5 (Or.inl (by simp))).wr Wr8 (Or.inl (by simp))), d, kd, ⟨fx11, Fw8, fx12, fx13⟩, fun _ => by omega⟩
def Q_str1 (Z : State) (n0 : Nat) (a b : Addr) (kb : ClassId) (z ccs : Int32) (cs : List Int32) (h0 : Heap) (v : Option Value) (h : Heap) : Prop := v = none ∧ Keep h0 h [a] ∧ ∃ d kd, Str Z h a d kd 0 z (cs.map fun c => Value.int c.toInt8.toInt32) ∧ (cs ≠ [] → h0.size ≤ d)
set_option maxRecDepth 65536 in
set_option maxHeartbeats 40000000 in
theorem ct_str1 {l : Launch} {Z : State} {a0 : Array Value} (hw : ∀ d ∈ tables_1, d.before a0 Z = true) (hEL : EW Z a0 EL0) {n0 : Nat} (cds : List Jvm.Cond) (a b : Addr) (kb : ClassId) (z ccs : Int32) (cs : List Int32) (h0 : Heap) (hz : z.toInt = cs.length) (hlen : cs.length ≤ 24) (hcs : ∀ c ∈ cs, 0 ≤ c.toInt ∧ c.toInt < 256) (Vb : Arv Z h0 b kb .char z (cs.map Value.int) (.int 0)) (Ea : Exa Z h0 a "java/lang/String") (Fv : Fld Z h0 a "java/lang/String" "value" "[B" .null) (Fc : Fld Z h0 a "java/lang/String" "coder" "B" (.int 0)) (n0_a : n0 ≤ a) (SCS : Sta Z Z.heap "java/lang/String" "COMPACT_STRINGS" "Z" (.int ccs)) (hccs : ¬ ccs = 0) (hne0 : cs ≠ []) :
    Ct l Z a0 EL0 n0 false true (⟨"java/lang/String", "<init>", "([C)V"⟩ : MethodName) jdk_42_method_3_code 2 (Option.none : Option Jvm.ClassFile.FieldType) cds ({ frames := 3, cells := 1, slots := 24, locals := 52 } : Room) [a] #[(.ref a), (.ref b)] h0 (Q_str1 Z n0 a b kb z ccs cs h0) := by
  refine Ct.of (plainFor_of_name pn_1) hEL ?_
  intro p e s m below meth c T0 W0 hret hnm hs0
  refine Go.cast (ef_RR_2 m a b) ?_
  show Go p e below _ T0 (mkF m 0 #[.val (.ref a), .val (.ref b)] [])
  refine s_aloadN W0 d7_0 rfl rfl (pc' := 1) rfl ?_
  refine s_aloadN W0 d7_1 rfl rfl (pc' := 2) rfl ?_
  refine s_iconst W0 d7_2 (v := (0 : Int32)) (by decide) (pc' := 3) rfl ?_
  refine s_aloadN W0 d7_3 rfl rfl (pc' := 4) rfl ?_
  refine gLen W0 Vb d7_4 (pc' := 5) rfl ?_
  refine s_aconst_null W0 d7_5 (pc' := 6) rfl ?_
  refine gSpecial W0 rfl (w_42 hw) (w_43 hw) (w_6 hw) (w_45 hw) (by decide) pd_3 (ct_str4 hw hEL [] a b kb z ccs cs h0 hz hlen hcs Vb Ea Fv Fc n0_a SCS hccs hne0) (fun x hx => hx) d7_6 (pc' := 9) rfl rfl (argsL := [(.ref b), (.int (0 : Int32)), (.int z), .null]) rfl rfl (rest := []) rfl (wt := 0) (Nat.le_of_eq rfl) (by decide) (by decide) (by decide) (by decide) ?_
  rintro v1 T1 h1 W1 z1 ⟨rfl, K, S⟩
  show Go p e below _ T1 (mkF m 9 #[.val (.ref a), .val (.ref b)] [])
  exact gRetV W1 hret d7_9 (by decide) (by decide) ⟨rfl, K, S⟩
def Q_pci (Z : State) (n0 : Nat) (i z : Int32) (fo : Value) (h0 : Heap) (v : Option Value) (h : Heap) : Prop := v = some (.int i) ∧ h0 = h
set_option maxRecDepth 65536 in
set_option maxHeartbeats 40000000 in
theorem ct_pci {l : Launch} {Z : State} {a0 : Array Value} (hw : ∀ d ∈ tables_1, d.before a0 Z = true) (hEL : EW Z a0 EL0) {n0 : Nat} (cds : List Jvm.Cond) (i z : Int32) (fo : Value) (h0 : Heap) (hi : 0 ≤ i.toInt ∧ i.toInt < z.toInt) (rfo : fo.isRef = true) :
    Ct l Z a0 EL0 n0 false true (⟨"jdk/internal/util/Preconditions", "checkIndex", "(IILjava/util/function/BiFunction;)I"⟩ : MethodName) jdk_41_method_11_code 3 (Option.some Jvm.ClassFile.FieldType.int) cds ({ frames := 0, cells := 0, slots := 0, locals := 0 } : Room) [] #[(.int i), (.int z), fo] h0 (Q_pci Z n0 i z fo h0) := by
  refine Ct.of (plainFor_of_name pn_2) hEL ?_
  intro p e s m below meth c T0 W0 hret hnm hs0
  refine Go.cast (ef_IIO_3 m i z fo rfo) ?_
  show Go p e below _ T0 (mkF m 0 #[.val (.int i), .val (.int z), .val fo] [])
  refine s_iloadN W0 d6_0 rfl (pc' := 1) rfl ?_
  refine s_iflt W0 d6_1 (by decide) (pc1 := 9) (by decide) (pc2 := 4) rfl (fun q => absurd q (nlt32 (by rw [zero32]; omega))) ?_
  intro q1
  refine s_iloadN W0 d6_4 rfl (pc' := 5) rfl ?_
  refine s_iloadN W0 d6_5 rfl (pc' := 6) rfl ?_
  refine s_icmplt W0 d6_6 (by decide) (pc1 := 16) (by decide) (pc2 := 9) rfl ?_ (fun q => absurd q (fun q' => q' (lt32 (by omega))))
  intro q6
  refine s_iloadN W0 d6_16 rfl (pc' := 17) rfl ?_
  exact gRetI W0 hret d6_17 (by decide) (by decide) ⟨rfl, rfl⟩
def Q_sci (Z : State) (n0 : Nat) (i z : Int32) (fo : Value) (h0 : Heap) (v : Option Value) (h : Heap) : Prop := v = none ∧ h0 = h
set_option maxRecDepth 65536 in
set_option maxHeartbeats 40000000 in
theorem ct_sci {l : Launch} {Z : State} {a0 : Array Value} (hw : ∀ d ∈ tables_1, d.before a0 Z = true) (hEL : EW Z a0 EL0) {n0 : Nat} (cds : List Jvm.Cond) (i z : Int32) (fo : Value) (h0 : Heap) (hi : 0 ≤ i.toInt ∧ i.toInt < z.toInt) (SFO : Sta Z Z.heap "jdk/internal/util/Preconditions" "SIOOBE_FORMATTER" "Ljava/util/function/BiFunction;" fo) (rfo : fo.isRef = true) :
    Ct l Z a0 EL0 n0 false true (⟨"java/lang/String", "checkIndex", "(II)V"⟩ : MethodName) jdk_42_method_155_code 2 (Option.none : Option Jvm.ClassFile.FieldType) cds ({ frames := 1, cells := 0, slots := 0, locals := 14 } : Room) [] #[(.int i), (.int z)] h0 (Q_sci Z n0 i z fo h0) := by
  refine Ct.of (plainFor_of_name pn_1) hEL ?_
  intro p e s m below meth c T0 W0 hret hnm hs0
  refine Go.cast (ef_II_2 m i z) ?_
  show Go p e below _ T0 (mkF m 0 #[.val (.int i), .val (.int z)] [])
  refine s_iloadN W0 d5_0 rfl (pc' := 1) rfl ?_
  refine s_iloadN W0 d5_1 rfl (pc' := 2) rfl ?_
  refine gGetS W0 (host := "") (Or.inl (w_33 hw)) Via.refl (SFO.ext W0.old.2) d5_2 (pc' := 5) rfl ?_
  intro T1 W1
  refine gStatic W1 (w_35 hw) (w_36 hw) (w_34 hw) (w_37 hw) (by decide) pd_4 (ct_pci hw hEL [] i z fo h0 hi rfo) (by simp) d5_5 (pc' := 8) rfl rfl (argsL := [(.int i), (.int z), fo]) rfl rfl (rest := []) rfl (wt := 0) (Nat.le_of_eq rfl) (by decide) (by decide) (by decide) (by decide) ?_
  rintro v2 T2 h2 W2 z2 ⟨rfl, rfl⟩
  show Go p e below _ T2 (mkF m 8 #[.val (.int i), .val (.int z)] [(.int i)])
  refine s_pop W2 d5_8 rfl (pc' := 9) rfl ?_
  exact gRetV W2 hret d5_9 (by decide) (by decide) ⟨rfl, rfl⟩
def Q_lch (Z : State) (n0 : Nat) (d : Addr) (kd : ClassId) (i z : Int32) (fo : Value) (cs : List Int32) (j : Nat) (hjl : j < cs.length) (h0 : Heap) (v : Option Value) (h : Heap) : Prop := v = some (.int cs[j]) ∧ h0 = h
set_option maxRecDepth 65536 in
set_option maxHeartbeats 40000000 in
theorem ct_lch {l : Launch} {Z : State} {a0 : Array Value} (hw : ∀ d ∈ tables_1, d.before a0 Z = true) (hEL : EW Z a0 EL0) {n0 : Nat} (cds : List Jvm.Cond) (d : Addr) (kd : ClassId) (i z : Int32) (fo : Value) (cs : List Int32) (j : Nat) (hjl : j < cs.length) (h0 : Heap) (hz : z.toInt = cs.length) (hcs : ∀ c ∈ cs, 0 ≤ c.toInt ∧ c.toInt < 256) (hj : i.toInt = j) (Vd : Arv Z h0 d kd .byte z (cs.map fun c => Value.int c.toInt8.toInt32) (.int 0)) (SFO : Sta Z Z.heap "jdk/internal/util/Preconditions" "SIOOBE_FORMATTER" "Ljava/util/function/BiFunction;" fo) (rfo : fo.isRef = true) :
    Ct l Z a0 EL0 n0 false true (⟨"java/lang/StringLatin1", "charAt", "([BI)C"⟩ : MethodName) jdk_43_method_2_code 2 (Option.some Jvm.ClassFile.FieldType.char) cds ({ frames := 2, cells := 0, slots := 0, locals := 27 } : Room) [] #[(.ref d), (.int i)] h0 (Q_lch Z n0 d kd i z fo cs j hjl h0) := by
  refine Ct.of (plainFor_of_name pn_3) hEL ?_
  intro p e s m below meth c T0 W0 hret hnm hs0
  refine Go.cast (ef_RI_2 m d i) ?_
  show Go p e below _ T0 (mkF m 0 #[.val (.ref d), .val (.int i)] [])
  refine s_iloadN W0 d4_0 rfl (pc' := 1) rfl ?_
  refine s_aloadN W0 d4_1 rfl rfl (pc' := 2) rfl ?_
  refine gLen W0 Vd d4_2 (pc' := 3) rfl ?_
  refine gStatic W0 (w_30 hw) (w_31 hw) (w_6 hw) (w_32 hw) (by decide) pd_5 (ct_sci hw hEL [] i z fo h0 ⟨by omega, by omega⟩ SFO rfo) (by simp) d4_3 (pc' := 6) rfl rfl (argsL := [(.int i), (.int z)]) rfl rfl (rest := []) rfl (wt := 0) (Nat.le_of_eq rfl) (by decide) (by decide) (by decide) (by decide) ?_
  rintro v1 T1 h1 W1 z1 ⟨rfl, rfl⟩
  show Go p e below _ T1 (mkF m 6 #[.val (.ref d), .val (.int i)] [])
  refine s_aloadN W1 d4_6 rfl rfl (pc' := 7) rfl ?_
  refine s_iloadN W1 d4_7 rfl (pc' := 8) rfl ?_
  have bz := z.toInt_lt
  have ei : i.toNatClampNeg = j := by show i.toInt.toNat = j; omega
  refine gLdB W1 Vd ⟨nlt32 (by rw [zero32]; omega), lt32 (by omega)⟩ (v := .int cs[j].toInt8.toInt32) (by rw [ei]; exact getD_map' _ _ _ hjl) d4_8 (pc' := 9) rfl ?_
  refine s_sipush W1 d4_9 (v := (255 : Int32)) (by decide) (pc' := 12) rfl ?_
  refine s_iand W1 d4_12 (pc' := 13) rfl ?_
  refine s_i2c W1 d4_13 (pc' := 14) rfl ?_
  exact gRetN W1 hret (by simp) d4_14 (by decide) (by decide) ⟨by rw [byteChar (hcs _ (List.getElem_mem hjl))], rfl⟩
def Q_isl (Z : State) (n0 : Nat) (a : Addr) (cd ccs : Int32) (h0 : Heap) (v : Option Value) (h : Heap) : Prop := v = some (.int (if cd = 0 then 1 else 0)) ∧ h0 = h
set_option maxRecDepth 65536 in
set_option maxHeartbeats 40000000 in
theorem ct_isl {l : Launch} {Z : State} {a0 : Array Value} (hw : ∀ d ∈ tables_1, d.before a0 Z = true) (hEL : EW Z a0 EL0) {n0 : Nat} (cds : List Jvm.Cond) (a : Addr) (cd ccs : Int32) (h0 : Heap) (Fc : Fld Z h0 a "java/lang/String" "coder" "B" (.int cd)) (SCS : Sta Z Z.heap "java/lang/String" "COMPACT_STRINGS" "Z" (.int ccs)) (hccs : ¬ ccs = 0) :
    Ct l Z a0 EL0 n0 false true (⟨"java/lang/String", "isLatin1", "()Z"⟩ : MethodName) jdk_42_method_154_code 1 (Option.some Jvm.ClassFile.FieldType.boolean) cds ({ frames := 0, cells := 0, slots := 0, locals := 0 } : Room) [] #[(.ref a)] h0 (Q_isl Z n0 a cd ccs h0) := by
  refine Ct.of (plainFor_of_name pn_1) hEL ?_
  intro p e s m below meth c T0 W0 hret hnm hs0
  refine Go.cast (ef_R_1 m a) ?_
  show Go p e below _ T0 (mkF m 0 #[.val (.ref a)] [])
  refine gGetS W0 (host := "") (Or.inl (w_23 hw)) Via.refl (SCS.ext W0.old.2) d3_0 (pc' := 3) rfl ?_
  intro T1 W1
  refine s_ifeq W1 d3_3 (by decide) (pc1 := 17) (by decide) (pc2 := 6) rfl (fun q => absurd q hccs) ?_
  intro q3
  refine s_aloadN W1 d3_6 rfl rfl (pc' := 7) rfl ?_
  refine gGetF W1 (host := "") (Or.inl (w_24 hw)) Via.refl Fc d3_7 (pc' := 10) rfl ?_
  intro T2 W2
  refine s_ifne W2 d3_10 (by decide) (pc1 := 17) (by decide) (pc2 := 13) rfl ?_ ?_
  · intro q10
    refine s_iconst W2 d3_17 (v := (0 : Int32)) (by decide) (pc' := 18) rfl ?_
    exact gRetN W2 hret (by simp) d3_18 (by decide) (by decide) ⟨by rw [if_neg q10]; rfl, rfl⟩
  · intro q10
    refine s_iconst W2 d3_13 (v := (1 : Int32)) (by decide) (pc' := 14) rfl ?_
    refine s_goto W2 d3_14 (by decide) (pc' := 18) (by decide) ?_
    exact gRetN W2 hret (by simp) d3_18 (by decide) (by decide) ⟨by rw [if_pos q10]; rfl, rfl⟩
def Q_cat (Z : State) (n0 : Nat) (a d : Addr) (kd : ClassId) (i z ccs : Int32) (fo : Value) (cs : List Int32) (j : Nat) (hjl : j < cs.length) (h0 : Heap) (v : Option Value) (h : Heap) : Prop := v = some (.int cs[j]) ∧ h0 = h
set_option maxRecDepth 65536 in
set_option maxHeartbeats 40000000 in
theorem ct_cat {l : Launch} {Z : State} {a0 : Array Value} (hw : ∀ d ∈ tables_1, d.before a0 Z = true) (hEL : EW Z a0 EL0) {n0 : Nat} (cds : List Jvm.Cond) (a d : Addr) (kd : ClassId) (i z ccs : Int32) (fo : Value) (cs : List Int32) (j : Nat) (hjl : j < cs.length) (h0 : Heap) (hz : z.toInt = cs.length) (hcs : ∀ c ∈ cs, 0 ≤ c.toInt ∧ c.toInt < 256) (hj : i.toInt = j) (S : Str Z h0 a d kd 0 z (cs.map fun c => Value.int c.toInt8.toInt32)) (SCS : Sta Z Z.heap "java/lang/String" "COMPACT_STRINGS" "Z" (.int ccs)) (hccs : ¬ ccs = 0) (SFO : Sta Z Z.heap "jdk/internal/util/Preconditions" "SIOOBE_FORMATTER" "Ljava/util/function/BiFunction;" fo) (rfo : fo.isRef = true) :
    Ct l Z a0 EL0 n0 false true (⟨"java/lang/String", "charAt", "(I)C"⟩ : MethodName) jdk_42_method_56_code 2 (Option.some Jvm.ClassFile.FieldType.char) cds ({ frames := 3, cells := 0, slots := 0, locals := 40 } : Room) [] #[(.ref a), (.int i)] h0 (Q_cat Z n0 a d kd i z ccs fo cs j hjl h0) := by
  refine Ct.of (plainFor_of_name pn_1) hEL ?_
  intro p e s m below meth c T0 W0 hret hnm hs0
  refine Go.cast (ef_RI_2 m a i) ?_
  show Go p e below _ T0 (mkF m 0 #[.val (.ref a), .val (.int i)] [])
  obtain ⟨Ea, Fv, Fc, Vd⟩ := S
  refine s_aloadN W0 d2_0 rfl rfl (pc' := 1) rfl ?_
  refine gVirtual W0 Ea (w_18 hw) (w_19 hw) (fun s hZ => notFace_of_selects (args := #[]) (mv hZ (w_21 hw))) (w_21 hw) (w_20 hw) (w_6 hw) (w_22 hw) (by decide) pd_6 (ct_isl hw hEL [] a 0 ccs h0 Fc SCS hccs) (by simp) d2_1 (pc' := 4) rfl rfl (argsL := []) rfl rfl (rest := []) rfl (wt := 0) (Nat.le_of_eq rfl) (by decide) (by decide) (by decide) (by decide) ?_
  rintro v1 T1 h1 W1 z1 ⟨rfl, rfl⟩
  show Go p e below _ T1 (mkF m 4 #[.val (.ref a), .val (.int i)] [(.int (if (0 : Int32) = 0 then 1 else 0))])
  refine s_ifeq W1 d2_4 (by decide) (pc1 := 16) (by decide) (pc2 := 7) rfl (fun q => absurd q (by decide)) ?_
  intro q4
  refine s_aloadN W1 d2_7 rfl rfl (pc' := 8) rfl ?_
  refine gGetF W1 (host := "") (Or.inl (w_25 hw)) Via.refl Fv d2_8 (pc' := 11) rfl ?_
  intro T2 W2
  refine s_iloadN W2 d2_11 rfl (pc' := 12) rfl ?_
  refine gStatic W2 (w_26 hw) (w_27 hw) (w_28 hw) (w_29 hw) (by decide) pd_7 (ct_lch hw hEL [] d kd i z fo cs j hjl h0 hz hcs hj Vd SFO rfo) (by simp) d2_12 (pc' := 15) rfl rfl (argsL := [(.ref d), (.int i)]) rfl rfl (rest := []) rfl (wt := 0) (Nat.le_of_eq rfl) (by decide) (by decide) (by decide) (by decide) ?_
  rintro v3 T3 h3 W3 z3 ⟨rfl, rfl⟩
  show Go p e below _ T3 (mkF m 15 #[.val (.ref a), .val (.int i)] [(.int cs[j])])
  exact gRetN W3 hret (by simp) d2_15 (by decide) (by decide) ⟨by rw [nar_char (hcs _ (List.getElem_mem hjl))], rfl⟩
/-- the parser's loop, and the parser, on a list of chars -/
def pl (cs : List Int32) (least : Int64) : Nat → Nat → Int64 → Option Int64
  | 0, _, n => some n
  | r + 1, i, n => if cs.getD i 0 - (48 : Int32) < 0 ∨ (9 : Int32) < cs.getD i 0 - (48 : Int32) ∨ n < (least + (cs.getD i 0 - (48 : Int32)).toInt64) / (10 : Int64) then none else pl cs least r (i + 1) (n * (10 : Int64) - (cs.getD i 0 - (48 : Int32)).toInt64)
def parseN (cs : List Int32) (f t : Nat) (ng : Bool) (dg : Nat) : Option Int64 :=
  if dg = t then none else if cs.getD dg 0 = (48 : Int32) ∧ 1 < t - f then none
  else (pl cs (if ng then (-9223372036854775808 : Int64) else (-9223372036854775807 : Int64)) (t - dg) dg 0).map fun x => if ng then x else -x
def parseF (cs : List Int32) (f t : Nat) : Option Int64 := if f < t ∧ cs.getD f 0 = (45 : Int32) then parseN cs f t true (f + 1) else parseN cs f t false f
def Good (r : Option Int64) (pr : Int32) (ex : Int64) : Prop := match r with
  | none => pr = 0
  | some x => pr = 1 ∧ x = ex
theorem good0 {r : Option Int64} {ex : Int64} (e : r = none) : Good r 0 ex := by subst e; rfl
theorem good1 {r : Option Int64} {ex : Int64} (e : r = some ex) : Good r 1 ex := by subst e; exact ⟨rfl, rfl⟩
def OLg (Z : State) (h : Heap) (o : Addr) (r : Option Int64) : Prop := Exa Z h o "java/util/OptionalLong" ∧ match r with
  | none => Fld Z h o "java/util/OptionalLong" "isPresent" "Z" (.int 0)
  | some x => Fld Z h o "java/util/OptionalLong" "isPresent" "Z" (.int 1) ∧ Fld Z h o "java/util/OptionalLong" "value" "J" (.long x)
theorem getDj {cs : List Int32} {j : Nat} (q : j < cs.length) : cs.getD j 0 = cs[j] := by rw [List.getD_eq_getElem?_getD, List.getElem?_eq_getElem q]; rfl
def Q_oini (Z : State) (n0 : Nat) (a : Addr) (x : Int64) (h0 : Heap) (v : Option Value) (h : Heap) : Prop := v = none ∧ Keep h0 h [a] ∧ Exa Z h a "java/util/OptionalLong" ∧ Fld Z h a "java/util/OptionalLong" "isPresent" "Z" (.int 1) ∧ Fld Z h a "java/util/OptionalLong" "value" "J" (.long x)
set_option maxRecDepth 65536 in
set_option maxHeartbeats 40000000 in
theorem ct_oini {l : Launch} {Z : State} {a0 : Array Value} (hw : ∀ d ∈ tables_1, d.before a0 Z = true) (hEL : EW Z a0 EL0) {n0 : Nat} (cds : List Jvm.Cond) (a : Addr) (x : Int64) (h0 : Heap) (Ea : Exa Z h0 a "java/util/OptionalLong") (Fp : Fld Z h0 a "java/util/OptionalLong" "isPresent" "Z" (.int 0)) (Fv : Fld Z h0 a "java/util/OptionalLong" "value" "J" (.long 0)) (n0_a : n0 ≤ a) :
    Ct l Z a0 EL0 n0 false true (⟨"java/util/OptionalLong", "<init>", "(J)V"⟩ : MethodName) jdk_2650_method_3_code 3 (Option.none : Option Jvm.ClassFile.FieldType) cds ({ frames := 1, cells := 0, slots := 0, locals := 12 } : Room) [a] #[(.ref a), (.long x)] h0 (Q_oini Z n0 a x h0) := by
  refine Ct.of (plainFor_of_name pn_4) hEL ?_
  intro p e s m below meth c T0 W0 hret hnm hs0
  refine Go.cast (ef_RJ_3 m a x) ?_
  show Go p e below _ T0 (mkF m 0 #[.val (.ref a), .val (.long x), .second] [])
  have lt_a := natlt Ea.lt
  refine s_aloadN W0 d19_0 rfl rfl (pc' := 1) rfl ?_
  refine gInitO W0 (w_102 hw) (w_47 hw) (w_48 hw) d19_1 (pc' := 4) rfl rfl (by decide) (wt := 0) (Nat.le_of_eq rfl) (by decide) ?_
  intro T1 W1
  refine s_aloadN W1 d19_4 rfl rfl (pc' := 5) rfl ?_
  refine s_iconst W1 d19_5 (v := (1 : Int32)) (by decide) (pc' := 6) rfl ?_
  refine gPutFN W1 n0_a (Or.inr (Or.inr (Or.inl ⟨_, Ea, by decide, by decide⟩))) (w_76 hw) Via.refl Fp Ea (Or.inr ⟨(w_77 hw), rfl, hnm⟩) (w_97 hw) (ty := .boolean) (v' := (.int (1 : Int32))) (by decide) (by decide) (by decide) d19_6 (pc' := 9) rfl ?_
  intro T2 h2 W2 Wr2
  have Fw2 := Fp.same Wr2
  have z2 : h0.size ≤ h2.size := Nat.le_of_eq Wr2.size.symm
  refine s_aloadN W2 d19_9 rfl rfl (pc' := 10) rfl ?_
  refine s_lloadN W2 d19_10 rfl (pc' := 11) rfl ?_
  have fx4 := (Fv.other Wr2 (Or.inr (slot_ne (Or.inr (w_104 hw)) (Or.inr (w_77 hw)) (by decide) (t := .long) (t' := .boolean) (by decide) (by decide))))
  have fx5 := (Ea.wr Wr2)
  refine gPutF W2 n0_a (Or.inr (Or.inr (Or.inl ⟨_, fx5, by decide, by decide⟩))) (host := "") (Or.inl (w_103 hw)) Via.refl fx4 fx5 (Or.inr ⟨(w_104 hw), rfl, hnm⟩) (w_97 hw) (ty := .long) (by decide) rfl rfl d19_11 (pc' := 14) rfl ?_
  intro T3 h3 W3 Wr3
  have Fw3 := fx4.same Wr3
  have z3 : h2.size ≤ h3.size := Nat.le_of_eq Wr3.size.symm
  have fx6 := (fx5.wr Wr3)
  have fx7 := (Fw2.other Wr3 (Or.inr (slot_ne (Or.inr (w_77 hw)) (Or.inr (w_104 hw)) (by decide) (t := .boolean) (t' := .long) (by decide) (by decide))))
  exact gRetV W3 hret d19_14 (by decide) (by decide) ⟨rfl, (((Keep.refl h0 [a]).wr Wr2 (Or.inl (by simp))).wr Wr3 (Or.inl (by simp))), fx6, fx7, Fw3⟩
def Q_oof (Z : State) (n0 : Nat) (x : Int64) (h0 : Heap) (v : Option Value) (h : Heap) : Prop := ∃ o, v = some (.ref o) ∧ Keep h0 h [] ∧ OLg Z h o (some x)
set_option maxRecDepth 65536 in
set_option maxHeartbeats 40000000 in
theorem ct_oof {l : Launch} {Z : State} {a0 : Array Value} (hw : ∀ d ∈ tables_1, d.before a0 Z = true) (hEL : EW Z a0 EL0) {n0 : Nat} (cds : List Jvm.Cond) (x : Int64) (h0 : Heap)  :
    Ct l Z a0 EL0 n0 false true (⟨"java/util/OptionalLong", "of", "(J)Ljava/util/OptionalLong;"⟩ : MethodName) jdk_2650_method_4_code 2 (Option.some (Jvm.ClassFile.FieldType.object "java/util/OptionalLong")) cds ({ frames := 2, cells := 1, slots := 2, locals := 27 } : Room) [] #[(.long x)] h0 (Q_oof Z n0 x h0) := by
  refine Ct.of (plainFor_of_name pn_4) hEL ?_
  intro p e s m below meth c T0 W0 hret hnm hs0
  refine Go.cast (ef_J_2 m x) ?_
  show Go p e below _ T0 (mkF m 0 #[.val (.long x), .second] [])
  refine gNew W0 (w_96 hw) (w_97 hw) (w_65 hw) d18_0 (pc' := 3) rfl (by decide) (by decide) ?_
  intro T1 h1 b1 g1 W1 E1 ⟨A1, D1, U1⟩
  have z1 : h0.size ≤ h1.size := E1.1
  have lt_b1 := natlt A1.lt
  have gg1 := nateq g1
  have n0_b1 : n0 ≤ b1 := by have := W0.n0le; omega
  have F1_isPresent : Fld Z h1 b1 "java/util/OptionalLong" "isPresent" "Z" (.int (0 : Int32)) := D1 (Or.inr (w_77 hw)) (ty := .boolean) (by decide)
  have F1_value : Fld Z h1 b1 "java/util/OptionalLong" "value" "J" (.long (0 : Int64)) := D1 (Or.inr (w_104 hw)) (ty := .long) (by decide)
  refine s_dup W1 d18_3 rfl (pc' := 4) rfl ?_
  refine s_lloadN W1 d18_4 rfl (pc' := 5) rfl ?_
  refine gSpecial W1 rfl (w_98 hw) (w_99 hw) (w_65 hw) (w_101 hw) (by decide) pd_8 (ct_oini hw hEL [] b1 x h1 A1 F1_isPresent F1_value n0_b1) (fun x hx => hx) d18_5 (pc' := 8) rfl rfl (argsL := [(.long x)]) rfl rfl (rest := [(.ref b1)]) rfl (wt := 1) (Nat.le_of_eq rfl) (by decide) (by decide) (by decide) (by decide) ?_
  rintro v2 T2 h2 W2 z2 ⟨rfl, K, E, F1, F2⟩
  show Go p e below _ T2 (mkF m 8 #[.val (.long x), .second] [(.ref b1)])
  exact gRetA W2 hret rfl rfl d18_8 (by decide) (by decide) ⟨_, rfl, (((Keep.refl h0 []).ext E1).trans K (allS (Or.inr (natle (by omega))) all0)), E, F1, F2⟩
def Q_oem (Z : State) (n0 : Nat) (eo : Addr) (h0 : Heap) (v : Option Value) (h : Heap) : Prop := v = some (.ref eo) ∧ h0 = h
set_option maxRecDepth 65536 in
set_option maxHeartbeats 40000000 in
theorem ct_oem {l : Launch} {Z : State} {a0 : Array Value} (hw : ∀ d ∈ tables_1, d.before a0 Z = true) (hEL : EW Z a0 EL0) {n0 : Nat} (cds : List Jvm.Cond) (eo : Addr) (h0 : Heap) (SEM : Sta Z Z.heap "java/util/OptionalLong" "EMPTY" "Ljava/util/OptionalLong;" (.ref eo)) :
    Ct l Z a0 EL0 n0 false true (⟨"java/util/OptionalLong", "empty", "()Ljava/util/OptionalLong;"⟩ : MethodName) jdk_2650_method_2_code 0 (Option.some (Jvm.ClassFile.FieldType.object "java/util/OptionalLong")) cds ({ frames := 0, cells := 0, slots := 0, locals := 0 } : Room) [] #[] h0 (Q_oem Z n0 eo h0) := by
  refine Ct.of (plainFor_of_name pn_4) hEL ?_
  intro p e s m below meth c T0 W0 hret hnm hs0
  refine Go.cast (ef_x_0 m ) ?_
  show Go p e below _ T0 (mkF m 0 #[] [])
  refine gGetS W0 (host := "") (Or.inl (w_67 hw)) Via.refl (SEM.ext W0.old.2) d14_0 (pc' := 3) rfl ?_
  intro T1 W1
  exact gRetA W1 hret rfl rfl d14_3 (by decide) (by decide) ⟨rfl, rfl⟩
def Q_ois (Z : State) (n0 : Nat) (a : Addr) (x : Int32) (h0 : Heap) (v : Option Value) (h : Heap) : Prop := v = some (.int x) ∧ h0 = h
set_option maxRecDepth 65536 in
set_option maxHeartbeats 40000000 in
theorem ct_ois {l : Launch} {Z : State} {a0 : Array Value} (hw : ∀ d ∈ tables_1, d.before a0 Z = true) (hEL : EW Z a0 EL0) {n0 : Nat} (cds : List Jvm.Cond) (a : Addr) (x : Int32) (h0 : Heap) (Fp : Fld Z h0 a "java/util/OptionalLong" "isPresent" "Z" (.int x)) (hx : nar .boolean x = x) :
    Ct l Z a0 EL0 n0 false true (⟨"java/util/OptionalLong", "isPresent", "()Z"⟩ : MethodName) jdk_2650_method_6_code 1 (Option.some Jvm.ClassFile.FieldType.boolean) cds ({ frames := 0, cells := 0, slots := 0, locals := 0 } : Room) [] #[(.ref a)] h0 (Q_ois Z n0 a x h0) := by
  refine Ct.of (plainFor_of_name pn_4) hEL ?_
  intro p e s m below meth c T0 W0 hret hnm hs0
  refine Go.cast (ef_R_1 m a) ?_
  show Go p e below _ T0 (mkF m 0 #[.val (.ref a)] [])
  refine s_aloadN W0 d16_0 rfl rfl (pc' := 1) rfl ?_
  refine gGetF W0 (host := "") (Or.inl (w_76 hw)) Via.refl Fp d16_1 (pc' := 4) rfl ?_
  intro T1 W1
  exact gRetN W1 hret (by simp) d16_4 (by decide) (by decide) ⟨by rw [hx], rfl⟩
def Q_ogl (Z : State) (n0 : Nat) (a : Addr) (x : Int64) (h0 : Heap) (v : Option Value) (h : Heap) : Prop := v = some (.long x) ∧ h0 = h
set_option maxRecDepth 65536 in
set_option maxHeartbeats 40000000 in
theorem ct_ogl {l : Launch} {Z : State} {a0 : Array Value} (hw : ∀ d ∈ tables_1, d.before a0 Z = true) (hEL : EW Z a0 EL0) {n0 : Nat} (cds : List Jvm.Cond) (a : Addr) (x : Int64) (h0 : Heap) (Fp : Fld Z h0 a "java/util/OptionalLong" "isPresent" "Z" (.int 1)) (Fv : Fld Z h0 a "java/util/OptionalLong" "value" "J" (.long x)) :
    Ct l Z a0 EL0 n0 false true (⟨"java/util/OptionalLong", "getAsLong", "()J"⟩ : MethodName) jdk_2650_method_5_code 1 (Option.some Jvm.ClassFile.FieldType.long) cds ({ frames := 0, cells := 0, slots := 0, locals := 0 } : Room) [] #[(.ref a)] h0 (Q_ogl Z n0 a x h0) := by
  refine Ct.of (plainFor_of_name pn_4) hEL ?_
  intro p e s m below meth c T0 W0 hret hnm hs0
  refine Go.cast (ef_R_1 m a) ?_
  show Go p e below _ T0 (mkF m 0 #[.val (.ref a)] [])
  refine s_aloadN W0 d20_0 rfl rfl (pc' := 1) rfl ?_
  refine gGetF W0 (host := "") (Or.inl (w_76 hw)) Via.refl Fp d20_1 (pc' := 4) rfl ?_
  intro T1 W1
  refine s_ifne W1 d20_4 (by decide) (pc1 := 17) (by decide) (pc2 := 7) rfl ?_ (fun q => absurd q (by decide))
  intro q4
  refine s_aloadN W1 d20_17 rfl rfl (pc' := 18) rfl ?_
  refine gGetF W1 (host := "") (Or.inl (w_103 hw)) Via.refl Fv d20_18 (pc' := 21) rfl ?_
  intro T2 W2
  exact gRetJ W2 hret d20_21 (by decide) (by decide) ⟨rfl, rfl⟩
def Q_sam (Z : State) (n0 : Nat) (o : Addr) (pr : Int32) (ex : Int64) (r : Option Int64) (h0 : Heap) (v : Option Value) (h : Heap) : Prop := v = some (.int 1) ∧ h0 = h
set_option maxRecDepth 65536 in
set_option maxHeartbeats 40000000 in
theorem ct_sam {l : Launch} {Z : State} {a0 : Array Value} (hw : ∀ d ∈ tables_1, d.before a0 Z = true) (hEL : EW Z a0 EL0) {n0 : Nat} (cds : List Jvm.Cond) (o : Addr) (pr : Int32) (ex : Int64) (r : Option Int64) (h0 : Heap) (G : OLg Z h0 o r) (good : Good r pr ex) :
    Ct l Z a0 EL0 n0 false true (⟨"com/example/lazuline/lazuline/PlainDecimalParsePinLaw", "same", "(Ljava/util/OptionalLong;ZJ)Z"⟩ : MethodName) method_4_code 4 (Option.some Jvm.ClassFile.FieldType.boolean) cds ({ frames := 1, cells := 0, slots := 0, locals := 12 } : Room) [] #[(.ref o), (.int pr), (.long ex)] h0 (Q_sam Z n0 o pr ex r h0) := by
  refine Ct.of (plainFor_of_name pn_5) hEL ?_
  intro p e s m below meth c T0 W0 hret hnm hs0
  refine Go.cast (ef_RIJ_4 m o pr ex) ?_
  show Go p e below _ T0 (mkF m 0 #[.val (.ref o), .val (.int pr), .val (.long ex), .second] [])
  cases r with
  | none =>
    obtain ⟨Eo, Fp⟩ := G
    obtain rfl : pr = 0 := good
    have Fp : Fld Z h0 o "java/util/OptionalLong" "isPresent" "Z" (.int 0) := Fp
    show Go p e below _ T0 (mkF m 0 #[.val (.ref o), .val (.int (0 : Int32)), .val (.long ex), .second] [])
    refine s_aloadN W0 d15_0 rfl rfl (pc' := 1) rfl ?_
    refine gVirtual W0 Eo (w_71 hw) (w_72 hw) (fun s hZ => notFace_of_selects (args := #[]) (mv hZ (w_74 hw))) (w_74 hw) (w_73 hw) (w_65 hw) (w_75 hw) (by decide) pd_6 (ct_ois hw hEL [] o 0 h0 Fp (by decide)) (by simp) d15_1 (pc' := 4) rfl rfl (argsL := []) rfl rfl (rest := []) rfl (wt := 0) (Nat.le_of_eq rfl) (by decide) (by decide) (by decide) (by decide) ?_
    rintro v1 T1 h1 W1 z1 ⟨rfl, rfl⟩
    show Go p e below _ T1 (mkF m 4 #[.val (.ref o), .val (.int (0 : Int32)), .val (.long ex), .second] [(.int (0 : Int32))])
    refine s_iloadN W1 d15_4 rfl (pc' := 5) rfl ?_
    refine s_icmpeq W1 d15_5 (by decide) (pc1 := 10) (by decide) (pc2 := 8) rfl ?_ (fun q => absurd q (by decide))
    intro q5
    refine s_iloadN W1 d15_10 rfl (pc' := 11) rfl ?_
    refine s_ifeq W1 d15_11 (by decide) (pc1 := 23) (by decide) (pc2 := 14) rfl ?_ (fun q => absurd q (by decide))
    intro q11
    refine s_iconst W1 d15_23 (v := (1 : Int32)) (by decide) (pc' := 24) rfl ?_
    refine s_goto W1 d15_24 (by decide) (pc' := 28) (by decide) ?_
    exact gRetN W1 hret (by simp) d15_28 (by decide) (by decide) ⟨rfl, rfl⟩
  | some x =>
    obtain ⟨Eo, Fp, Fv⟩ := G
    obtain ⟨rfl, rfl⟩ : pr = 1 ∧ x = ex := good
    show Go p e below _ T0 (mkF m 0 #[.val (.ref o), .val (.int (1 : Int32)), .val (.long x), .second] [])
    refine s_aloadN W0 d15_0 rfl rfl (pc' := 1) rfl ?_
    refine gVirtual W0 Eo (w_71 hw) (w_72 hw) (fun s hZ => notFace_of_selects (args := #[]) (mv hZ (w_74 hw))) (w_74 hw) (w_73 hw) (w_65 hw) (w_75 hw) (by decide) pd_6 (ct_ois hw hEL [] o 1 h0 Fp (by decide)) (by simp) d15_1 (pc' := 4) rfl rfl (argsL := []) rfl rfl (rest := []) rfl (wt := 0) (Nat.le_of_eq rfl) (by decide) (by decide) (by decide) (by decide) ?_
    rintro v2 T2 h2 W2 z2 ⟨rfl, rfl⟩
    show Go p e below _ T2 (mkF m 4 #[.val (.ref o), .val (.int (1 : Int32)), .val (.long x), .second] [(.int (1 : Int32))])
    refine s_iloadN W2 d15_4 rfl (pc' := 5) rfl ?_
    refine s_icmpeq W2 d15_5 (by decide) (pc1 := 10) (by decide) (pc2 := 8) rfl ?_ (fun q => absurd q (by decide))
    intro q5
    refine s_iloadN W2 d15_10 rfl (pc' := 11) rfl ?_
    refine s_ifeq W2 d15_11 (by decide) (pc1 := 23) (by decide) (pc2 := 14) rfl (fun q => absurd q (by decide)) ?_
    intro q11
    refine s_aloadN W2 d15_14 rfl rfl (pc' := 15) rfl ?_
    refine gVirtual W2 Eo (w_105 hw) (w_106 hw) (fun s hZ => notFace_of_selects (args := #[]) (mv hZ (w_108 hw))) (w_108 hw) (w_107 hw) (w_65 hw) (w_109 hw) (by decide) pd_9 (ct_ogl hw hEL [] o x h0 Fp Fv) (by simp) d15_15 (pc' := 18) rfl rfl (argsL := []) rfl rfl (rest := []) rfl (wt := 0) (Nat.le_of_eq rfl) (by decide) (by decide) (by decide) (by decide) ?_
    rintro v3 T3 h3 W3 z3 ⟨rfl, rfl⟩
    show Go p e below _ T3 (mkF m 18 #[.val (.ref o), .val (.int (1 : Int32)), .val (.long x), .second] [(.long x)])
    refine s_lloadN W3 d15_18 rfl (pc' := 19) rfl ?_
    refine s_lcmp W3 d15_19 (pc' := 20) rfl ?_
    refine s_ifne W3 d15_20 (by decide) (pc1 := 27) (by decide) (pc2 := 23) rfl (fun q => absurd q (fun q' => q' ((lw_eq _ _).mpr rfl))) ?_
    intro q20
    refine s_iconst W3 d15_23 (v := (1 : Int32)) (by decide) (pc' := 24) rfl ?_
    refine s_goto W3 d15_24 (by decide) (pc' := 28) (by decide) ?_
    exact gRetN W3 hret (by simp) d15_28 (by decide) (by decide) ⟨rfl, rfl⟩
def Q_parse (Z : State) (n0 : Nat) (a d : Addr) (kd : ClassId) (fi ti z ccs : Int32) (fo : Value) (cs : List Int32) (f t : Nat) (eo : Addr) (h0 : Heap) (v : Option Value) (h : Heap) : Prop := ∃ o, v = some (.ref o) ∧ Keep h0 h [] ∧ OLg Z h o (parseF cs f t)
set_option maxRecDepth 65536 in
set_option maxHeartbeats 40000000 in
theorem ct_parse {l : Launch} {Z : State} {a0 : Array Value} (hw : ∀ d ∈ tables_1, d.before a0 Z = true) (hEL : EW Z a0 EL0) {n0 : Nat} (cds : List Jvm.Cond) (a d : Addr) (kd : ClassId) (fi ti z ccs : Int32) (fo : Value) (cs : List Int32) (f t : Nat) (eo : Addr) (h0 : Heap) (hz : z.toInt = cs.length) (hcs : ∀ c ∈ cs, 0 ≤ c.toInt ∧ c.toInt < 256) (S : Str Z h0 a d kd 0 z (cs.map fun c => Value.int c.toInt8.toInt32)) (hf : fi.toInt = f) (ht : ti.toInt = t) (hft : f ≤ t) (htl : t ≤ cs.length) (hcl : cs.length ≤ 24) (SCS : Sta Z Z.heap "java/lang/String" "COMPACT_STRINGS" "Z" (.int ccs)) (hccs : ¬ ccs = 0) (SFO : Sta Z Z.heap "jdk/internal/util/Preconditions" "SIOOBE_FORMATTER" "Ljava/util/function/BiFunction;" fo) (rfo : fo.isRef = true) (SEM : Sta Z Z.heap "java/util/OptionalLong" "EMPTY" "Ljava/util/OptionalLong;" (.ref eo)) (GEM : OLg Z Z.heap eo none) :
    Ct l Z a0 EL0 n0 false true (⟨"com/example/lazuline/lazuline/PlainDecimal", "parse", "(Ljava/lang/CharSequence;II)Ljava/util/OptionalLong;"⟩ : MethodName) prog_27_method_3_code 11 (Option.some (Jvm.ClassFile.FieldType.object "java/util/OptionalLong")) cds ({ frames := 4, cells := 1, slots := 2, locals := 53 } : Room) [] #[(.ref a), (.int fi), (.int ti)] h0 (Q_parse Z n0 a d kd fi ti z ccs fo cs f t eo h0) := by
  refine Ct.of (plainFor_of_name pn_6) hEL ?_
  intro p e s m below meth c T0 W0 hret hnm hs0
  refine Go.cast (ef_RII_11 m a fi ti) ?_
  show Go p e below _ T0 (mkF m 0 #[.val (.ref a), .val (.int fi), .val (.int ti), .unset, .unset, .unset, .unset, .unset, .unset, .unset, .unset] [])
  have loop : ∀ (r : Nat) (ng dg : Int32) (least : Int64), ∀ (i : Nat) (nu : Int64) (s10 : Slot) (T : State), i + r = t → One1 s10 → Wk p l e ({ frames := 4, cells := 1, slots := 2, locals := 53 } : Room) s m #[(.ref a), (.int fi), (.int ti)] below meth c Z a0 EL0 n0 false true "com/example/lazuline/lazuline/PlainDecimal" prog_27_method_3_code 11 [] T h0 0 0 → parseF cs f t = (pl cs least r i nu).map (fun x => if ng = 0 then -x else x) → Go p e below (Po s Z EL0 n0 true ({ frames := 4, cells := 1, slots := 2, locals := 53 } : Room).cells ({ frames := 4, cells := 1, slots := 2, locals := 53 } : Room).slots (Q_parse Z n0 a d kd fi ti z ccs fo cs f t eo h0)) T (mkF m 88 #[.val (.ref a), .val (.int fi), .val (.int ti), .val (.int ng), .val (.int dg), .val (.long least), .second, .val (.long nu), .second, .val (.int i.toInt32), s10] []) := by
    intro r
    induction r with
    | zero =>
      intro ng dg least i nu s10 T1 hi h10 W1 hres
      have ei : i.toInt32.toInt = i := n32 (by omega)
      refine s_iload W1 d13_88 rfl (pc' := 90) rfl ?_
      refine s_iloadN W1 d13_90 rfl (pc' := 91) rfl ?_
      refine s_icmpge W1 d13_91 (by decide) (pc1 := 157) (by decide) (pc2 := 94) rfl ?_ (fun q => absurd q (nlt32 (by omega)))
      intro q91
      refine s_iloadN W1 d13_157 rfl (pc' := 158) rfl ?_
      refine s_ifeq W1 d13_158 (by decide) (pc1 := 166) (by decide) (pc2 := 161) rfl ?_ ?_
      · intro q158
        refine s_lload W1 d13_166 rfl (pc' := 168) rfl ?_
        refine s_lneg W1 d13_168 (pc' := 169) rfl ?_
        refine gStatic W1 (w_93 hw) (w_94 hw) (w_65 hw) (w_95 hw) (by decide) pd_10 (ct_oof hw hEL [] (-nu) h0) (by simp) d13_169 (pc' := 172) rfl rfl (argsL := [(.long (-nu))]) rfl rfl (rest := []) rfl (wt := 0) (Nat.le_of_eq rfl) (by decide) (by decide) (by decide) (by decide) ?_
        rintro v21 T21 h21 W21 z21 ⟨o, rfl, K, G⟩
        show Go p e below _ T21 (mkF m 172 #[.val (.ref a), .val (.int fi), .val (.int ti), .val (.int ng), .val (.int dg), .val (.long least), .second, .val (.long nu), .second, .val (.int i.toInt32), s10] [(.ref o)])
        exact gRetA W21 hret rfl rfl d13_172 (by decide) (by decide) ⟨_, rfl, K, by rw [hres]; show OLg _ _ _ (some (if ng = 0 then -nu else nu)); rw [if_pos q158]; exact G⟩
      · intro q158
        refine s_lload W1 d13_161 rfl (pc' := 163) rfl ?_
        refine s_goto W1 d13_163 (by decide) (pc' := 169) (by decide) ?_
        refine gStatic W1 (w_93 hw) (w_94 hw) (w_65 hw) (w_95 hw) (by decide) pd_10 (ct_oof hw hEL [] nu h0) (by simp) d13_169 (pc' := 172) rfl rfl (argsL := [(.long nu)]) rfl rfl (rest := []) rfl (wt := 0) (Nat.le_of_eq rfl) (by decide) (by decide) (by decide) (by decide) ?_
        rintro v22 T22 h22 W22 z22 ⟨o, rfl, K, G⟩
        show Go p e below _ T22 (mkF m 172 #[.val (.ref a), .val (.int fi), .val (.int ti), .val (.int ng), .val (.int dg), .val (.long least), .second, .val (.long nu), .second, .val (.int i.toInt32), s10] [(.ref o)])
        exact gRetA W22 hret rfl rfl d13_172 (by decide) (by decide) ⟨_, rfl, K, by rw [hres]; show OLg _ _ _ (some (if ng = 0 then -nu else nu)); rw [if_neg q158]; exact G⟩
    | succ r ih =>
      intro ng dg least i nu s10 T1 hi h10 W1 hres
      have ei : i.toInt32.toInt = i := n32 (by omega)
      have il : i < cs.length := by omega
      have gd := getDj il
      have os : ∀ x : Int32, storeLocals #[.val (.ref a), .val (.int fi), .val (.int ti), .val (.int ng), .val (.int dg), .val (.long least), .second, .val (.long nu), .second, .val (.int i.toInt32), s10] 10 (.int x) = some #[.val (.ref a), .val (.int fi), .val (.int ti), .val (.int ng), .val (.int dg), .val (.long least), .second, .val (.long nu), .second, .val (.int i.toInt32), .val (.int x)] := by
        intro x
        rcases h10 with rfl | ⟨w, rfl, hw⟩
        · rfl
        · cases w <;> first | rfl | (simp [Value.category] at hw)
      refine s_iload W1 d13_88 rfl (pc' := 90) rfl ?_
      refine s_iloadN W1 d13_90 rfl (pc' := 91) rfl ?_
      refine s_icmpge W1 d13_91 (by decide) (pc1 := 157) (by decide) (pc2 := 94) rfl (fun q => absurd q (fun q' => q' (lt32 (by omega)))) ?_
      intro q91
      refine s_aloadN W1 d13_94 rfl rfl (pc' := 95) rfl ?_
      refine s_iload W1 d13_95 rfl (pc' := 97) rfl ?_
      refine gFace W1 S.1 (w_84 hw) (w_85 hw) (fun args s hZ => mv hZ (w_86 hw)) (w_87 hw) (w_15 hw) (w_88 hw) (w_89 hw) (w_90 hw) (w_6 hw) (w_17 hw) (by decide) pd_11 (ct_cat hw hEL [] a d kd i.toInt32 z ccs fo cs i il h0 hz hcs ei S SCS hccs SFO rfo) (by simp) d13_97 (pc' := 102) rfl rfl (argsL := [(.int i.toInt32)]) rfl rfl (rest := []) rfl (wt := 0) (Nat.le_of_eq rfl) (by decide) (by decide) (by decide) (by decide) ?_
      rintro v21 T21 h21 W21 z21 ⟨rfl, rfl⟩
      rw [← gd]
      show Go p e below _ T21 (mkF m 102 #[.val (.ref a), .val (.int fi), .val (.int ti), .val (.int ng), .val (.int dg), .val (.long least), .second, .val (.long nu), .second, .val (.int i.toInt32), s10] [(.int (cs.getD i 0))])
      refine s_bipush W21 d13_102 (v := (48 : Int32)) (by decide) (pc' := 104) rfl ?_
      refine s_isub W21 d13_104 (pc' := 105) rfl ?_
      refine s_istore W21 d13_105 (l' := #[.val (.ref a), .val (.int fi), .val (.int ti), .val (.int ng), .val (.int dg), .val (.long least), .second, .val (.long nu), .second, .val (.int i.toInt32), .val (.int ((cs.getD i 0) - (48 : Int32)))]) (os _) (pc' := 107) rfl ?_
      refine s_iload W21 d13_107 rfl (pc' := 109) rfl ?_
      refine s_iflt W21 d13_109 (by decide) (pc1 := 135) (by decide) (pc2 := 112) rfl ?_ ?_
      · intro q109
        have hn : parseF cs f t = none := by rw [hres]; show Option.map _ (if _ then none else _) = _; rw [if_pos (Or.inl q109)]; rfl
        refine gStatic W21 (w_63 hw) (w_64 hw) (w_65 hw) (w_66 hw) (by decide) pd_12 (ct_oem hw hEL [] eo h0 SEM) (by simp) d13_135 (pc' := 138) rfl rfl (argsL := []) rfl rfl (rest := []) rfl (wt := 0) (Nat.le_of_eq rfl) (by decide) (by decide) (by decide) (by decide) ?_
        rintro v22 T22 h22 W22 z22 ⟨rfl, rfl⟩
        show Go p e below _ T22 (mkF m 138 #[.val (.ref a), .val (.int fi), .val (.int ti), .val (.int ng), .val (.int dg), .val (.long least), .second, .val (.long nu), .second, .val (.int i.toInt32), .val (.int ((cs.getD i 0) - (48 : Int32)))] [(.ref eo)])
        exact gRetA W22 hret rfl rfl d13_138 (by decide) (by decide) ⟨_, rfl, Keep.refl _ _, by rw [hn]; exact ⟨GEM.1.ext W22.old.2, GEM.2.ext W22.old.2⟩⟩
      · intro q109
        refine s_iload W21 d13_112 rfl (pc' := 114) rfl ?_
        refine s_bipush W21 d13_114 (v := (9 : Int32)) (by decide) (pc' := 116) rfl ?_
        refine s_icmpgt W21 d13_116 (by decide) (pc1 := 135) (by decide) (pc2 := 119) rfl ?_ ?_
        · intro q116
          have hn : parseF cs f t = none := by rw [hres]; show Option.map _ (if _ then none else _) = _; rw [if_pos (Or.inr (Or.inl q116))]; rfl
          refine gStatic W21 (w_63 hw) (w_64 hw) (w_65 hw) (w_66 hw) (by decide) pd_12 (ct_oem hw hEL [] eo h0 SEM) (by simp) d13_135 (pc' := 138) rfl rfl (argsL := []) rfl rfl (rest := []) rfl (wt := 0) (Nat.le_of_eq rfl) (by decide) (by decide) (by decide) (by decide) ?_
          rintro v23 T23 h23 W23 z23 ⟨rfl, rfl⟩
          show Go p e below _ T23 (mkF m 138 #[.val (.ref a), .val (.int fi), .val (.int ti), .val (.int ng), .val (.int dg), .val (.long least), .second, .val (.long nu), .second, .val (.int i.toInt32), .val (.int ((cs.getD i 0) - (48 : Int32)))] [(.ref eo)])
          exact gRetA W23 hret rfl rfl d13_138 (by decide) (by decide) ⟨_, rfl, Keep.refl _ _, by rw [hn]; exact ⟨GEM.1.ext W23.old.2, GEM.2.ext W23.old.2⟩⟩
        · intro q116
          refine s_lload W21 d13_119 rfl (pc' := 121) rfl ?_
          refine s_lload W21 d13_121 rfl (pc' := 123) rfl ?_
          refine s_iload W21 d13_123 rfl (pc' := 125) rfl ?_
          refine s_i2l W21 d13_125 (pc' := 126) rfl ?_
          refine s_ladd W21 d13_126 (pc' := 127) rfl ?_
          refine s_ldcJ W21 (w_92 hw) d13_127 (pc' := 130) rfl ?_
          refine s_ldiv W21 d13_130 (by decide) (pc' := 131) rfl ?_
          refine s_lcmp W21 d13_131 (pc' := 132) rfl ?_
          refine s_ifge W21 d13_132 (by decide) (pc1 := 139) (by decide) (pc2 := 135) rfl ?_ ?_
          · intro q132
            refine s_lload W21 d13_139 rfl (pc' := 141) rfl ?_
            refine s_ldcJ W21 (w_92 hw) d13_141 (pc' := 144) rfl ?_
            refine s_lmul W21 d13_144 (pc' := 145) rfl ?_
            refine s_iload W21 d13_145 rfl (pc' := 147) rfl ?_
            refine s_i2l W21 d13_147 (pc' := 148) rfl ?_
            refine s_lsub W21 d13_148 (pc' := 149) rfl ?_
            refine s_lstore W21 d13_149 (l' := #[.val (.ref a), .val (.int fi), .val (.int ti), .val (.int ng), .val (.int dg), .val (.long least), .second, .val (.long ((nu * (10 : Int64)) - ((cs.getD i 0) - (48 : Int32)).toInt64)), .second, .val (.int i.toInt32), .val (.int ((cs.getD i 0) - (48 : Int32)))]) rfl (pc' := 151) rfl ?_
            refine s_iinc W21 d13_151 (v := (1 : Int32)) (by decide) rfl (l' := #[.val (.ref a), .val (.int fi), .val (.int ti), .val (.int ng), .val (.int dg), .val (.long least), .second, .val (.long ((nu * (10 : Int64)) - ((cs.getD i 0) - (48 : Int32)).toInt64)), .second, .val (.int (i.toInt32 + (1 : Int32))), .val (.int ((cs.getD i 0) - (48 : Int32)))]) rfl (pc' := 154) rfl ?_
            refine s_goto W21 d13_154 (by decide) (pc' := 88) (by decide) ?_
            rw [n32s]
            refine ih ng dg least (i + 1) _ _ T21 (by omega) (One1.i _) W21 ?_
            rw [hres]
            show Option.map _ (if _ then none else _) = _
            rw [if_neg (fun q => q.elim q109 (fun q => q.elim q116 (fun q => q132 ((lw_lt _ _).mpr q))))]
          · intro q132
            have hn : parseF cs f t = none := by rw [hres]; show Option.map _ (if _ then none else _) = _; rw [if_pos (Or.inr (Or.inr ((lw_lt _ _).mp q132)))]; rfl
            refine gStatic W21 (w_63 hw) (w_64 hw) (w_65 hw) (w_66 hw) (by decide) pd_12 (ct_oem hw hEL [] eo h0 SEM) (by simp) d13_135 (pc' := 138) rfl rfl (argsL := []) rfl rfl (rest := []) rfl (wt := 0) (Nat.le_of_eq rfl) (by decide) (by decide) (by decide) (by decide) ?_
            rintro v24 T24 h24 W24 z24 ⟨rfl, rfl⟩
            show Go p e below _ T24 (mkF m 138 #[.val (.ref a), .val (.int fi), .val (.int ti), .val (.int ng), .val (.int dg), .val (.long least), .second, .val (.long nu), .second, .val (.int i.toInt32), .val (.int ((cs.getD i 0) - (48 : Int32)))] [(.ref eo)])
            exact gRetA W24 hret rfl rfl d13_138 (by decide) (by decide) ⟨_, rfl, Keep.refl _ _, by rw [hn]; exact ⟨GEM.1.ext W24.old.2, GEM.2.ext W24.old.2⟩⟩
  have hlt : fi < ti ↔ f < t := ⟨fun q => by have := Int32.lt_iff_toInt_lt.mp q; omega, fun q => lt32 (by omega)⟩
  refine s_iloadN W0 d13_0 rfl (pc' := 1) rfl ?_
  refine s_iloadN W0 d13_1 rfl (pc' := 2) rfl ?_
  refine s_icmpge W0 d13_2 (by decide) (pc1 := 21) (by decide) (pc2 := 5) rfl ?_ ?_
  · intro q2
    have hpf : parseF cs f t = parseN cs f t false f := if_neg (fun q => q2 (hlt.mpr q.1))
    refine s_iconst W0 d13_21 (v := (0 : Int32)) (by decide) (pc' := 22) rfl ?_
    refine s_istoreN W0 d13_22 (l' := #[.val (.ref a), .val (.int fi), .val (.int ti), .val (.int (0 : Int32)), .unset, .unset, .unset, .unset, .unset, .unset, .unset]) rfl (pc' := 23) rfl ?_
    refine s_iloadN W0 d13_23 rfl (pc' := 24) rfl ?_
    refine s_ifeq W0 d13_24 (by decide) (pc1 := 33) (by decide) (pc2 := 27) rfl ?_ (fun q => absurd q (by decide))
    intro q24
    refine s_iloadN W0 d13_33 rfl (pc' := 34) rfl ?_
    refine s_istore W0 d13_34 (l' := #[.val (.ref a), .val (.int fi), .val (.int ti), .val (.int (0 : Int32)), .val (.int fi), .unset, .unset, .unset, .unset, .unset, .unset]) rfl (pc' := 36) rfl ?_
    refine s_iload W0 d13_36 rfl (pc' := 38) rfl ?_
    refine s_iloadN W0 d13_38 rfl (pc' := 39) rfl ?_
    have b1 : fi.toInt = (f : Nat) := hf
    have hdt : fi = ti ↔ f = t := ⟨fun q => by have := congrArg Int32.toInt q; omega, fun q => eq32 (by omega)⟩
    refine s_icmpeq W0 d13_39 (by decide) (pc1 := 62) (by decide) (pc2 := 42) rfl ?_ ?_
    · intro q39
      have hn : parseF cs f t = none := by rw [hpf]; exact if_pos (hdt.mp q39)
      refine gStatic W0 (w_63 hw) (w_64 hw) (w_65 hw) (w_66 hw) (by decide) pd_12 (ct_oem hw hEL [] eo h0 SEM) (by simp) d13_62 (pc' := 65) rfl rfl (argsL := []) rfl rfl (rest := []) rfl (wt := 0) (Nat.le_of_eq rfl) (by decide) (by decide) (by decide) (by decide) ?_
      rintro v1 T1 h1 W1 z1 ⟨rfl, rfl⟩
      show Go p e below _ T1 (mkF m 65 #[.val (.ref a), .val (.int fi), .val (.int ti), .val (.int (0 : Int32)), .val (.int fi), .unset, .unset, .unset, .unset, .unset, .unset] [(.ref eo)])
      exact gRetA W1 hret rfl rfl d13_65 (by decide) (by decide) ⟨_, rfl, Keep.refl _ _, by rw [hn]; exact ⟨GEM.1.ext W1.old.2, GEM.2.ext W1.old.2⟩⟩
    · intro q39
      refine s_aloadN W0 d13_42 rfl rfl (pc' := 43) rfl ?_
      refine s_iload W0 d13_43 rfl (pc' := 45) rfl ?_
      have ndt : ¬ f = t := fun q => q39 (hdt.mpr q)
      have gl : f < cs.length := by omega
      have gdd := getDj gl
      refine gFace W0 S.1 (w_84 hw) (w_85 hw) (fun args s hZ => mv hZ (w_86 hw)) (w_87 hw) (w_15 hw) (w_88 hw) (w_89 hw) (w_90 hw) (w_6 hw) (w_17 hw) (by decide) pd_11 (ct_cat hw hEL [] a d kd fi z ccs fo cs f gl h0 hz hcs b1 S SCS hccs SFO rfo) (by simp) d13_45 (pc' := 50) rfl rfl (argsL := [(.int fi)]) rfl rfl (rest := []) rfl (wt := 0) (Nat.le_of_eq rfl) (by decide) (by decide) (by decide) (by decide) ?_
      rintro v2 T2 h2 W2 z2 ⟨rfl, rfl⟩
      rw [← gdd]
      show Go p e below _ T2 (mkF m 50 #[.val (.ref a), .val (.int fi), .val (.int ti), .val (.int (0 : Int32)), .val (.int fi), .unset, .unset, .unset, .unset, .unset, .unset] [(.int (cs.getD f 0))])
      refine s_bipush W2 d13_50 (v := (48 : Int32)) (by decide) (pc' := 52) rfl ?_
      refine s_icmpne W2 d13_52 (by decide) (pc1 := 66) (by decide) (pc2 := 55) rfl ?_ ?_
      · intro q52
        have hn : ¬ (cs.getD f 0 = (48 : Int32) ∧ 1 < t - f) := fun q => q52 q.1
        refine s_iloadN W2 d13_66 rfl (pc' := 67) rfl ?_
        refine s_ifeq W2 d13_67 (by decide) (pc1 := 76) (by decide) (pc2 := 70) rfl ?_ (fun q => absurd q (by decide))
        intro q67
        refine s_ldcJ W2 (w_91 hw) d13_76 (pc' := 79) rfl ?_
        refine s_lstore W2 d13_79 (l' := #[.val (.ref a), .val (.int fi), .val (.int ti), .val (.int (0 : Int32)), .val (.int fi), .val (.long (-9223372036854775807 : Int64)), .second, .unset, .unset, .unset, .unset]) rfl (pc' := 81) rfl ?_
        refine s_lconst W2 d13_81 (v := (0 : Int64)) (by decide) (pc' := 82) rfl ?_
        refine s_lstore W2 d13_82 (l' := #[.val (.ref a), .val (.int fi), .val (.int ti), .val (.int (0 : Int32)), .val (.int fi), .val (.long (-9223372036854775807 : Int64)), .second, .val (.long (0 : Int64)), .second, .unset, .unset]) rfl (pc' := 84) rfl ?_
        refine s_iload W2 d13_84 rfl (pc' := 86) rfl ?_
        refine s_istore W2 d13_86 (l' := #[.val (.ref a), .val (.int fi), .val (.int ti), .val (.int (0 : Int32)), .val (.int fi), .val (.long (-9223372036854775807 : Int64)), .second, .val (.long (0 : Int64)), .second, .val (.int fi), .unset]) rfl (pc' := 88) rfl ?_
        have eD : fi = (f).toInt32 := eq32 (by rw [b1]; exact (n32 (by omega)).symm)
        have key := loop (t - f) (0 : Int32) fi (-9223372036854775807 : Int64) f (0 : Int64) .unset T2 (by omega) One1.u W2 (by rw [hpf]; exact (if_neg (fun q => q39 (hdt.mpr q))).trans ((if_neg hn).trans rfl))
        rw [← eD] at key
        exact key
      · intro q52
        refine s_iloadN W2 d13_55 rfl (pc' := 56) rfl ?_
        refine s_iloadN W2 d13_56 rfl (pc' := 57) rfl ?_
        refine s_isub W2 d13_57 (pc' := 58) rfl ?_
        refine s_iconst W2 d13_58 (v := (1 : Int32)) (by decide) (pc' := 59) rfl ?_
        have e3 : (1 : Int32).toInt = 1 := by decide
        have e1 := c_isub ti fi
        have e2 := rng32 (ti - fi)
        have hsub : (1 : Int32) < ti - fi ↔ 1 < t - f := ⟨fun q => by have := Int32.lt_iff_toInt_lt.mp q; omega, fun q => lt32 (by omega)⟩
        refine s_icmple W2 d13_59 (by decide) (pc1 := 66) (by decide) (pc2 := 62) rfl ?_ ?_
        · intro q59
          have hn : ¬ (cs.getD f 0 = (48 : Int32) ∧ 1 < t - f) := fun q => q59 (hsub.mpr q.2)
          refine s_iloadN W2 d13_66 rfl (pc' := 67) rfl ?_
          refine s_ifeq W2 d13_67 (by decide) (pc1 := 76) (by decide) (pc2 := 70) rfl ?_ (fun q => absurd q (by decide))
          intro q67
          refine s_ldcJ W2 (w_91 hw) d13_76 (pc' := 79) rfl ?_
          refine s_lstore W2 d13_79 (l' := #[.val (.ref a), .val (.int fi), .val (.int ti), .val (.int (0 : Int32)), .val (.int fi), .val (.long (-9223372036854775807 : Int64)), .second, .unset, .unset, .unset, .unset]) rfl (pc' := 81) rfl ?_
          refine s_lconst W2 d13_81 (v := (0 : Int64)) (by decide) (pc' := 82) rfl ?_
          refine s_lstore W2 d13_82 (l' := #[.val (.ref a), .val (.int fi), .val (.int ti), .val (.int (0 : Int32)), .val (.int fi), .val (.long (-9223372036854775807 : Int64)), .second, .val (.long (0 : Int64)), .second, .unset, .unset]) rfl (pc' := 84) rfl ?_
          refine s_iload W2 d13_84 rfl (pc' := 86) rfl ?_
          refine s_istore W2 d13_86 (l' := #[.val (.ref a), .val (.int fi), .val (.int ti), .val (.int (0 : Int32)), .val (.int fi), .val (.long (-9223372036854775807 : Int64)), .second, .val (.long (0 : Int64)), .second, .val (.int fi), .unset]) rfl (pc' := 88) rfl ?_
          have eD : fi = (f).toInt32 := eq32 (by rw [b1]; exact (n32 (by omega)).symm)
          have key := loop (t - f) (0 : Int32) fi (-9223372036854775807 : Int64) f (0 : Int64) .unset T2 (by omega) One1.u W2 (by rw [hpf]; exact (if_neg (fun q => q39 (hdt.mpr q))).trans ((if_neg hn).trans rfl))
          rw [← eD] at key
          exact key
        · intro q59
          have hn : parseF cs f t = none := by rw [hpf]; exact (if_neg (fun q => q39 (hdt.mpr q))).trans (if_pos ⟨q52, hsub.mp q59⟩)
          refine gStatic W2 (w_63 hw) (w_64 hw) (w_65 hw) (w_66 hw) (by decide) pd_12 (ct_oem hw hEL [] eo h0 SEM) (by simp) d13_62 (pc' := 65) rfl rfl (argsL := []) rfl rfl (rest := []) rfl (wt := 0) (Nat.le_of_eq rfl) (by decide) (by decide) (by decide) (by decide) ?_
          rintro v3 T3 h3 W3 z3 ⟨rfl, rfl⟩
          show Go p e below _ T3 (mkF m 65 #[.val (.ref a), .val (.int fi), .val (.int ti), .val (.int (0 : Int32)), .val (.int fi), .unset, .unset, .unset, .unset, .unset, .unset] [(.ref eo)])
          exact gRetA W3 hret rfl rfl d13_65 (by decide) (by decide) ⟨_, rfl, Keep.refl _ _, by rw [hn]; exact ⟨GEM.1.ext W3.old.2, GEM.2.ext W3.old.2⟩⟩
  · intro q2
    refine s_aloadN W0 d13_5 rfl rfl (pc' := 6) rfl ?_
    refine s_iloadN W0 d13_6 rfl (pc' := 7) rfl ?_
    have fl : f < cs.length := by have := hlt.mp q2; omega
    have gdf := getDj fl
    refine gFace W0 S.1 (w_84 hw) (w_85 hw) (fun args s hZ => mv hZ (w_86 hw)) (w_87 hw) (w_15 hw) (w_88 hw) (w_89 hw) (w_90 hw) (w_6 hw) (w_17 hw) (by decide) pd_11 (ct_cat hw hEL [] a d kd fi z ccs fo cs f fl h0 hz hcs hf S SCS hccs SFO rfo) (by simp) d13_7 (pc' := 12) rfl rfl (argsL := [(.int fi)]) rfl rfl (rest := []) rfl (wt := 0) (Nat.le_of_eq rfl) (by decide) (by decide) (by decide) (by decide) ?_
    rintro v4 T4 h4 W4 z4 ⟨rfl, rfl⟩
    rw [← gdf]
    show Go p e below _ T4 (mkF m 12 #[.val (.ref a), .val (.int fi), .val (.int ti), .unset, .unset, .unset, .unset, .unset, .unset, .unset, .unset] [(.int (cs.getD f 0))])
    refine s_bipush W4 d13_12 (v := (45 : Int32)) (by decide) (pc' := 14) rfl ?_
    refine s_icmpne W4 d13_14 (by decide) (pc1 := 21) (by decide) (pc2 := 17) rfl ?_ ?_
    · intro q14
      have hpf : parseF cs f t = parseN cs f t false f := if_neg (fun q => q14 q.2)
      refine s_iconst W4 d13_21 (v := (0 : Int32)) (by decide) (pc' := 22) rfl ?_
      refine s_istoreN W4 d13_22 (l' := #[.val (.ref a), .val (.int fi), .val (.int ti), .val (.int (0 : Int32)), .unset, .unset, .unset, .unset, .unset, .unset, .unset]) rfl (pc' := 23) rfl ?_
      refine s_iloadN W4 d13_23 rfl (pc' := 24) rfl ?_
      refine s_ifeq W4 d13_24 (by decide) (pc1 := 33) (by decide) (pc2 := 27) rfl ?_ (fun q => absurd q (by decide))
      intro q24
      refine s_iloadN W4 d13_33 rfl (pc' := 34) rfl ?_
      refine s_istore W4 d13_34 (l' := #[.val (.ref a), .val (.int fi), .val (.int ti), .val (.int (0 : Int32)), .val (.int fi), .unset, .unset, .unset, .unset, .unset, .unset]) rfl (pc' := 36) rfl ?_
      refine s_iload W4 d13_36 rfl (pc' := 38) rfl ?_
      refine s_iloadN W4 d13_38 rfl (pc' := 39) rfl ?_
      have b1 : fi.toInt = (f : Nat) := hf
      have hdt : fi = ti ↔ f = t := ⟨fun q => by have := congrArg Int32.toInt q; omega, fun q => eq32 (by omega)⟩
      refine s_icmpeq W4 d13_39 (by decide) (pc1 := 62) (by decide) (pc2 := 42) rfl ?_ ?_
      · intro q39
        have hn : parseF cs f t = none := by rw [hpf]; exact if_pos (hdt.mp q39)
        refine gStatic W4 (w_63 hw) (w_64 hw) (w_65 hw) (w_66 hw) (by decide) pd_12 (ct_oem hw hEL [] eo h0 SEM) (by simp) d13_62 (pc' := 65) rfl rfl (argsL := []) rfl rfl (rest := []) rfl (wt := 0) (Nat.le_of_eq rfl) (by decide) (by decide) (by decide) (by decide) ?_
        rintro v5 T5 h5 W5 z5 ⟨rfl, rfl⟩
        show Go p e below _ T5 (mkF m 65 #[.val (.ref a), .val (.int fi), .val (.int ti), .val (.int (0 : Int32)), .val (.int fi), .unset, .unset, .unset, .unset, .unset, .unset] [(.ref eo)])
        exact gRetA W5 hret rfl rfl d13_65 (by decide) (by decide) ⟨_, rfl, Keep.refl _ _, by rw [hn]; exact ⟨GEM.1.ext W5.old.2, GEM.2.ext W5.old.2⟩⟩
      · intro q39
        refine s_aloadN W4 d13_42 rfl rfl (pc' := 43) rfl ?_
        refine s_iload W4 d13_43 rfl (pc' := 45) rfl ?_
        have ndt : ¬ f = t := fun q => q39 (hdt.mpr q)
        have gl : f < cs.length := by omega
        have gdd := getDj gl
        refine gFace W4 S.1 (w_84 hw) (w_85 hw) (fun args s hZ => mv hZ (w_86 hw)) (w_87 hw) (w_15 hw) (w_88 hw) (w_89 hw) (w_90 hw) (w_6 hw) (w_17 hw) (by decide) pd_11 (ct_cat hw hEL [] a d kd fi z ccs fo cs f gl h0 hz hcs b1 S SCS hccs SFO rfo) (by simp) d13_45 (pc' := 50) rfl rfl (argsL := [(.int fi)]) rfl rfl (rest := []) rfl (wt := 0) (Nat.le_of_eq rfl) (by decide) (by decide) (by decide) (by decide) ?_
        rintro v6 T6 h6 W6 z6 ⟨rfl, rfl⟩
        rw [← gdd]
        show Go p e below _ T6 (mkF m 50 #[.val (.ref a), .val (.int fi), .val (.int ti), .val (.int (0 : Int32)), .val (.int fi), .unset, .unset, .unset, .unset, .unset, .unset] [(.int (cs.getD f 0))])
        refine s_bipush W6 d13_50 (v := (48 : Int32)) (by decide) (pc' := 52) rfl ?_
        refine s_icmpne W6 d13_52 (by decide) (pc1 := 66) (by decide) (pc2 := 55) rfl ?_ ?_
        · intro q52
          have hn : ¬ (cs.getD f 0 = (48 : Int32) ∧ 1 < t - f) := fun q => q52 q.1
          refine s_iloadN W6 d13_66 rfl (pc' := 67) rfl ?_
          refine s_ifeq W6 d13_67 (by decide) (pc1 := 76) (by decide) (pc2 := 70) rfl ?_ (fun q => absurd q (by decide))
          intro q67
          refine s_ldcJ W6 (w_91 hw) d13_76 (pc' := 79) rfl ?_
          refine s_lstore W6 d13_79 (l' := #[.val (.ref a), .val (.int fi), .val (.int ti), .val (.int (0 : Int32)), .val (.int fi), .val (.long (-9223372036854775807 : Int64)), .second, .unset, .unset, .unset, .unset]) rfl (pc' := 81) rfl ?_
          refine s_lconst W6 d13_81 (v := (0 : Int64)) (by decide) (pc' := 82) rfl ?_
          refine s_lstore W6 d13_82 (l' := #[.val (.ref a), .val (.int fi), .val (.int ti), .val (.int (0 : Int32)), .val (.int fi), .val (.long (-9223372036854775807 : Int64)), .second, .val (.long (0 : Int64)), .second, .unset, .unset]) rfl (pc' := 84) rfl ?_
          refine s_iload W6 d13_84 rfl (pc' := 86) rfl ?_
          refine s_istore W6 d13_86 (l' := #[.val (.ref a), .val (.int fi), .val (.int ti), .val (.int (0 : Int32)), .val (.int fi), .val (.long (-9223372036854775807 : Int64)), .second, .val (.long (0 : Int64)), .second, .val (.int fi), .unset]) rfl (pc' := 88) rfl ?_
          have eD : fi = (f).toInt32 := eq32 (by rw [b1]; exact (n32 (by omega)).symm)
          have key := loop (t - f) (0 : Int32) fi (-9223372036854775807 : Int64) f (0 : Int64) .unset T6 (by omega) One1.u W6 (by rw [hpf]; exact (if_neg (fun q => q39 (hdt.mpr q))).trans ((if_neg hn).trans rfl))
          rw [← eD] at key
          exact key
        · intro q52
          refine s_iloadN W6 d13_55 rfl (pc' := 56) rfl ?_
          refine s_iloadN W6 d13_56 rfl (pc' := 57) rfl ?_
          refine s_isub W6 d13_57 (pc' := 58) rfl ?_
          refine s_iconst W6 d13_58 (v := (1 : Int32)) (by decide) (pc' := 59) rfl ?_
          have e3 : (1 : Int32).toInt = 1 := by decide
          have e1 := c_isub ti fi
          have e2 := rng32 (ti - fi)
          have hsub : (1 : Int32) < ti - fi ↔ 1 < t - f := ⟨fun q => by have := Int32.lt_iff_toInt_lt.mp q; omega, fun q => lt32 (by omega)⟩
          refine s_icmple W6 d13_59 (by decide) (pc1 := 66) (by decide) (pc2 := 62) rfl ?_ ?_
          · intro q59
            have hn : ¬ (cs.getD f 0 = (48 : Int32) ∧ 1 < t - f) := fun q => q59 (hsub.mpr q.2)
            refine s_iloadN W6 d13_66 rfl (pc' := 67) rfl ?_
            refine s_ifeq W6 d13_67 (by decide) (pc1 := 76) (by decide) (pc2 := 70) rfl ?_ (fun q => absurd q (by decide))
            intro q67
            refine s_ldcJ W6 (w_91 hw) d13_76 (pc' := 79) rfl ?_
            refine s_lstore W6 d13_79 (l' := #[.val (.ref a), .val (.int fi), .val (.int ti), .val (.int (0 : Int32)), .val (.int fi), .val (.long (-9223372036854775807 : Int64)), .second, .unset, .unset, .unset, .unset]) rfl (pc' := 81) rfl ?_
            refine s_lconst W6 d13_81 (v := (0 : Int64)) (by decide) (pc' := 82) rfl ?_
            refine s_lstore W6 d13_82 (l' := #[.val (.ref a), .val (.int fi), .val (.int ti), .val (.int (0 : Int32)), .val (.int fi), .val (.long (-9223372036854775807 : Int64)), .second, .val (.long (0 : Int64)), .second, .unset, .unset]) rfl (pc' := 84) rfl ?_
            refine s_iload W6 d13_84 rfl (pc' := 86) rfl ?_
            refine s_istore W6 d13_86 (l' := #[.val (.ref a), .val (.int fi), .val (.int ti), .val (.int (0 : Int32)), .val (.int fi), .val (.long (-9223372036854775807 : Int64)), .second, .val (.long (0 : Int64)), .second, .val (.int fi), .unset]) rfl (pc' := 88) rfl ?_
            have eD : fi = (f).toInt32 := eq32 (by rw [b1]; exact (n32 (by omega)).symm)
            have key := loop (t - f) (0 : Int32) fi (-9223372036854775807 : Int64) f (0 : Int64) .unset T6 (by omega) One1.u W6 (by rw [hpf]; exact (if_neg (fun q => q39 (hdt.mpr q))).trans ((if_neg hn).trans rfl))
            rw [← eD] at key
            exact key
          · intro q59
            have hn : parseF cs f t = none := by rw [hpf]; exact (if_neg (fun q => q39 (hdt.mpr q))).trans (if_pos ⟨q52, hsub.mp q59⟩)
            refine gStatic W6 (w_63 hw) (w_64 hw) (w_65 hw) (w_66 hw) (by decide) pd_12 (ct_oem hw hEL [] eo h0 SEM) (by simp) d13_62 (pc' := 65) rfl rfl (argsL := []) rfl rfl (rest := []) rfl (wt := 0) (Nat.le_of_eq rfl) (by decide) (by decide) (by decide) (by decide) ?_
            rintro v7 T7 h7 W7 z7 ⟨rfl, rfl⟩
            show Go p e below _ T7 (mkF m 65 #[.val (.ref a), .val (.int fi), .val (.int ti), .val (.int (0 : Int32)), .val (.int fi), .unset, .unset, .unset, .unset, .unset, .unset] [(.ref eo)])
            exact gRetA W7 hret rfl rfl d13_65 (by decide) (by decide) ⟨_, rfl, Keep.refl _ _, by rw [hn]; exact ⟨GEM.1.ext W7.old.2, GEM.2.ext W7.old.2⟩⟩
    · intro q14
      have hpf : parseF cs f t = parseN cs f t true (f + 1) := if_pos ⟨hlt.mp q2, q14⟩
      refine s_iconst W4 d13_17 (v := (1 : Int32)) (by decide) (pc' := 18) rfl ?_
      refine s_goto W4 d13_18 (by decide) (pc' := 22) (by decide) ?_
      refine s_istoreN W4 d13_22 (l' := #[.val (.ref a), .val (.int fi), .val (.int ti), .val (.int (1 : Int32)), .unset, .unset, .unset, .unset, .unset, .unset, .unset]) rfl (pc' := 23) rfl ?_
      refine s_iloadN W4 d13_23 rfl (pc' := 24) rfl ?_
      refine s_ifeq W4 d13_24 (by decide) (pc1 := 33) (by decide) (pc2 := 27) rfl (fun q => absurd q (by decide)) ?_
      intro q24
      refine s_iloadN W4 d13_27 rfl (pc' := 28) rfl ?_
      refine s_iconst W4 d13_28 (v := (1 : Int32)) (by decide) (pc' := 29) rfl ?_
      refine s_iadd W4 d13_29 (pc' := 30) rfl ?_
      refine s_goto W4 d13_30 (by decide) (pc' := 34) (by decide) ?_
      refine s_istore W4 d13_34 (l' := #[.val (.ref a), .val (.int fi), .val (.int ti), .val (.int (1 : Int32)), .val (.int (fi + (1 : Int32))), .unset, .unset, .unset, .unset, .unset, .unset]) rfl (pc' := 36) rfl ?_
      refine s_iload W4 d13_36 rfl (pc' := 38) rfl ?_
      refine s_iloadN W4 d13_38 rfl (pc' := 39) rfl ?_
      have qft := hlt.mp q2
      have o1 : (1 : Int32).toInt = 1 := by decide
      have b1 : (fi + (1 : Int32)).toInt = (f + 1 : Nat) := by have := c_iadd fi 1; have := rng32 (fi + 1); omega
      have hdt : (fi + (1 : Int32)) = ti ↔ (f + 1) = t := ⟨fun q => by have := congrArg Int32.toInt q; omega, fun q => eq32 (by omega)⟩
      refine s_icmpeq W4 d13_39 (by decide) (pc1 := 62) (by decide) (pc2 := 42) rfl ?_ ?_
      · intro q39
        have hn : parseF cs f t = none := by rw [hpf]; exact if_pos (hdt.mp q39)
        refine gStatic W4 (w_63 hw) (w_64 hw) (w_65 hw) (w_66 hw) (by decide) pd_12 (ct_oem hw hEL [] eo h0 SEM) (by simp) d13_62 (pc' := 65) rfl rfl (argsL := []) rfl rfl (rest := []) rfl (wt := 0) (Nat.le_of_eq rfl) (by decide) (by decide) (by decide) (by decide) ?_
        rintro v8 T8 h8 W8 z8 ⟨rfl, rfl⟩
        show Go p e below _ T8 (mkF m 65 #[.val (.ref a), .val (.int fi), .val (.int ti), .val (.int (1 : Int32)), .val (.int (fi + (1 : Int32))), .unset, .unset, .unset, .unset, .unset, .unset] [(.ref eo)])
        exact gRetA W8 hret rfl rfl d13_65 (by decide) (by decide) ⟨_, rfl, Keep.refl _ _, by rw [hn]; exact ⟨GEM.1.ext W8.old.2, GEM.2.ext W8.old.2⟩⟩
      · intro q39
        refine s_aloadN W4 d13_42 rfl rfl (pc' := 43) rfl ?_
        refine s_iload W4 d13_43 rfl (pc' := 45) rfl ?_
        have ndt : ¬ (f + 1) = t := fun q => q39 (hdt.mpr q)
        have gl : (f + 1) < cs.length := by have := hlt.mp q2; omega
        have gdd := getDj gl
        refine gFace W4 S.1 (w_84 hw) (w_85 hw) (fun args s hZ => mv hZ (w_86 hw)) (w_87 hw) (w_15 hw) (w_88 hw) (w_89 hw) (w_90 hw) (w_6 hw) (w_17 hw) (by decide) pd_11 (ct_cat hw hEL [] a d kd (fi + (1 : Int32)) z ccs fo cs (f + 1) gl h0 hz hcs b1 S SCS hccs SFO rfo) (by simp) d13_45 (pc' := 50) rfl rfl (argsL := [(.int (fi + (1 : Int32)))]) rfl rfl (rest := []) rfl (wt := 0) (Nat.le_of_eq rfl) (by decide) (by decide) (by decide) (by decide) ?_
        rintro v9 T9 h9 W9 z9 ⟨rfl, rfl⟩
        rw [← gdd]
        show Go p e below _ T9 (mkF m 50 #[.val (.ref a), .val (.int fi), .val (.int ti), .val (.int (1 : Int32)), .val (.int (fi + (1 : Int32))), .unset, .unset, .unset, .unset, .unset, .unset] [(.int (cs.getD (f + 1) 0))])
        refine s_bipush W9 d13_50 (v := (48 : Int32)) (by decide) (pc' := 52) rfl ?_
        refine s_icmpne W9 d13_52 (by decide) (pc1 := 66) (by decide) (pc2 := 55) rfl ?_ ?_
        · intro q52
          have hn : ¬ (cs.getD (f + 1) 0 = (48 : Int32) ∧ 1 < t - f) := fun q => q52 q.1
          refine s_iloadN W9 d13_66 rfl (pc' := 67) rfl ?_
          refine s_ifeq W9 d13_67 (by decide) (pc1 := 76) (by decide) (pc2 := 70) rfl (fun q => absurd q (by decide)) ?_
          intro q67
          refine s_ldcJ W9 (w_110 hw) d13_70 (pc' := 73) rfl ?_
          refine s_goto W9 d13_73 (by decide) (pc' := 79) (by decide) ?_
          refine s_lstore W9 d13_79 (l' := #[.val (.ref a), .val (.int fi), .val (.int ti), .val (.int (1 : Int32)), .val (.int (fi + (1 : Int32))), .val (.long (-9223372036854775808 : Int64)), .second, .unset, .unset, .unset, .unset]) rfl (pc' := 81) rfl ?_
          refine s_lconst W9 d13_81 (v := (0 : Int64)) (by decide) (pc' := 82) rfl ?_
          refine s_lstore W9 d13_82 (l' := #[.val (.ref a), .val (.int fi), .val (.int ti), .val (.int (1 : Int32)), .val (.int (fi + (1 : Int32))), .val (.long (-9223372036854775808 : Int64)), .second, .val (.long (0 : Int64)), .second, .unset, .unset]) rfl (pc' := 84) rfl ?_
          refine s_iload W9 d13_84 rfl (pc' := 86) rfl ?_
          refine s_istore W9 d13_86 (l' := #[.val (.ref a), .val (.int fi), .val (.int ti), .val (.int (1 : Int32)), .val (.int (fi + (1 : Int32))), .val (.long (-9223372036854775808 : Int64)), .second, .val (.long (0 : Int64)), .second, .val (.int (fi + (1 : Int32))), .unset]) rfl (pc' := 88) rfl ?_
          have eD : (fi + (1 : Int32)) = ((f + 1)).toInt32 := eq32 (by rw [b1]; exact (n32 (by omega)).symm)
          have key := loop (t - (f + 1)) (1 : Int32) (fi + (1 : Int32)) (-9223372036854775808 : Int64) (f + 1) (0 : Int64) .unset T9 (by omega) One1.u W9 (by rw [hpf]; exact (if_neg (fun q => q39 (hdt.mpr q))).trans ((if_neg hn).trans rfl))
          rw [← eD] at key
          exact key
        · intro q52
          refine s_iloadN W9 d13_55 rfl (pc' := 56) rfl ?_
          refine s_iloadN W9 d13_56 rfl (pc' := 57) rfl ?_
          refine s_isub W9 d13_57 (pc' := 58) rfl ?_
          refine s_iconst W9 d13_58 (v := (1 : Int32)) (by decide) (pc' := 59) rfl ?_
          have e3 : (1 : Int32).toInt = 1 := by decide
          have e1 := c_isub ti fi
          have e2 := rng32 (ti - fi)
          have hsub : (1 : Int32) < ti - fi ↔ 1 < t - f := ⟨fun q => by have := Int32.lt_iff_toInt_lt.mp q; omega, fun q => lt32 (by omega)⟩
          refine s_icmple W9 d13_59 (by decide) (pc1 := 66) (by decide) (pc2 := 62) rfl ?_ ?_
          · intro q59
            have hn : ¬ (cs.getD (f + 1) 0 = (48 : Int32) ∧ 1 < t - f) := fun q => q59 (hsub.mpr q.2)
            refine s_iloadN W9 d13_66 rfl (pc' := 67) rfl ?_
            refine s_ifeq W9 d13_67 (by decide) (pc1 := 76) (by decide) (pc2 := 70) rfl (fun q => absurd q (by decide)) ?_
            intro q67
            refine s_ldcJ W9 (w_110 hw) d13_70 (pc' := 73) rfl ?_
            refine s_goto W9 d13_73 (by decide) (pc' := 79) (by decide) ?_
            refine s_lstore W9 d13_79 (l' := #[.val (.ref a), .val (.int fi), .val (.int ti), .val (.int (1 : Int32)), .val (.int (fi + (1 : Int32))), .val (.long (-9223372036854775808 : Int64)), .second, .unset, .unset, .unset, .unset]) rfl (pc' := 81) rfl ?_
            refine s_lconst W9 d13_81 (v := (0 : Int64)) (by decide) (pc' := 82) rfl ?_
            refine s_lstore W9 d13_82 (l' := #[.val (.ref a), .val (.int fi), .val (.int ti), .val (.int (1 : Int32)), .val (.int (fi + (1 : Int32))), .val (.long (-9223372036854775808 : Int64)), .second, .val (.long (0 : Int64)), .second, .unset, .unset]) rfl (pc' := 84) rfl ?_
            refine s_iload W9 d13_84 rfl (pc' := 86) rfl ?_
            refine s_istore W9 d13_86 (l' := #[.val (.ref a), .val (.int fi), .val (.int ti), .val (.int (1 : Int32)), .val (.int (fi + (1 : Int32))), .val (.long (-9223372036854775808 : Int64)), .second, .val (.long (0 : Int64)), .second, .val (.int (fi + (1 : Int32))), .unset]) rfl (pc' := 88) rfl ?_
            have eD : (fi + (1 : Int32)) = ((f + 1)).toInt32 := eq32 (by rw [b1]; exact (n32 (by omega)).symm)
            have key := loop (t - (f + 1)) (1 : Int32) (fi + (1 : Int32)) (-9223372036854775808 : Int64) (f + 1) (0 : Int64) .unset T9 (by omega) One1.u W9 (by rw [hpf]; exact (if_neg (fun q => q39 (hdt.mpr q))).trans ((if_neg hn).trans rfl))
            rw [← eD] at key
            exact key
          · intro q59
            have hn : parseF cs f t = none := by rw [hpf]; exact (if_neg (fun q => q39 (hdt.mpr q))).trans (if_pos ⟨q52, hsub.mp q59⟩)
            refine gStatic W9 (w_63 hw) (w_64 hw) (w_65 hw) (w_66 hw) (by decide) pd_12 (ct_oem hw hEL [] eo h0 SEM) (by simp) d13_62 (pc' := 65) rfl rfl (argsL := []) rfl rfl (rest := []) rfl (wt := 0) (Nat.le_of_eq rfl) (by decide) (by decide) (by decide) (by decide) ?_
            rintro v10 T10 h10 W10 z10 ⟨rfl, rfl⟩
            show Go p e below _ T10 (mkF m 65 #[.val (.ref a), .val (.int fi), .val (.int ti), .val (.int (1 : Int32)), .val (.int (fi + (1 : Int32))), .unset, .unset, .unset, .unset, .unset, .unset] [(.ref eo)])
            exact gRetA W10 hret rfl rfl d13_65 (by decide) (by decide) ⟨_, rfl, Keep.refl _ _, by rw [hn]; exact ⟨GEM.1.ext W10.old.2, GEM.2.ext W10.old.2⟩⟩
theorem and31 (x : Int32) : ∃ n : Nat, n < 32 ∧ x &&& (31 : Int32) = Int32.ofNat n := by
  refine ⟨(x &&& 31).toBitVec.toNat, ?_, ?_⟩
  · have : (x &&& 31).toBitVec.toNat = x.toBitVec.toNat &&& 31 := by simp
    rw [this]; exact Nat.lt_of_le_of_lt Nat.and_le_right (by decide)
  · apply Int32.toBitVec_inj.mp; simp
theorem and255 (x : Int32) : ∃ n : Nat, n < 256 ∧ x &&& (255 : Int32) = Int32.ofNat n := by
  refine ⟨(x &&& 255).toBitVec.toNat, ?_, ?_⟩
  · have : (x &&& 255).toBitVec.toNat = x.toBitVec.toNat &&& 255 := by simp
    rw [this]; exact Nat.lt_of_le_of_lt Nat.and_le_right (by decide)
  · apply Int32.toBitVec_inj.mp; simp
theorem pick_small : ∀ n : Fin 256, 0 ≤ (nar .char (nar .char (Int32.ofNat n.val).toUInt32.toUInt16.toUInt32.toInt32)).toInt ∧ (nar .char (nar .char (Int32.ofNat n.val).toUInt32.toUInt16.toUInt32.toInt32)).toInt < 256 := by decide +kernel
theorem pick_small1 : ∀ n : Fin 256, 0 ≤ (nar .char (Int32.ofNat n.val).toUInt32.toUInt16.toUInt32.toInt32).toInt ∧ (nar .char (Int32.ofNat n.val).toUInt32.toUInt16.toUInt32.toInt32).toInt < 256 := by decide +kernel
theorem pick_lat (x : Int32) : 0 ≤ (nar .char (x &&& (255 : Int32)).toUInt32.toUInt16.toUInt32.toInt32).toInt ∧ (nar .char (x &&& (255 : Int32)).toUInt32.toUInt16.toUInt32.toInt32).toInt < 256 := by
  obtain ⟨n, h1, h2⟩ := and255 x
  rw [h2]; exact pick_small1 ⟨n, h1⟩
def Q_pick (Z : State) (n0 : Nat) (px ccs : Int32) (fo : Value) (h0 : Heap) (v : Option Value) (h : Heap) : Prop := ∃ c, v = some (.int c) ∧ Keep h0 h [] ∧ 0 ≤ c.toInt ∧ c.toInt < 256
set_option maxRecDepth 65536 in
set_option maxHeartbeats 40000000 in
theorem ct_pick {l : Launch} {Z : State} {a0 : Array Value} (hw : ∀ d ∈ tables_1, d.before a0 Z = true) (hEL : EW Z a0 EL0) {n0 : Nat} (cds : List Jvm.Cond) (px ccs : Int32) (fo : Value) (h0 : Heap) (SCS : Sta Z Z.heap "java/lang/String" "COMPACT_STRINGS" "Z" (.int ccs)) (hccs : ¬ ccs = 0) (SFO : Sta Z Z.heap "jdk/internal/util/Preconditions" "SIOOBE_FORMATTER" "Ljava/util/function/BiFunction;" fo) (rfo : fo.isRef = true) :
    Ct l Z a0 EL0 n0 false true (⟨"com/example/lazuline/lazuline/PlainDecimalParsePinLaw", "pick", "(I)C"⟩ : MethodName) method_6_code 2 (Option.some Jvm.ClassFile.FieldType.char) cds ({ frames := 4, cells := 2, slots := 68, locals := 53 } : Room) [] #[(.int px)] h0 (Q_pick Z n0 px ccs fo h0) := by
  refine Ct.of (plainFor_of_name pn_5) hEL ?_
  intro p e s m below meth c T0 W0 hret hnm hs0
  refine Go.cast (ef_I_2 m px) ?_
  show Go p e below _ T0 (mkF m 0 #[.val (.int px), .unset] [])
  refine s_iloadN W0 d1_0 rfl (pc' := 1) rfl ?_
  refine s_bipush W0 d1_1 (v := (31 : Int32)) (by decide) (pc' := 3) rfl ?_
  refine s_iand W0 d1_3 (pc' := 4) rfl ?_
  refine s_istoreN W0 d1_4 (l' := #[.val (.int px), .val (.int (px &&& (31 : Int32)))]) rfl (pc' := 5) rfl ?_
  refine s_iloadN W0 d1_5 rfl (pc' := 6) rfl ?_
  refine s_bipush W0 d1_6 (v := (16 : Int32)) (by decide) (pc' := 8) rfl ?_
  refine s_icmpge W0 d1_8 (by decide) (pc1 := 18) (by decide) (pc2 := 11) rfl ?_ ?_
  · intro q8
    refine s_iloadN W0 d1_18 rfl (pc' := 19) rfl ?_
    refine s_iconst W0 d1_19 (v := (5 : Int32)) (by decide) (pc' := 20) rfl ?_
    refine s_iushr W0 d1_20 (pc' := 21) rfl ?_
    refine s_sipush W0 d1_21 (v := (255 : Int32)) (by decide) (pc' := 24) rfl ?_
    refine s_iand W0 d1_24 (pc' := 25) rfl ?_
    refine s_i2c W0 d1_25 (pc' := 26) rfl ?_
    exact gRetN W0 hret (by simp) d1_26 (by decide) (by decide) ⟨_, rfl, Keep.refl _ _, pick_lat _⟩
  · intro q8
    refine gLdcS W0 (w_5 hw) (wS hw) (List.mem_of_getElem? (i := 0) rfl) (vs := [(.int (45 : Int32)), (.int (48 : Int32)), (.int (49 : Int32)), (.int (50 : Int32)), (.int (51 : Int32)), (.int (52 : Int32)), (.int (53 : Int32)), (.int (54 : Int32)), (.int (55 : Int32)), (.int (56 : Int32)), (.int (57 : Int32)), (.int (47 : Int32)), (.int (58 : Int32)), (.int (43 : Int32)), (.int (46 : Int32)), (.int (45 : Int32))]) (z := (16 : Int32)) ⟨by decide +kernel, by decide +kernel⟩ (by decide) (by decide) d1_11 (pc' := 13) rfl (nn := 64) (by decide) (by decide) (by decide) (by decide) ?_
    intro T1 h1 s1 d1 k1 W1 E1 A1 C1 F1 V1 N1
    have z1 : h0.size ≤ h1.size := E1.1
    have lt_s1 := natlt A1.lt
    have lt_d1 := natlt V1.lt
    refine s_iloadN W1 d1_13 rfl (pc' := 14) rfl ?_
    obtain ⟨n, hn1, hn2⟩ := and31 px
    have t1 := Int32.lt_iff_toInt_lt.mp q8
    rw [hn2] at t1
    have t2 : (Int32.ofNat n).toInt = n := n32 (by omega)
    have t3 : (16 : Int32).toInt = 16 := by decide
    have hn3 : n < 16 := by omega
    have Sx : Str Z h1 s1 d1 k1 0 (16 : Int32) ([(45 : Int32), (48 : Int32), (49 : Int32), (50 : Int32), (51 : Int32), (52 : Int32), (53 : Int32), (54 : Int32), (55 : Int32), (56 : Int32), (57 : Int32), (47 : Int32), (58 : Int32), (43 : Int32), (46 : Int32), (45 : Int32)].map fun c => Value.int c.toInt8.toInt32) := ⟨A1, F1, C1, V1⟩
    have hlat : ∀ c ∈ ([(45 : Int32), (48 : Int32), (49 : Int32), (50 : Int32), (51 : Int32), (52 : Int32), (53 : Int32), (54 : Int32), (55 : Int32), (56 : Int32), (57 : Int32), (47 : Int32), (58 : Int32), (43 : Int32), (46 : Int32), (45 : Int32)] : List Int32), 0 ≤ c.toInt ∧ c.toInt < 256 := by decide +kernel
    refine gVirtual W1 A1 (w_13 hw) (w_14 hw) (fun s hZ => notFace_of_selects (args := #[]) (mv hZ (w_16 hw))) (w_16 hw) (w_15 hw) (w_6 hw) (w_17 hw) (by decide) pd_11 (ct_cat hw hEL [] s1 d1 k1 (px &&& (31 : Int32)) (16 : Int32) ccs fo [(45 : Int32), (48 : Int32), (49 : Int32), (50 : Int32), (51 : Int32), (52 : Int32), (53 : Int32), (54 : Int32), (55 : Int32), (56 : Int32), (57 : Int32), (47 : Int32), (58 : Int32), (43 : Int32), (46 : Int32), (45 : Int32)] n (show n < 16 from hn3) h1 (by decide) hlat (by rw [hn2]; exact n32 (by omega)) Sx SCS hccs SFO rfo) (by simp) d1_14 (pc' := 17) rfl rfl (argsL := [(.int (px &&& (31 : Int32)))]) rfl rfl (rest := []) rfl (wt := 0) (Nat.le_of_eq rfl) (by decide) (by decide) (by decide) (by decide) ?_
    rintro v2 T2 h2 W2 z2 ⟨rfl, rfl⟩
    show Go p e below _ T2 (mkF m 17 #[.val (.int px), .val (.int (px &&& (31 : Int32)))] [(.int ([(45 : Int32), (48 : Int32), (49 : Int32), (50 : Int32), (51 : Int32), (52 : Int32), (53 : Int32), (54 : Int32), (55 : Int32), (56 : Int32), (57 : Int32), (47 : Int32), (58 : Int32), (43 : Int32), (46 : Int32), (45 : Int32)] : List Int32)[n])])
    exact gRetN W2 hret (by simp) d1_17 (by decide) (by decide) ⟨_, rfl, ((Keep.refl h0 []).ext E1), by rw [nar_char (hlat _ (List.getElem_mem _))]; exact hlat _ (List.getElem_mem _)⟩
def accF (cs : List Int32) (t i : Nat) (v : Int64) : Int64 := if v < 0 ∨ t ≤ i then v else if cs.getD i 0 < (48 : Int32) ∨ (57 : Int32) < cs.getD i 0 then (-1 : Int64) else v * (10 : Int64) + (cs.getD i 0 - (48 : Int32)).toInt64
def Q_acc (Z : State) (n0 : Nat) (b : Addr) (kb : ClassId) (ii ti z : Int32) (vv : Int64) (cs : List Int32) (i t : Nat) (h0 : Heap) (v : Option Value) (h : Heap) : Prop := v = some (.long (accF cs t i vv)) ∧ h0 = h
set_option maxRecDepth 65536 in
set_option maxHeartbeats 40000000 in
theorem ct_acc {l : Launch} {Z : State} {a0 : Array Value} (hw : ∀ d ∈ tables_1, d.before a0 Z = true) (hEL : EW Z a0 EL0) {n0 : Nat} (cds : List Jvm.Cond) (b : Addr) (kb : ClassId) (ii ti z : Int32) (vv : Int64) (cs : List Int32) (i t : Nat) (h0 : Heap) (hz : z.toInt = cs.length) (hi : ii.toInt = i) (ht : ti.toInt = t) (htl : t ≤ cs.length) (Vb : Arv Z h0 b kb .char z (cs.map Value.int) (.int 0)) :
    Ct l Z a0 EL0 n0 false true (⟨"com/example/lazuline/lazuline/PlainDecimalParsePinLaw", "acc", "([CIIJ)J"⟩ : MethodName) method_5_code 6 (Option.some Jvm.ClassFile.FieldType.long) cds ({ frames := 0, cells := 0, slots := 0, locals := 0 } : Room) [] #[(.ref b), (.int ii), (.int ti), (.long vv)] h0 (Q_acc Z n0 b kb ii ti z vv cs i t h0) := by
  refine Ct.of (plainFor_of_name pn_5) hEL ?_
  intro p e s m below meth c T0 W0 hret hnm hs0
  refine Go.cast (ef_RIIJ_6 m b ii ti vv) ?_
  show Go p e below _ T0 (mkF m 0 #[.val (.ref b), .val (.int ii), .val (.int ti), .val (.long vv), .second, .unset] [])
  have hit : ii < ti ↔ ¬ t ≤ i := ⟨fun q => by have := Int32.lt_iff_toInt_lt.mp q; omega, fun q => lt32 (by omega)⟩
  refine s_lloadN W0 d21_0 rfl (pc' := 1) rfl ?_
  refine s_lconst W0 d21_1 (v := (0 : Int64)) (by decide) (pc' := 2) rfl ?_
  refine s_lcmp W0 d21_2 (pc' := 3) rfl ?_
  refine s_iflt W0 d21_3 (by decide) (pc1 := 11) (by decide) (pc2 := 6) rfl ?_ ?_
  · intro q3
    refine s_lloadN W0 d21_11 rfl (pc' := 12) rfl ?_
    exact gRetJ W0 hret d21_12 (by decide) (by decide) ⟨by rw [show accF cs t i vv = _ from if_pos (Or.inl ((lw_lt _ _).mp q3))], rfl⟩
  · intro q3
    refine s_iloadN W0 d21_6 rfl (pc' := 7) rfl ?_
    refine s_iloadN W0 d21_7 rfl (pc' := 8) rfl ?_
    refine s_icmplt W0 d21_8 (by decide) (pc1 := 13) (by decide) (pc2 := 11) rfl ?_ ?_
    · intro q8
      refine s_aloadN W0 d21_13 rfl rfl (pc' := 14) rfl ?_
      refine s_iloadN W0 d21_14 rfl (pc' := 15) rfl ?_
      have il : i < cs.length := by have := hit.mp q8; omega
      have gd := getDj il
      have ei : ii.toNatClampNeg = i := by show ii.toInt.toNat = i; omega
      have hno : ¬ (vv < 0 ∨ t ≤ i) := fun q => q.elim (fun q => q3 ((lw_lt _ _).mpr q)) (hit.mp q8)
      refine gLdC W0 Vb ⟨nlt32 (by rw [zero32]; omega), lt32 (by omega)⟩ (v := .int (cs.getD i 0)) (by rw [ei, gd]; exact getD_map' _ _ _ il) d21_15 (pc' := 16) rfl ?_
      refine s_istore W0 d21_16 (l' := #[.val (.ref b), .val (.int ii), .val (.int ti), .val (.long vv), .second, .val (.int (cs.getD i 0))]) rfl (pc' := 18) rfl ?_
      refine s_iload W0 d21_18 rfl (pc' := 20) rfl ?_
      refine s_bipush W0 d21_20 (v := (48 : Int32)) (by decide) (pc' := 22) rfl ?_
      refine s_icmplt W0 d21_22 (by decide) (pc1 := 32) (by decide) (pc2 := 25) rfl ?_ ?_
      · intro q22
        refine s_ldcJ W0 (w_115 hw) d21_32 (pc' := 35) rfl ?_
        exact gRetJ W0 hret d21_35 (by decide) (by decide) ⟨by rw [show accF cs t i vv = _ from (if_neg hno).trans (if_pos (Or.inl q22))], rfl⟩
      · intro q22
        refine s_iload W0 d21_25 rfl (pc' := 27) rfl ?_
        refine s_bipush W0 d21_27 (v := (57 : Int32)) (by decide) (pc' := 29) rfl ?_
        refine s_icmple W0 d21_29 (by decide) (pc1 := 36) (by decide) (pc2 := 32) rfl ?_ ?_
        · intro q29
          refine s_lloadN W0 d21_36 rfl (pc' := 37) rfl ?_
          refine s_ldcJ W0 (w_82 hw) d21_37 (pc' := 40) rfl ?_
          refine s_lmul W0 d21_40 (pc' := 41) rfl ?_
          refine s_iload W0 d21_41 rfl (pc' := 43) rfl ?_
          refine s_bipush W0 d21_43 (v := (48 : Int32)) (by decide) (pc' := 45) rfl ?_
          refine s_isub W0 d21_45 (pc' := 46) rfl ?_
          refine s_i2l W0 d21_46 (pc' := 47) rfl ?_
          refine s_ladd W0 d21_47 (pc' := 48) rfl ?_
          exact gRetJ W0 hret d21_48 (by decide) (by decide) ⟨by rw [show accF cs t i vv = _ from (if_neg hno).trans (if_neg (fun q => q.elim q22 q29))], rfl⟩
        · intro q29
          refine s_ldcJ W0 (w_115 hw) d21_32 (pc' := 35) rfl ?_
          exact gRetJ W0 hret d21_35 (by decide) (by decide) ⟨by rw [show accF cs t i vv = _ from (if_neg hno).trans (if_pos (Or.inr q29))], rfl⟩
    · intro q8
      refine s_lloadN W0 d21_11 rfl (pc' := 12) rfl ?_
      exact gRetJ W0 hret d21_12 (by decide) (by decide) ⟨by rw [show accF cs t i vv = _ from if_pos (Or.inr (Classical.not_not.mp (fun r => q8 (hit.mpr r))))], rfl⟩
def accN (cs : List Int32) (t : Nat) : Nat → Nat → Int64 → Int64
  | 0, _, v => v
  | c + 1, i, v => accN cs t c (i + 1) (accF cs t i v)
theorem accF_stop {cs : List Int32} {t i : Nat} {v : Int64} (q : v < 0 ∨ t ≤ i) : accF cs t i v = v := if_pos q
theorem accN_stop {cs : List Int32} {t : Nat} : ∀ (c i : Nat) (v : Int64), (v < 0 ∨ t ≤ i) → accN cs t c i v = v
  | 0, _, _, _ => rfl
  | c + 1, i, v, q => by
    show accN cs t c (i + 1) (accF cs t i v) = v
    rw [accF_stop q]
    exact accN_stop c (i + 1) v (q.imp id (fun r => Nat.le_succ_of_le r))
theorem thr1 : ∀ d : Fin 10, (((-9223372036854775808 : Int64) + (Int32.ofNat d.val).toInt64) / (10 : Int64)).toInt < -1000000000 := by decide +kernel
theorem thr2 : ∀ d : Fin 10, (((-9223372036854775807 : Int64) + (Int32.ofNat d.val).toInt64) / (10 : Int64)).toInt < -1000000000 := by decide +kernel
theorem digit {ch : Int32} (h1 : ¬ ch < (48 : Int32)) (h2 : ¬ (57 : Int32) < ch) : ∃ d : Nat, d < 10 ∧ ch - (48 : Int32) = Int32.ofNat d := by
  have e1 : (48 : Int32).toInt = 48 := by decide
  have e2 : (57 : Int32).toInt = 57 := by decide
  have a1 : ¬ ch.toInt < 48 := fun q => h1 (lt32 (by omega))
  have a2 : ¬ 57 < ch.toInt := fun q => h2 (lt32 (by omega))
  have e3 := c_isub ch 48
  have e4 := rng32 (ch - 48)
  refine ⟨(ch.toInt - 48).toNat, by omega, eq32 ?_⟩
  rw [show (Int32.ofNat (ch.toInt - 48).toNat).toInt = _ from n32 (by omega)]
  omega
theorem nodigit {ch : Int32} (hb : 0 ≤ ch.toInt ∧ ch.toInt < 256) (q : ch < (48 : Int32) ∨ (57 : Int32) < ch) : ch - (48 : Int32) < 0 ∨ (9 : Int32) < ch - (48 : Int32) := by
  have e1 : (48 : Int32).toInt = 48 := by decide
  have e2 : (57 : Int32).toInt = 57 := by decide
  have e5 : (9 : Int32).toInt = 9 := by decide
  have e3 := c_isub ch 48
  have e4 := rng32 (ch - 48)
  rcases q with q | q
  · have := Int32.lt_iff_toInt_lt.mp q
    exact Or.inl (lt32 (by rw [zero32]; omega))
  · have := Int32.lt_iff_toInt_lt.mp q
    exact Or.inr (lt32 (by omega))
theorem small {cs : List Int32} {t : Nat} {least : Int64} (hl : least = (-9223372036854775808 : Int64) ∨ least = (-9223372036854775807 : Int64)) (hcs : ∀ i, 0 ≤ (cs.getD i 0).toInt ∧ (cs.getD i 0).toInt < 256) :
    ∀ (r c i : Nat) (A : Int64) (B : Int), r ≤ c → i + r = t → 0 ≤ A.toInt → A.toInt < B → B * 10 ^ r ≤ 1000000 → 1 ≤ B →
      (pl cs least r i (-A) = none ∧ accN cs t c i A < 0) ∨ (pl cs least r i (-A) = some (-(accN cs t c i A)) ∧ ¬ accN cs t c i A < 0)
  | 0, c, i, A, B, hc, hi, h0, hB, hB2, hB3 => by
    right
    have e : accN cs t c i A = A := accN_stop c i A (Or.inr (by omega))
    rw [e]
    have e0 : (0 : Int64).toInt = 0 := by decide
    exact ⟨rfl, fun q => by have := Int64.lt_iff_toInt_lt.mp q; omega⟩
  | r + 1, 0, i, A, B, hc, hi, h0, hB, hB2, hB3 => absurd hc (by omega)
  | r + 1, c + 1, i, A, B, hc, hi, h0, hB, hB2, hB3 => by
    have e0 : (0 : Int64).toInt = 0 := by decide
    have e10 : (10 : Int64).toInt = 10 := by decide
    have hB1 : B * 10 * 10 ^ r ≤ 1000000 := by rw [Int.mul_assoc, ← Int.pow_succ']; exact hB2
    have hp : (1 : Int) ≤ 10 ^ r := by have := Int.pow_pos (n := 10) (m := r) (by decide); omega
    have hB4 : B * 10 ≤ 1000000 := by
      have : B * 10 * 1 ≤ B * 10 * 10 ^ r := Int.mul_le_mul_of_nonneg_left hp (by omega)
      omega
    have nA : ¬ A < 0 := fun q => by have := Int64.lt_iff_toInt_lt.mp q; omega
    have hno : ¬ (A < 0 ∨ t ≤ i) := fun q => q.elim nA (by omega)
    by_cases hd : cs.getD i 0 < (48 : Int32) ∨ (57 : Int32) < cs.getD i 0
    · left
      have ea : accF cs t i A = (-1 : Int64) := (if_neg hno).trans (if_pos hd)
      have hm : (-1 : Int64) < 0 := by decide
      refine ⟨?_, ?_⟩
      · show (if _ then none else _) = none
        rw [if_pos ((nodigit (hcs i) hd).imp id (fun q => Or.inl q))]
      · show accN cs t c (i + 1) (accF cs t i A) < 0
        rw [ea, accN_stop c (i + 1) _ (Or.inl hm)]; exact hm
    · obtain ⟨d, hd10, ed⟩ := digit (fun q => hd (Or.inl q)) (fun q => hd (Or.inr q))
      have edi : (Int32.ofNat d).toInt = d := n32 (by omega)
      have edl : (Int32.ofNat d).toInt64.toInt = d := (c_i2l _).trans edi
      have ea : accF cs t i A = A * (10 : Int64) + (Int32.ofNat d).toInt64 := by rw [← ed]; exact (if_neg hno).trans (if_neg hd)
      have m1 := c_lmul A 10
      have m2 := rng64 (A * 10)
      have m3 := c_ladd (A * 10) (Int32.ofNat d).toInt64
      have m4 := rng64 (A * 10 + (Int32.ofNat d).toInt64)
      rw [e10] at m1
      have v1 : (A * 10).toInt = A.toInt * 10 := by omega
      have v2 : (A * 10 + (Int32.ofNat d).toInt64).toInt = A.toInt * 10 + d := by omega
      have n1 := c_lneg A
      have n2 := rng64 (-A)
      have v3 : (-A).toInt = -A.toInt := by omega
      have n3 := c_lmul (-A) 10
      have n4 := rng64 (-A * 10)
      rw [e10] at n3
      have v4 : (-A * 10).toInt = -A.toInt * 10 := by omega
      have n5 := c_lsub (-A * 10) (Int32.ofNat d).toInt64
      have n6 := rng64 (-A * 10 - (Int32.ofNat d).toInt64)
      have n7 := c_lneg (A * 10 + (Int32.ofNat d).toInt64)
      have n8 := rng64 (-(A * 10 + (Int32.ofNat d).toInt64))
      have v5 : -A * 10 - (Int32.ofNat d).toInt64 = -(A * 10 + (Int32.ofNat d).toInt64) := Int64.toInt_inj.mp (by omega)
      have hthr : ¬ (-A < (least + (Int32.ofNat d).toInt64) / (10 : Int64)) := fun q => by
        have q' := Int64.lt_iff_toInt_lt.mp q
        rcases hl with rfl | rfl
        · have := thr1 ⟨d, hd10⟩; simp only at this; omega
        · have := thr2 ⟨d, hd10⟩; simp only at this; omega
      have hdl : ¬ (Int32.ofNat d < 0) := nlt32 (by rw [zero32]; omega)
      have e9 : (9 : Int32).toInt = 9 := by decide
      have hdg : ¬ ((9 : Int32) < Int32.ofNat d) := nlt32 (by omega)
      have epl : pl cs least (r + 1) i (-A) = pl cs least r (i + 1) (-(A * 10 + (Int32.ofNat d).toInt64)) := by
        show (if _ then none else _) = _
        rw [ed, if_neg (fun q => q.elim hdl (fun q => q.elim hdg hthr)), v5]
      rw [epl]
      have ean : accN cs t (c + 1) i A = accN cs t c (i + 1) (A * 10 + (Int32.ofNat d).toInt64) := by
        show accN cs t c (i + 1) (accF cs t i A) = _
        rw [ea]
      rw [ean]
      exact small hl hcs r c (i + 1) _ (B * 10) (by omega) (by omega) (by omega) (by omega) hB1 (by omega)
theorem small6 {cs : List Int32} {t i : Nat} (ng : Bool) (hcs : ∀ i, 0 ≤ (cs.getD i 0).toInt ∧ (cs.getD i 0).toInt < 256) (h1 : i ≤ t) (h2 : t ≤ i + 6) :
    (pl cs (if ng then (-9223372036854775808 : Int64) else (-9223372036854775807 : Int64)) (t - i) i 0 = none ∧ accN cs t 6 i 0 < 0) ∨ (pl cs (if ng then (-9223372036854775808 : Int64) else (-9223372036854775807 : Int64)) (t - i) i 0 = some (-(accN cs t 6 i 0)) ∧ ¬ accN cs t 6 i 0 < 0) := by
  have h := small (cs := cs) (t := t) (least := if ng then (-9223372036854775808 : Int64) else (-9223372036854775807 : Int64)) (by cases ng <;> simp) hcs (t - i) 6 i 0 1 (by omega) (by omega) (by decide) (by decide) ?_ (by decide)
  · exact h
  · have : t - i ≤ 6 := by omega
    rw [Int.one_mul]
    have : ∀ n : Fin 7, (10 : Int) ^ n.val ≤ 1000000 := by decide
    exact this ⟨t - i, by omega⟩
theorem pfE {cs : List Int32} {f t : Nat} (h : f = t) : parseF cs f t = none := (if_neg (fun q => by omega)).trans (if_pos h)
theorem pfN {cs : List Int32} {f t : Nat} (q : ¬ cs.getD f 0 = (45 : Int32)) : parseF cs f t = parseN cs f t false f := if_neg (fun r => q r.2)
theorem pfY {cs : List Int32} {f t : Nat} (h : f < t) (q : cs.getD f 0 = (45 : Int32)) : parseF cs f t = parseN cs f t true (f + 1) := if_pos ⟨h, q⟩
theorem pnB {cs : List Int32} {f t dg : Nat} {ng : Bool} (h : dg = t) : parseN cs f t ng dg = none := if_pos h
theorem pnC {cs : List Int32} {f t dg : Nat} {ng : Bool} (h : ¬ dg = t) (q : cs.getD dg 0 = (48 : Int32) ∧ 1 < t - f) : parseN cs f t ng dg = none := (if_neg h).trans (if_pos q)
theorem pnD {cs : List Int32} {f t dg : Nat} {ng : Bool} (h : ¬ dg = t) (q : ¬ (cs.getD dg 0 = (48 : Int32) ∧ 1 < t - f)) : parseN cs f t ng dg = (pl cs (if ng then (-9223372036854775808 : Int64) else (-9223372036854775807 : Int64)) (t - dg) dg 0).map fun x => if ng then x else -x := (if_neg h).trans (if_neg q)
theorem pnD0 {cs : List Int32} {f t dg : Nat} {ng : Bool} (hcs : ∀ i, 0 ≤ (cs.getD i 0).toInt ∧ (cs.getD i 0).toInt < 256) (h1 : dg ≤ t) (h2 : t ≤ dg + 6) (h : ¬ dg = t) (q : ¬ (cs.getD dg 0 = (48 : Int32) ∧ 1 < t - f)) (hv : accN cs t 6 dg 0 < 0) : parseN cs f t ng dg = none := by
  rw [pnD h q]
  rcases small6 (cs := cs) ng hcs h1 h2 with ⟨e, -⟩ | ⟨-, e⟩
  · rw [e]; rfl
  · exact absurd hv e
theorem pnD1 {cs : List Int32} {f t dg : Nat} {ng : Bool} (hcs : ∀ i, 0 ≤ (cs.getD i 0).toInt ∧ (cs.getD i 0).toInt < 256) (h1 : dg ≤ t) (h2 : t ≤ dg + 6) (h : ¬ dg = t) (q : ¬ (cs.getD dg 0 = (48 : Int32) ∧ 1 < t - f)) (hv : ¬ accN cs t 6 dg 0 < 0) : parseN cs f t ng dg = some (if ng then -(accN cs t 6 dg 0) else accN cs t 6 dg 0) := by
  rw [pnD h q]
  rcases small6 (cs := cs) ng hcs h1 h2 with ⟨-, e⟩ | ⟨e, -⟩
  · exact absurd e hv
  · rw [e]
    generalize accN cs t 6 dg 0 = V
    rw [Option.map_some]
    cases ng
    · rw [if_neg (by decide), if_neg (by decide), Int64.neg_neg]
    · rw [if_pos rfl, if_pos rfl]
theorem accN6 {cs : List Int32} {t b : Nat} {v0 v1 v2 v3 v4 v5 : Int64} (e0 : v0 = accF cs t b 0) (e1 : v1 = accF cs t (b + 1) v0) (e2 : v2 = accF cs t (b + 2) v1) (e3 : v3 = accF cs t (b + 3) v2) (e4 : v4 = accF cs t (b + 4) v3) (e5 : v5 = accF cs t (b + 5) v4) : v5 = accN cs t 6 b 0 := by
  have a : ∀ (c i : Nat) (v : Int64), accN cs t (c + 1) i v = accN cs t c (i + 1) (accF cs t i v) := fun _ _ _ => rfl
  rw [a 5 b 0, ← e0, a 4 (b + 1) v0, ← e1, a 3 (b + 1 + 1) v1, show accF cs t (b + 1 + 1) v1 = v2 from e2.symm, a 2 _ v2, show accF cs t (b + 1 + 1 + 1) v2 = v3 from e3.symm, a 1 _ v3, show accF cs t (b + 1 + 1 + 1 + 1) v3 = v4 from e4.symm, a 0 _ v4, show accF cs t (b + 1 + 1 + 1 + 1 + 1) v4 = v5 from e5.symm]
  rfl
theorem ltE64 {a b : Int64} (h : a = b) (q : a < 0) : b < 0 := h ▸ q
theorem nltE64 {a b : Int64} (h : a = b) (q : ¬ a < 0) : ¬ b < 0 := h ▸ q
theorem pnD1f {cs : List Int32} {f t dg : Nat} {va : Int64} (hcs : ∀ i, 0 ≤ (cs.getD i 0).toInt ∧ (cs.getD i 0).toInt < 256) (h1 : dg ≤ t) (h2 : t ≤ dg + 6) (h : ¬ dg = t) (q : ¬ (cs.getD dg 0 = (48 : Int32) ∧ 1 < t - f)) (hv : ¬ accN cs t 6 dg 0 < 0) (hva : va = accN cs t 6 dg 0) : parseN cs f t false dg = some va :=
  (pnD1 (ng := false) hcs h1 h2 h q hv).trans (congrArg some ((if_neg Bool.false_ne_true).trans hva.symm))
theorem pnD1t {cs : List Int32} {f t dg : Nat} {va : Int64} (hcs : ∀ i, 0 ≤ (cs.getD i 0).toInt ∧ (cs.getD i 0).toInt < 256) (h1 : dg ≤ t) (h2 : t ≤ dg + 6) (h : ¬ dg = t) (q : ¬ (cs.getD dg 0 = (48 : Int32) ∧ 1 < t - f)) (hv : ¬ accN cs t 6 dg 0 < 0) (hva : va = accN cs t 6 dg 0) : parseN cs f t true dg = some (-va) :=
  (pnD1 (ng := true) hcs h1 h2 h q hv).trans (congrArg some ((if_pos rfl).trans (congrArg (fun w : Int64 => -w) hva.symm)))
theorem fromL (x : Int32) : ∃ f : Nat, f < 7 ∧ (x &&& (255 : Int32)) % (7 : Int32) = Int32.ofNat f := by
  obtain ⟨n, h1, h2⟩ := and_nat x (k := 255) (by decide)
  refine ⟨n % 7, Nat.mod_lt _ (by decide), ?_⟩
  rw [show x &&& (255 : Int32) = Int32.ofNat n from h2]
  exact rem_nat (by omega) (by decide)
theorem seven {f : Nat} (hf : f < 7) : (7 : Int32) - Int32.ofNat f = Int32.ofNat (7 - f) := by
  have e1 := c_isub 7 (Int32.ofNat f)
  have e2 := rng32 (7 - Int32.ofNat f)
  have e3 : (7 : Int32).toInt = 7 := by decide
  have e4 : (Int32.ofNat f).toInt = f := ofN (by omega)
  exact eq32 (by rw [ofN (by omega)]; omega)
theorem nz7 {f : Nat} (hf : f < 7) : (7 : Int32) - Int32.ofNat f ≠ 0 := by
  rw [seven hf]; intro q
  have := congrArg Int32.toInt q
  rw [ofN (by omega), zero32] at this; omega
theorem toL (x : Int32) {f : Nat} (hf : f < 7) : ∃ t : Nat, f ≤ t ∧ t ≤ 6 ∧ Int32.ofNat f + ((x &&& (255 : Int32)) % ((7 : Int32) - Int32.ofNat f)) = Int32.ofNat t := by
  obtain ⟨n, h1, h2⟩ := and_nat x (k := 255) (by decide)
  have hm := Nat.mod_lt n (show 0 < 7 - f by omega)
  refine ⟨f + n % (7 - f), by omega, by omega, ?_⟩
  rw [show x &&& (255 : Int32) = Int32.ofNat n from h2, seven hf, rem_nat (by omega) (by omega)]
  exact ofN_add (by omega)
theorem getD6 {c1 c2 c3 c4 c5 c6 : Int32} (h : ∀ c ∈ [c1, c2, c3, c4, c5, c6], 0 ≤ c.toInt ∧ c.toInt < 256) (i : Nat) : 0 ≤ ([c1, c2, c3, c4, c5, c6].getD i 0).toInt ∧ ([c1, c2, c3, c4, c5, c6].getD i 0).toInt < 256 := by
  by_cases q : i < 6
  · rw [getDj (show i < [c1, c2, c3, c4, c5, c6].length from q)]; exact h _ (List.getElem_mem _)
  · rw [List.getD_eq_getElem?_getD, List.getElem?_eq_none (show [c1, c2, c3, c4, c5, c6].length ≤ i from by simp; omega)]; decide
theorem eqN {i j : Nat} (hi : i < 100) (hj : j < 100) : Int32.ofNat i = Int32.ofNat j ↔ i = j := ⟨fun q => by have := congrArg Int32.toInt q; rw [ofN (by omega), ofN (by omega)] at this; omega, fun q => by rw [q]⟩
theorem subN {f t : Nat} (h : f ≤ t) (ht : t < 100) : (1 : Int32) < Int32.ofNat t - Int32.ofNat f ↔ 1 < t - f := by
  have e1 := c_isub (Int32.ofNat t) (Int32.ofNat f)
  have e2 := rng32 (Int32.ofNat t - Int32.ofNat f)
  have e3 : (Int32.ofNat f).toInt = f := ofN (by omega)
  have e4 : (Int32.ofNat t).toInt = t := ofN (by omega)
  have e5 : (1 : Int32).toInt = 1 := by decide
  exact ⟨fun q => by have := Int32.lt_iff_toInt_lt.mp q; omega, fun q => lt32 (by omega)⟩
theorem addN {b : Nat} (hb : b < 100) : ∀ k : Fin 8, (Int32.ofNat b + Int32.ofNat k.val).toInt = ((b + k.val : Nat) : Int) := fun k => by
  rw [ofN_add (by omega)]; exact ofN (by omega)
def bigL (n1 n2 n3 : Nat) : List Int32 := [(45 : Int32), 57, 50, 50, 51, 51, 55, 50, 48, 51, 54, 56, 53, 52, 55, 55, 53, 56, 48 + Int32.ofNat n1, 48 + Int32.ofNat n2, 48 + Int32.ofNat n3, 53]
def kk (n1 n2 : Nat) : Int64 := (Int32.ofNat n1).toInt64 * (10 : Int64) + (Int32.ofNat n2).toInt64
theorem pl_add (cs : List Int32) (least : Int64) : ∀ (r s i : Nat) (n : Int64), pl cs least (r + s) i n = (pl cs least r i n).bind (fun m => pl cs least s (i + r) m)
  | 0, s, i, n => by rw [Nat.zero_add]; rfl
  | r + 1, s, i, n => by
    rw [Nat.succ_add]
    show (if _ then none else pl cs least (r + s) (i + 1) _) = Option.bind (if _ then none else pl cs least r (i + 1) _) _
    split
    · rfl
    · rw [pl_add cs least r s (i + 1), Nat.add_right_comm, Nat.add_assoc i r 1]
theorem pl_congr {cs cs' : List Int32} {least : Int64} : ∀ (r i : Nat) (n : Int64), (∀ j, i ≤ j → j < i + r → cs.getD j 0 = cs'.getD j 0) → pl cs least r i n = pl cs' least r i n
  | 0, _, _, _ => rfl
  | r + 1, i, n, h => by
    show (if _ then none else pl cs least r (i + 1) _) = (if _ then none else pl cs' least r (i + 1) _)
    rw [h i (Nat.le_refl _) (by omega), pl_congr r (i + 1) _ (fun j h1 h2 => h j (by omega) (by omega))]
theorem pre18 (n1 n2 n3 : Nat) : ∀ j, j < 18 → (bigL n1 n2 n3).getD j 0 = (bigL 0 0 0).getD j 0
  | 0, _ => rfl | 1, _ => rfl | 2, _ => rfl | 3, _ => rfl | 4, _ => rfl | 5, _ => rfl | 6, _ => rfl | 7, _ => rfl | 8, _ => rfl | 9, _ => rfl | 10, _ => rfl | 11, _ => rfl | 12, _ => rfl | 13, _ => rfl | 14, _ => rfl | 15, _ => rfl | 16, _ => rfl | 17, _ => rfl
  | n + 18, h => absurd h (by omega)
theorem pre20 (n1 n2 n3 : Nat) : ∀ j, 18 ≤ j → j < 20 → (bigL n1 n2 n3).getD j 0 = (bigL n1 n2 0).getD j 0 := fun j h1 h2 => by
  have : j = 18 ∨ j = 19 := by omega
  rcases this with rfl | rfl <;> rfl
theorem pre2 : pl (bigL 0 0 0) (-9223372036854775807 : Int64) 16 2 0 = some (-2233720368547758 : Int64) := by decide +kernel
theorem pre1 : pl (bigL 0 0 0) (-9223372036854775807 : Int64) 17 1 0 = some (-92233720368547758 : Int64) := by decide +kernel
theorem pre0 : pl (bigL 0 0 0) (-9223372036854775808 : Int64) 17 1 0 = some (-92233720368547758 : Int64) := by decide +kernel
theorem pl2 {n1 n2 n3 : Nat} {s : Nat} : pl (bigL n1 n2 n3) (-9223372036854775807 : Int64) (16 + s) 2 0 = pl (bigL n1 n2 n3) (-9223372036854775807 : Int64) s 18 (-2233720368547758 : Int64) := by
  rw [pl_add, pl_congr 16 2 0 (fun j _ h => pre18 n1 n2 n3 j (by omega)), pre2]; rfl
theorem pl1 {n1 n2 n3 : Nat} {s : Nat} : pl (bigL n1 n2 n3) (-9223372036854775807 : Int64) (17 + s) 1 0 = pl (bigL n1 n2 n3) (-9223372036854775807 : Int64) s 18 (-92233720368547758 : Int64) := by
  rw [pl_add, pl_congr 17 1 0 (fun j _ h => pre18 n1 n2 n3 j (by omega)), pre1]; rfl
theorem pl0 {n1 n2 n3 : Nat} {s : Nat} : pl (bigL n1 n2 n3) (-9223372036854775808 : Int64) (17 + s) 1 0 = pl (bigL n1 n2 n3) (-9223372036854775808 : Int64) s 18 (-92233720368547758 : Int64) := by
  rw [pl_add, pl_congr 17 1 0 (fun j _ h => pre18 n1 n2 n3 j (by omega)), pre0]; rfl
theorem end220 : ∀ n1 n2 : Fin 10, (pl (bigL n1 n2 0) (-9223372036854775807 : Int64) 2 18 (-2233720368547758 : Int64)).map (fun x => -x) = some ((223372036854775800 : Int64) + kk n1 n2) := by decide +kernel
theorem end221 : ∀ n1 n2 n3 : Fin 10, (pl (bigL n1 n2 n3) (-9223372036854775807 : Int64) 3 18 (-2233720368547758 : Int64)).map (fun x => -x) = some (((2233720368547758000 : Int64) + (kk n1 n2 * (10 : Int64))) + (Int32.ofNat n3).toInt64) := by decide +kernel
theorem end120 : ∀ n1 n2 : Fin 10, (pl (bigL n1 n2 0) (-9223372036854775807 : Int64) 2 18 (-92233720368547758 : Int64)).map (fun x => -x) = if (7 : Int64) < kk n1 n2 then none else some ((9223372036854775800 : Int64) + kk n1 n2) := by decide +kernel
theorem end121 : ∀ n1 n2 n3 : Fin 10, (pl (bigL n1 n2 n3) (-9223372036854775807 : Int64) 3 18 (-92233720368547758 : Int64)) = none := by decide +kernel
theorem end020 : ∀ n1 n2 : Fin 10, (pl (bigL n1 n2 0) (-9223372036854775808 : Int64) 2 18 (-92233720368547758 : Int64)).map (fun x => x) = if (8 : Int64) < kk n1 n2 then none else some ((-9223372036854775800 : Int64) - kk n1 n2) := by decide +kernel
theorem end021 : ∀ n1 n2 n3 : Fin 10, (pl (bigL n1 n2 n3) (-9223372036854775808 : Int64) 3 18 (-92233720368547758 : Int64)) = none := by decide +kernel
theorem bp2 (n1 n2 n3 t : Nat) (ht : ¬ 2 = t) : parseF (bigL n1 n2 n3) 2 t = (pl (bigL n1 n2 n3) (-9223372036854775807 : Int64) (t - 2) 2 0).map fun x => -x :=
  (pfN (cs := bigL n1 n2 n3) (f := 2) (show ¬ (50 : Int32) = 45 by decide)).trans (pnD ht (fun q => absurd (show (50 : Int32) = 48 from q.1) (by decide)))
theorem bp1 (n1 n2 n3 t : Nat) (ht : ¬ 1 = t) : parseF (bigL n1 n2 n3) 1 t = (pl (bigL n1 n2 n3) (-9223372036854775807 : Int64) (t - 1) 1 0).map fun x => -x :=
  (pfN (cs := bigL n1 n2 n3) (f := 1) (show ¬ (57 : Int32) = 45 by decide)).trans (pnD ht (fun q => absurd (show (57 : Int32) = 48 from q.1) (by decide)))
theorem bp0 (n1 n2 n3 t : Nat) (h0 : 0 < t) (ht : ¬ 1 = t) : parseF (bigL n1 n2 n3) 0 t = (pl (bigL n1 n2 n3) (-9223372036854775808 : Int64) (t - 1) 1 0).map fun x => x :=
  (pfY h0 rfl).trans (pnD ht (fun q => absurd (show (57 : Int32) = 48 from q.1) (by decide)))
theorem big220 (n1 n2 n3 : Fin 10) : parseF (bigL n1 n2 n3) 2 20 = some ((223372036854775800 : Int64) + kk n1 n2) := by
  rw [bp2 _ _ _ _ (by decide), show 20 - 2 = 16 + 2 from rfl, pl2, pl_congr 2 18 _ (fun j h1 h2 => pre20 n1 n2 n3 j h1 (by omega))]; exact end220 n1 n2
theorem big221 (n1 n2 n3 : Fin 10) : parseF (bigL n1 n2 n3) 2 21 = some (((2233720368547758000 : Int64) + (kk n1 n2 * (10 : Int64))) + (Int32.ofNat n3).toInt64) := by
  rw [bp2 _ _ _ _ (by decide), show 21 - 2 = 16 + 3 from rfl, pl2]; exact end221 n1 n2 n3
theorem big121 (n1 n2 n3 : Fin 10) : parseF (bigL n1 n2 n3) 1 21 = none := by
  rw [bp1 _ _ _ _ (by decide), show 21 - 1 = 17 + 3 from rfl, pl1, end121 n1 n2 n3]; rfl
theorem big021 (n1 n2 n3 : Fin 10) : parseF (bigL n1 n2 n3) 0 21 = none := by
  rw [bp0 _ _ _ _ (by decide) (by decide), show 21 - 1 = 17 + 3 from rfl, pl0, end021 n1 n2 n3]; rfl
theorem big120 (n1 n2 n3 : Fin 10) : parseF (bigL n1 n2 n3) 1 20 = if (7 : Int64) < kk n1 n2 then none else some ((9223372036854775800 : Int64) + kk n1 n2) := by
  rw [bp1 _ _ _ _ (by decide), show 20 - 1 = 17 + 2 from rfl, pl1, pl_congr 2 18 _ (fun j h1 h2 => pre20 n1 n2 n3 j h1 (by omega))]; exact end120 n1 n2
theorem big020 (n1 n2 n3 : Fin 10) : parseF (bigL n1 n2 n3) 0 20 = if (8 : Int64) < kk n1 n2 then none else some ((-9223372036854775800 : Int64) - kk n1 n2) := by
  rw [bp0 _ _ _ _ (by decide) (by decide), show 20 - 1 = 17 + 2 from rfl, pl0, pl_congr 2 18 _ (fun j h1 h2 => pre20 n1 n2 n3 j h1 (by omega))]; exact end020 n1 n2
theorem bigLat : ∀ n1 n2 n3 : Fin 10, ∀ c ∈ bigL n1 n2 n3, 0 ≤ c.toInt ∧ c.toInt < 256 := by decide +kernel
theorem chn : ∀ n : Fin 10, nar .char ((48 : Int32) + Int32.ofNat n.val).toUInt32.toUInt16.toUInt32.toInt32 = (48 : Int32) + Int32.ofNat n.val := by decide +kernel
theorem rem10 (x : Int32) : ∃ n : Nat, n < 10 ∧ (x &&& (2147483647 : Int32)) % (10 : Int32) = Int32.ofNat n := by
  obtain ⟨n, h1, h2⟩ := and_nat x (k := 2147483647) (by decide)
  refine ⟨n % 10, Nat.mod_lt _ (by decide), ?_⟩
  rw [show x &&& (2147483647 : Int32) = Int32.ofNat n from h2]
  exact rem_nat (by omega) (by decide)
theorem rem3 (x : Int32) : (x &&& (255 : Int32)) % (3 : Int32) = (0 : Int32) ∨ (x &&& (255 : Int32)) % (3 : Int32) = (1 : Int32) ∨ (x &&& (255 : Int32)) % (3 : Int32) = (2 : Int32) := by
  obtain ⟨n, h1, h2⟩ := and_nat x (k := 255) (by decide)
  rw [show x &&& (255 : Int32) = Int32.ofNat n from h2, show Int32.ofNat n % (3 : Int32) = Int32.ofNat (n % 3) from rem_nat (by omega) (by decide)]
  have := Nat.mod_lt n (show 0 < 3 by decide)
  have h : n % 3 = 0 ∨ n % 3 = 1 ∨ n % 3 = 2 := by omega
  rcases h with h | h | h <;> rw [h] <;> decide
theorem to2 (x : Int32) : (20 : Int32) + (x &&& (1 : Int32)) = (20 : Int32) ∨ (20 : Int32) + (x &&& (1 : Int32)) = (21 : Int32) := by
  obtain ⟨n, h1, h2⟩ := and_nat x (k := 1) (by decide)
  rw [show x &&& (1 : Int32) = Int32.ofNat n from h2]
  have h : n = 0 ∨ n = 1 := by omega
  rcases h with h | h <;> rw [h] <;> decide
def Q_big (Z : State) (n0 : Nat) (ba bb bc bw ccs : Int32) (fo : Value) (eo : Addr) (h0 : Heap) (v : Option Value) (h : Heap) : Prop := v = some (.int 1)
set_option maxRecDepth 65536 in
set_option maxHeartbeats 40000000 in
theorem ct_big {l : Launch} {Z : State} {a0 : Array Value} (hw : ∀ d ∈ tables_1, d.before a0 Z = true) (hEL : EW Z a0 EL0) {n0 : Nat} (cds : List Jvm.Cond) (ba bb bc bw ccs : Int32) (fo : Value) (eo : Addr) (h0 : Heap) (SCS : Sta Z Z.heap "java/lang/String" "COMPACT_STRINGS" "Z" (.int ccs)) (hccs : ¬ ccs = 0) (SFO : Sta Z Z.heap "jdk/internal/util/Preconditions" "SIOOBE_FORMATTER" "Ljava/util/function/BiFunction;" fo) (rfo : fo.isRef = true) (SEM : Sta Z Z.heap "java/util/OptionalLong" "EMPTY" "Ljava/util/OptionalLong;" (.ref eo)) (GEM : OLg Z Z.heap eo none) :
    Ct l Z a0 EL0 n0 false true (⟨"com/example/lazuline/lazuline/PlainDecimalParsePinLaw", "bigCase", "(IIII)Z"⟩ : MethodName) method_3_code 16 (Option.some Jvm.ClassFile.FieldType.boolean) cds ({ frames := 5, cells := 4, slots := 52, locals := 75 } : Room) [] #[(.int ba), (.int bb), (.int bc), (.int bw)] h0 (Q_big Z n0 ba bb bc bw ccs fo eo h0) := by
  refine Ct.of (plainFor_of_name pn_5) hEL ?_
  intro p e s m below meth c T0 W0 hret hnm hs0
  refine Go.cast (ef_IIII_16 m ba bb bc bw) ?_
  show Go p e below _ T0 (mkF m 0 #[.val (.int ba), .val (.int bb), .val (.int bc), .val (.int bw), .unset, .unset, .unset, .unset, .unset, .unset, .unset, .unset, .unset, .unset, .unset, .unset] [])
  refine s_iloadN W0 d17_0 rfl (pc' := 1) rfl ?_
  refine s_ldcI W0 (w_81 hw) d17_1 (pc' := 3) rfl ?_
  refine s_iand W0 d17_3 (pc' := 4) rfl ?_
  refine s_bipush W0 d17_4 (v := (10 : Int32)) (by decide) (pc' := 6) rfl ?_
  refine s_irem W0 d17_6 (by decide) (pc' := 7) rfl ?_
  obtain ⟨n1, l1, e1⟩ := rem10 ba
  rw [e1]
  refine s_istore W0 d17_7 (l' := #[.val (.int ba), .val (.int bb), .val (.int bc), .val (.int bw), .val (.int (Int32.ofNat n1)), .unset, .unset, .unset, .unset, .unset, .unset, .unset, .unset, .unset, .unset, .unset]) rfl (pc' := 9) rfl ?_
  refine s_iloadN W0 d17_9 rfl (pc' := 10) rfl ?_
  refine s_ldcI W0 (w_81 hw) d17_10 (pc' := 12) rfl ?_
  refine s_iand W0 d17_12 (pc' := 13) rfl ?_
  refine s_bipush W0 d17_13 (v := (10 : Int32)) (by decide) (pc' := 15) rfl ?_
  refine s_irem W0 d17_15 (by decide) (pc' := 16) rfl ?_
  obtain ⟨n2, l2, e2⟩ := rem10 bb
  rw [e2]
  refine s_istore W0 d17_16 (l' := #[.val (.int ba), .val (.int bb), .val (.int bc), .val (.int bw), .val (.int (Int32.ofNat n1)), .val (.int (Int32.ofNat n2)), .unset, .unset, .unset, .unset, .unset, .unset, .unset, .unset, .unset, .unset]) rfl (pc' := 18) rfl ?_
  refine s_iloadN W0 d17_18 rfl (pc' := 19) rfl ?_
  refine s_ldcI W0 (w_81 hw) d17_19 (pc' := 21) rfl ?_
  refine s_iand W0 d17_21 (pc' := 22) rfl ?_
  refine s_bipush W0 d17_22 (v := (10 : Int32)) (by decide) (pc' := 24) rfl ?_
  refine s_irem W0 d17_24 (by decide) (pc' := 25) rfl ?_
  obtain ⟨n3, l3, e3⟩ := rem10 bc
  rw [e3]
  refine s_istore W0 d17_25 (l' := #[.val (.int ba), .val (.int bb), .val (.int bc), .val (.int bw), .val (.int (Int32.ofNat n1)), .val (.int (Int32.ofNat n2)), .val (.int (Int32.ofNat n3)), .unset, .unset, .unset, .unset, .unset, .unset, .unset, .unset, .unset]) rfl (pc' := 27) rfl ?_
  refine s_bipush W0 d17_27 (v := (22 : Int32)) (by decide) (pc' := 29) rfl ?_
  refine gNewP (aty := .char) W0 (w_0 hw) (ad := "[C") (by decide +kernel) d17_29 (pc' := 31) rfl (by decide) (cap := 22) (by decide) (by decide) (by decide) (by decide) ?_
  intro T1 h1 b1 g1 W1 E1 ⟨k1, V1, A1⟩
  have z1 : h0.size ≤ h1.size := E1.1
  have lt_b1 := natlt A1.lt
  have gg1 := nateq g1
  have n0_b1 : n0 ≤ b1 := by have := W0.n0le; omega
  have Vp1 : Arv Z h1 b1 k1 .char (22 : Int32) [(.int (0 : Int32)), (.int (0 : Int32)), (.int (0 : Int32)), (.int (0 : Int32)), (.int (0 : Int32)), (.int (0 : Int32)), (.int (0 : Int32)), (.int (0 : Int32)), (.int (0 : Int32)), (.int (0 : Int32)), (.int (0 : Int32)), (.int (0 : Int32)), (.int (0 : Int32)), (.int (0 : Int32)), (.int (0 : Int32)), (.int (0 : Int32)), (.int (0 : Int32)), (.int (0 : Int32)), (.int (0 : Int32)), (.int (0 : Int32)), (.int (0 : Int32)), (.int (0 : Int32))] (.int (0 : Int32)) := Arv.pad V1 (pad_rep [] (.int (0 : Int32)) 22)
  refine s_astore W1 d17_31 rfl (l' := #[.val (.int ba), .val (.int bb), .val (.int bc), .val (.int bw), .val (.int (Int32.ofNat n1)), .val (.int (Int32.ofNat n2)), .val (.int (Int32.ofNat n3)), .val (.ref b1), .unset, .unset, .unset, .unset, .unset, .unset, .unset, .unset]) rfl (pc' := 33) rfl ?_
  refine s_aload W1 d17_33 rfl rfl (pc' := 35) rfl ?_
  refine s_iconst W1 d17_35 (v := (0 : Int32)) (by decide) (pc' := 36) rfl ?_
  refine s_bipush W1 d17_36 (v := (45 : Int32)) (by decide) (pc' := 38) rfl ?_
  refine gStC W1 n0_b1 Vp1 ⟨by decide, by decide⟩ (i := 0) (by decide) (show 0 < 22 by decide) d17_38 (pc' := 39) rfl ?_
  intro T2 h2 W2 K2 V2
  replace V2 : Arv Z h2 b1 k1 .char (22 : Int32) [(.int (nar .char (45 : Int32))), (.int (0 : Int32)), (.int (0 : Int32)), (.int (0 : Int32)), (.int (0 : Int32)), (.int (0 : Int32)), (.int (0 : Int32)), (.int (0 : Int32)), (.int (0 : Int32)), (.int (0 : Int32)), (.int (0 : Int32)), (.int (0 : Int32)), (.int (0 : Int32)), (.int (0 : Int32)), (.int (0 : Int32)), (.int (0 : Int32)), (.int (0 : Int32)), (.int (0 : Int32)), (.int (0 : Int32)), (.int (0 : Int32)), (.int (0 : Int32)), (.int (0 : Int32))] (.int (0 : Int32)) := V2
  have z2 : h1.size ≤ h2.size := K2.1
  refine s_aload W2 d17_39 rfl rfl (pc' := 41) rfl ?_
  refine s_iconst W2 d17_41 (v := (1 : Int32)) (by decide) (pc' := 42) rfl ?_
  refine s_bipush W2 d17_42 (v := (57 : Int32)) (by decide) (pc' := 44) rfl ?_
  refine gStC W2 n0_b1 V2 ⟨by decide, by decide⟩ (i := 1) (by decide) (show 1 < 22 by decide) d17_44 (pc' := 45) rfl ?_
  intro T3 h3 W3 K3 V3
  replace V3 : Arv Z h3 b1 k1 .char (22 : Int32) [(.int (nar .char (45 : Int32))), (.int (nar .char (57 : Int32))), (.int (0 : Int32)), (.int (0 : Int32)), (.int (0 : Int32)), (.int (0 : Int32)), (.int (0 : Int32)), (.int (0 : Int32)), (.int (0 : Int32)), (.int (0 : Int32)), (.int (0 : Int32)), (.int (0 : Int32)), (.int (0 : Int32)), (.int (0 : Int32)), (.int (0 : Int32)), (.int (0 : Int32)), (.int (0 : Int32)), (.int (0 : Int32)), (.int (0 : Int32)), (.int (0 : Int32)), (.int (0 : Int32)), (.int (0 : Int32))] (.int (0 : Int32)) := V3
  have z3 : h2.size ≤ h3.size := K3.1
  refine s_aload W3 d17_45 rfl rfl (pc' := 47) rfl ?_
  refine s_iconst W3 d17_47 (v := (2 : Int32)) (by decide) (pc' := 48) rfl ?_
  refine s_bipush W3 d17_48 (v := (50 : Int32)) (by decide) (pc' := 50) rfl ?_
  refine gStC W3 n0_b1 V3 ⟨by decide, by decide⟩ (i := 2) (by decide) (show 2 < 22 by decide) d17_50 (pc' := 51) rfl ?_
  intro T4 h4 W4 K4 V4
  replace V4 : Arv Z h4 b1 k1 .char (22 : Int32) [(.int (nar .char (45 : Int32))), (.int (nar .char (57 : Int32))), (.int (nar .char (50 : Int32))), (.int (0 : Int32)), (.int (0 : Int32)), (.int (0 : Int32)), (.int (0 : Int32)), (.int (0 : Int32)), (.int (0 : Int32)), (.int (0 : Int32)), (.int (0 : Int32)), (.int (0 : Int32)), (.int (0 : Int32)), (.int (0 : Int32)), (.int (0 : Int32)), (.int (0 : Int32)), (.int (0 : Int32)), (.int (0 : Int32)), (.int (0 : Int32)), (.int (0 : Int32)), (.int (0 : Int32)), (.int (0 : Int32))] (.int (0 : Int32)) := V4
  have z4 : h3.size ≤ h4.size := K4.1
  refine s_aload W4 d17_51 rfl rfl (pc' := 53) rfl ?_
  refine s_iconst W4 d17_53 (v := (3 : Int32)) (by decide) (pc' := 54) rfl ?_
  refine s_bipush W4 d17_54 (v := (50 : Int32)) (by decide) (pc' := 56) rfl ?_
  refine gStC W4 n0_b1 V4 ⟨by decide, by decide⟩ (i := 3) (by decide) (show 3 < 22 by decide) d17_56 (pc' := 57) rfl ?_
  intro T5 h5 W5 K5 V5
  replace V5 : Arv Z h5 b1 k1 .char (22 : Int32) [(.int (nar .char (45 : Int32))), (.int (nar .char (57 : Int32))), (.int (nar .char (50 : Int32))), (.int (nar .char (50 : Int32))), (.int (0 : Int32)), (.int (0 : Int32)), (.int (0 : Int32)), (.int (0 : Int32)), (.int (0 : Int32)), (.int (0 : Int32)), (.int (0 : Int32)), (.int (0 : Int32)), (.int (0 : Int32)), (.int (0 : Int32)), (.int (0 : Int32)), (.int (0 : Int32)), (.int (0 : Int32)), (.int (0 : Int32)), (.int (0 : Int32)), (.int (0 : Int32)), (.int (0 : Int32)), (.int (0 : Int32))] (.int (0 : Int32)) := V5
  have z5 : h4.size ≤ h5.size := K5.1
  refine s_aload W5 d17_57 rfl rfl (pc' := 59) rfl ?_
  refine s_iconst W5 d17_59 (v := (4 : Int32)) (by decide) (pc' := 60) rfl ?_
  refine s_bipush W5 d17_60 (v := (51 : Int32)) (by decide) (pc' := 62) rfl ?_
  refine gStC W5 n0_b1 V5 ⟨by decide, by decide⟩ (i := 4) (by decide) (show 4 < 22 by decide) d17_62 (pc' := 63) rfl ?_
  intro T6 h6 W6 K6 V6
  replace V6 : Arv Z h6 b1 k1 .char (22 : Int32) [(.int (nar .char (45 : Int32))), (.int (nar .char (57 : Int32))), (.int (nar .char (50 : Int32))), (.int (nar .char (50 : Int32))), (.int (nar .char (51 : Int32))), (.int (0 : Int32)), (.int (0 : Int32)), (.int (0 : Int32)), (.int (0 : Int32)), (.int (0 : Int32)), (.int (0 : Int32)), (.int (0 : Int32)), (.int (0 : Int32)), (.int (0 : Int32)), (.int (0 : Int32)), (.int (0 : Int32)), (.int (0 : Int32)), (.int (0 : Int32)), (.int (0 : Int32)), (.int (0 : Int32)), (.int (0 : Int32)), (.int (0 : Int32))] (.int (0 : Int32)) := V6
  have z6 : h5.size ≤ h6.size := K6.1
  refine s_aload W6 d17_63 rfl rfl (pc' := 65) rfl ?_
  refine s_iconst W6 d17_65 (v := (5 : Int32)) (by decide) (pc' := 66) rfl ?_
  refine s_bipush W6 d17_66 (v := (51 : Int32)) (by decide) (pc' := 68) rfl ?_
  refine gStC W6 n0_b1 V6 ⟨by decide, by decide⟩ (i := 5) (by decide) (show 5 < 22 by decide) d17_68 (pc' := 69) rfl ?_
  intro T7 h7 W7 K7 V7
  replace V7 : Arv Z h7 b1 k1 .char (22 : Int32) [(.int (nar .char (45 : Int32))), (.int (nar .char (57 : Int32))), (.int (nar .char (50 : Int32))), (.int (nar .char (50 : Int32))), (.int (nar .char (51 : Int32))), (.int (nar .char (51 : Int32))), (.int (0 : Int32)), (.int (0 : Int32)), (.int (0 : Int32)), (.int (0 : Int32)), (.int (0 : Int32)), (.int (0 : Int32)), (.int (0 : Int32)), (.int (0 : Int32)), (.int (0 : Int32)), (.int (0 : Int32)), (.int (0 : Int32)), (.int (0 : Int32)), (.int (0 : Int32)), (.int (0 : Int32)), (.int (0 : Int32)), (.int (0 : Int32))] (.int (0 : Int32)) := V7
  have z7 : h6.size ≤ h7.size := K7.1
  refine s_aload W7 d17_69 rfl rfl (pc' := 71) rfl ?_
  refine s_bipush W7 d17_71 (v := (6 : Int32)) (by decide) (pc' := 73) rfl ?_
  refine s_bipush W7 d17_73 (v := (55 : Int32)) (by decide) (pc' := 75) rfl ?_
  refine gStC W7 n0_b1 V7 ⟨by decide, by decide⟩ (i := 6) (by decide) (show 6 < 22 by decide) d17_75 (pc' := 76) rfl ?_
  intro T8 h8 W8 K8 V8
  replace V8 : Arv Z h8 b1 k1 .char (22 : Int32) [(.int (nar .char (45 : Int32))), (.int (nar .char (57 : Int32))), (.int (nar .char (50 : Int32))), (.int (nar .char (50 : Int32))), (.int (nar .char (51 : Int32))), (.int (nar .char (51 : Int32))), (.int (nar .char (55 : Int32))), (.int (0 : Int32)), (.int (0 : Int32)), (.int (0 : Int32)), (.int (0 : Int32)), (.int (0 : Int32)), (.int (0 : Int32)), (.int (0 : Int32)), (.int (0 : Int32)), (.int (0 : Int32)), (.int (0 : Int32)), (.int (0 : Int32)), (.int (0 : Int32)), (.int (0 : Int32)), (.int (0 : Int32)), (.int (0 : Int32))] (.int (0 : Int32)) := V8
  have z8 : h7.size ≤ h8.size := K8.1
  refine s_aload W8 d17_76 rfl rfl (pc' := 78) rfl ?_
  refine s_bipush W8 d17_78 (v := (7 : Int32)) (by decide) (pc' := 80) rfl ?_
  refine s_bipush W8 d17_80 (v := (50 : Int32)) (by decide) (pc' := 82) rfl ?_
  refine gStC W8 n0_b1 V8 ⟨by decide, by decide⟩ (i := 7) (by decide) (show 7 < 22 by decide) d17_82 (pc' := 83) rfl ?_
  intro T9 h9 W9 K9 V9
  replace V9 : Arv Z h9 b1 k1 .char (22 : Int32) [(.int (nar .char (45 : Int32))), (.int (nar .char (57 : Int32))), (.int (nar .char (50 : Int32))), (.int (nar .char (50 : Int32))), (.int (nar .char (51 : Int32))), (.int (nar .char (51 : Int32))), (.int (nar .char (55 : Int32))), (.int (nar .char (50 : Int32))), (.int (0 : Int32)), (.int (0 : Int32)), (.int (0 : Int32)), (.int (0 : Int32)), (.int (0 : Int32)), (.int (0 : Int32)), (.int (0 : Int32)), (.int (0 : Int32)), (.int (0 : Int32)), (.int (0 : Int32)), (.int (0 : Int32)), (.int (0 : Int32)), (.int (0 : Int32)), (.int (0 : Int32))] (.int (0 : Int32)) := V9
  have z9 : h8.size ≤ h9.size := K9.1
  refine s_aload W9 d17_83 rfl rfl (pc' := 85) rfl ?_
  refine s_bipush W9 d17_85 (v := (8 : Int32)) (by decide) (pc' := 87) rfl ?_
  refine s_bipush W9 d17_87 (v := (48 : Int32)) (by decide) (pc' := 89) rfl ?_
  refine gStC W9 n0_b1 V9 ⟨by decide, by decide⟩ (i := 8) (by decide) (show 8 < 22 by decide) d17_89 (pc' := 90) rfl ?_
  intro T10 h10 W10 K10 V10
  replace V10 : Arv Z h10 b1 k1 .char (22 : Int32) [(.int (nar .char (45 : Int32))), (.int (nar .char (57 : Int32))), (.int (nar .char (50 : Int32))), (.int (nar .char (50 : Int32))), (.int (nar .char (51 : Int32))), (.int (nar .char (51 : Int32))), (.int (nar .char (55 : Int32))), (.int (nar .char (50 : Int32))), (.int (nar .char (48 : Int32))), (.int (0 : Int32)), (.int (0 : Int32)), (.int (0 : Int32)), (.int (0 : Int32)), (.int (0 : Int32)), (.int (0 : Int32)), (.int (0 : Int32)), (.int (0 : Int32)), (.int (0 : Int32)), (.int (0 : Int32)), (.int (0 : Int32)), (.int (0 : Int32)), (.int (0 : Int32))] (.int (0 : Int32)) := V10
  have z10 : h9.size ≤ h10.size := K10.1
  refine s_aload W10 d17_90 rfl rfl (pc' := 92) rfl ?_
  refine s_bipush W10 d17_92 (v := (9 : Int32)) (by decide) (pc' := 94) rfl ?_
  refine s_bipush W10 d17_94 (v := (51 : Int32)) (by decide) (pc' := 96) rfl ?_
  refine gStC W10 n0_b1 V10 ⟨by decide, by decide⟩ (i := 9) (by decide) (show 9 < 22 by decide) d17_96 (pc' := 97) rfl ?_
  intro T11 h11 W11 K11 V11
  replace V11 : Arv Z h11 b1 k1 .char (22 : Int32) [(.int (nar .char (45 : Int32))), (.int (nar .char (57 : Int32))), (.int (nar .char (50 : Int32))), (.int (nar .char (50 : Int32))), (.int (nar .char (51 : Int32))), (.int (nar .char (51 : Int32))), (.int (nar .char (55 : Int32))), (.int (nar .char (50 : Int32))), (.int (nar .char (48 : Int32))), (.int (nar .char (51 : Int32))), (.int (0 : Int32)), (.int (0 : Int32)), (.int (0 : Int32)), (.int (0 : Int32)), (.int (0 : Int32)), (.int (0 : Int32)), (.int (0 : Int32)), (.int (0 : Int32)), (.int (0 : Int32)), (.int (0 : Int32)), (.int (0 : Int32)), (.int (0 : Int32))] (.int (0 : Int32)) := V11
  have z11 : h10.size ≤ h11.size := K11.1
  refine s_aload W11 d17_97 rfl rfl (pc' := 99) rfl ?_
  refine s_bipush W11 d17_99 (v := (10 : Int32)) (by decide) (pc' := 101) rfl ?_
  refine s_bipush W11 d17_101 (v := (54 : Int32)) (by decide) (pc' := 103) rfl ?_
  refine gStC W11 n0_b1 V11 ⟨by decide, by decide⟩ (i := 10) (by decide) (show 10 < 22 by decide) d17_103 (pc' := 104) rfl ?_
  intro T12 h12 W12 K12 V12
  replace V12 : Arv Z h12 b1 k1 .char (22 : Int32) [(.int (nar .char (45 : Int32))), (.int (nar .char (57 : Int32))), (.int (nar .char (50 : Int32))), (.int (nar .char (50 : Int32))), (.int (nar .char (51 : Int32))), (.int (nar .char (51 : Int32))), (.int (nar .char (55 : Int32))), (.int (nar .char (50 : Int32))), (.int (nar .char (48 : Int32))), (.int (nar .char (51 : Int32))), (.int (nar .char (54 : Int32))), (.int (0 : Int32)), (.int (0 : Int32)), (.int (0 : Int32)), (.int (0 : Int32)), (.int (0 : Int32)), (.int (0 : Int32)), (.int (0 : Int32)), (.int (0 : Int32)), (.int (0 : Int32)), (.int (0 : Int32)), (.int (0 : Int32))] (.int (0 : Int32)) := V12
  have z12 : h11.size ≤ h12.size := K12.1
  refine s_aload W12 d17_104 rfl rfl (pc' := 106) rfl ?_
  refine s_bipush W12 d17_106 (v := (11 : Int32)) (by decide) (pc' := 108) rfl ?_
  refine s_bipush W12 d17_108 (v := (56 : Int32)) (by decide) (pc' := 110) rfl ?_
  refine gStC W12 n0_b1 V12 ⟨by decide, by decide⟩ (i := 11) (by decide) (show 11 < 22 by decide) d17_110 (pc' := 111) rfl ?_
  intro T13 h13 W13 K13 V13
  replace V13 : Arv Z h13 b1 k1 .char (22 : Int32) [(.int (nar .char (45 : Int32))), (.int (nar .char (57 : Int32))), (.int (nar .char (50 : Int32))), (.int (nar .char (50 : Int32))), (.int (nar .char (51 : Int32))), (.int (nar .char (51 : Int32))), (.int (nar .char (55 : Int32))), (.int (nar .char (50 : Int32))), (.int (nar .char (48 : Int32))), (.int (nar .char (51 : Int32))), (.int (nar .char (54 : Int32))), (.int (nar .char (56 : Int32))), (.int (0 : Int32)), (.int (0 : Int32)), (.int (0 : Int32)), (.int (0 : Int32)), (.int (0 : Int32)), (.int (0 : Int32)), (.int (0 : Int32)), (.int (0 : Int32)), (.int (0 : Int32)), (.int (0 : Int32))] (.int (0 : Int32)) := V13
  have z13 : h12.size ≤ h13.size := K13.1
  refine s_aload W13 d17_111 rfl rfl (pc' := 113) rfl ?_
  refine s_bipush W13 d17_113 (v := (12 : Int32)) (by decide) (pc' := 115) rfl ?_
  refine s_bipush W13 d17_115 (v := (53 : Int32)) (by decide) (pc' := 117) rfl ?_
  refine gStC W13 n0_b1 V13 ⟨by decide, by decide⟩ (i := 12) (by decide) (show 12 < 22 by decide) d17_117 (pc' := 118) rfl ?_
  intro T14 h14 W14 K14 V14
  replace V14 : Arv Z h14 b1 k1 .char (22 : Int32) [(.int (nar .char (45 : Int32))), (.int (nar .char (57 : Int32))), (.int (nar .char (50 : Int32))), (.int (nar .char (50 : Int32))), (.int (nar .char (51 : Int32))), (.int (nar .char (51 : Int32))), (.int (nar .char (55 : Int32))), (.int (nar .char (50 : Int32))), (.int (nar .char (48 : Int32))), (.int (nar .char (51 : Int32))), (.int (nar .char (54 : Int32))), (.int (nar .char (56 : Int32))), (.int (nar .char (53 : Int32))), (.int (0 : Int32)), (.int (0 : Int32)), (.int (0 : Int32)), (.int (0 : Int32)), (.int (0 : Int32)), (.int (0 : Int32)), (.int (0 : Int32)), (.int (0 : Int32)), (.int (0 : Int32))] (.int (0 : Int32)) := V14
  have z14 : h13.size ≤ h14.size := K14.1
  refine s_aload W14 d17_118 rfl rfl (pc' := 120) rfl ?_
  refine s_bipush W14 d17_120 (v := (13 : Int32)) (by decide) (pc' := 122) rfl ?_
  refine s_bipush W14 d17_122 (v := (52 : Int32)) (by decide) (pc' := 124) rfl ?_
  refine gStC W14 n0_b1 V14 ⟨by decide, by decide⟩ (i := 13) (by decide) (show 13 < 22 by decide) d17_124 (pc' := 125) rfl ?_
  intro T15 h15 W15 K15 V15
  replace V15 : Arv Z h15 b1 k1 .char (22 : Int32) [(.int (nar .char (45 : Int32))), (.int (nar .char (57 : Int32))), (.int (nar .char (50 : Int32))), (.int (nar .char (50 : Int32))), (.int (nar .char (51 : Int32))), (.int (nar .char (51 : Int32))), (.int (nar .char (55 : Int32))), (.int (nar .char (50 : Int32))), (.int (nar .char (48 : Int32))), (.int (nar .char (51 : Int32))), (.int (nar .char (54 : Int32))), (.int (nar .char (56 : Int32))), (.int (nar .char (53 : Int32))), (.int (nar .char (52 : Int32))), (.int (0 : Int32)), (.int (0 : Int32)), (.int (0 : Int32)), (.int (0 : Int32)), (.int (0 : Int32)), (.int (0 : Int32)), (.int (0 : Int32)), (.int (0 : Int32))] (.int (0 : Int32)) := V15
  have z15 : h14.size ≤ h15.size := K15.1
  refine s_aload W15 d17_125 rfl rfl (pc' := 127) rfl ?_
  refine s_bipush W15 d17_127 (v := (14 : Int32)) (by decide) (pc' := 129) rfl ?_
  refine s_bipush W15 d17_129 (v := (55 : Int32)) (by decide) (pc' := 131) rfl ?_
  refine gStC W15 n0_b1 V15 ⟨by decide, by decide⟩ (i := 14) (by decide) (show 14 < 22 by decide) d17_131 (pc' := 132) rfl ?_
  intro T16 h16 W16 K16 V16
  replace V16 : Arv Z h16 b1 k1 .char (22 : Int32) [(.int (nar .char (45 : Int32))), (.int (nar .char (57 : Int32))), (.int (nar .char (50 : Int32))), (.int (nar .char (50 : Int32))), (.int (nar .char (51 : Int32))), (.int (nar .char (51 : Int32))), (.int (nar .char (55 : Int32))), (.int (nar .char (50 : Int32))), (.int (nar .char (48 : Int32))), (.int (nar .char (51 : Int32))), (.int (nar .char (54 : Int32))), (.int (nar .char (56 : Int32))), (.int (nar .char (53 : Int32))), (.int (nar .char (52 : Int32))), (.int (nar .char (55 : Int32))), (.int (0 : Int32)), (.int (0 : Int32)), (.int (0 : Int32)), (.int (0 : Int32)), (.int (0 : Int32)), (.int (0 : Int32)), (.int (0 : Int32))] (.int (0 : Int32)) := V16
  have z16 : h15.size ≤ h16.size := K16.1
  refine s_aload W16 d17_132 rfl rfl (pc' := 134) rfl ?_
  refine s_bipush W16 d17_134 (v := (15 : Int32)) (by decide) (pc' := 136) rfl ?_
  refine s_bipush W16 d17_136 (v := (55 : Int32)) (by decide) (pc' := 138) rfl ?_
  refine gStC W16 n0_b1 V16 ⟨by decide, by decide⟩ (i := 15) (by decide) (show 15 < 22 by decide) d17_138 (pc' := 139) rfl ?_
  intro T17 h17 W17 K17 V17
  replace V17 : Arv Z h17 b1 k1 .char (22 : Int32) [(.int (nar .char (45 : Int32))), (.int (nar .char (57 : Int32))), (.int (nar .char (50 : Int32))), (.int (nar .char (50 : Int32))), (.int (nar .char (51 : Int32))), (.int (nar .char (51 : Int32))), (.int (nar .char (55 : Int32))), (.int (nar .char (50 : Int32))), (.int (nar .char (48 : Int32))), (.int (nar .char (51 : Int32))), (.int (nar .char (54 : Int32))), (.int (nar .char (56 : Int32))), (.int (nar .char (53 : Int32))), (.int (nar .char (52 : Int32))), (.int (nar .char (55 : Int32))), (.int (nar .char (55 : Int32))), (.int (0 : Int32)), (.int (0 : Int32)), (.int (0 : Int32)), (.int (0 : Int32)), (.int (0 : Int32)), (.int (0 : Int32))] (.int (0 : Int32)) := V17
  have z17 : h16.size ≤ h17.size := K17.1
  refine s_aload W17 d17_139 rfl rfl (pc' := 141) rfl ?_
  refine s_bipush W17 d17_141 (v := (16 : Int32)) (by decide) (pc' := 143) rfl ?_
  refine s_bipush W17 d17_143 (v := (53 : Int32)) (by decide) (pc' := 145) rfl ?_
  refine gStC W17 n0_b1 V17 ⟨by decide, by decide⟩ (i := 16) (by decide) (show 16 < 22 by decide) d17_145 (pc' := 146) rfl ?_
  intro T18 h18 W18 K18 V18
  replace V18 : Arv Z h18 b1 k1 .char (22 : Int32) [(.int (nar .char (45 : Int32))), (.int (nar .char (57 : Int32))), (.int (nar .char (50 : Int32))), (.int (nar .char (50 : Int32))), (.int (nar .char (51 : Int32))), (.int (nar .char (51 : Int32))), (.int (nar .char (55 : Int32))), (.int (nar .char (50 : Int32))), (.int (nar .char (48 : Int32))), (.int (nar .char (51 : Int32))), (.int (nar .char (54 : Int32))), (.int (nar .char (56 : Int32))), (.int (nar .char (53 : Int32))), (.int (nar .char (52 : Int32))), (.int (nar .char (55 : Int32))), (.int (nar .char (55 : Int32))), (.int (nar .char (53 : Int32))), (.int (0 : Int32)), (.int (0 : Int32)), (.int (0 : Int32)), (.int (0 : Int32)), (.int (0 : Int32))] (.int (0 : Int32)) := V18
  have z18 : h17.size ≤ h18.size := K18.1
  refine s_aload W18 d17_146 rfl rfl (pc' := 148) rfl ?_
  refine s_bipush W18 d17_148 (v := (17 : Int32)) (by decide) (pc' := 150) rfl ?_
  refine s_bipush W18 d17_150 (v := (56 : Int32)) (by decide) (pc' := 152) rfl ?_
  refine gStC W18 n0_b1 V18 ⟨by decide, by decide⟩ (i := 17) (by decide) (show 17 < 22 by decide) d17_152 (pc' := 153) rfl ?_
  intro T19 h19 W19 K19 V19
  replace V19 : Arv Z h19 b1 k1 .char (22 : Int32) [(.int (nar .char (45 : Int32))), (.int (nar .char (57 : Int32))), (.int (nar .char (50 : Int32))), (.int (nar .char (50 : Int32))), (.int (nar .char (51 : Int32))), (.int (nar .char (51 : Int32))), (.int (nar .char (55 : Int32))), (.int (nar .char (50 : Int32))), (.int (nar .char (48 : Int32))), (.int (nar .char (51 : Int32))), (.int (nar .char (54 : Int32))), (.int (nar .char (56 : Int32))), (.int (nar .char (53 : Int32))), (.int (nar .char (52 : Int32))), (.int (nar .char (55 : Int32))), (.int (nar .char (55 : Int32))), (.int (nar .char (53 : Int32))), (.int (nar .char (56 : Int32))), (.int (0 : Int32)), (.int (0 : Int32)), (.int (0 : Int32)), (.int (0 : Int32))] (.int (0 : Int32)) := V19
  have z19 : h18.size ≤ h19.size := K19.1
  refine s_aload W19 d17_153 rfl rfl (pc' := 155) rfl ?_
  refine s_bipush W19 d17_155 (v := (18 : Int32)) (by decide) (pc' := 157) rfl ?_
  refine s_bipush W19 d17_157 (v := (48 : Int32)) (by decide) (pc' := 159) rfl ?_
  refine s_iload W19 d17_159 rfl (pc' := 161) rfl ?_
  refine s_iadd W19 d17_161 (pc' := 162) rfl ?_
  refine s_i2c W19 d17_162 (pc' := 163) rfl ?_
  refine gStC W19 n0_b1 V19 ⟨by decide, by decide⟩ (i := 18) (by decide) (show 18 < 22 by decide) d17_163 (pc' := 164) rfl ?_
  intro T20 h20 W20 K20 V20
  replace V20 : Arv Z h20 b1 k1 .char (22 : Int32) [(.int (nar .char (45 : Int32))), (.int (nar .char (57 : Int32))), (.int (nar .char (50 : Int32))), (.int (nar .char (50 : Int32))), (.int (nar .char (51 : Int32))), (.int (nar .char (51 : Int32))), (.int (nar .char (55 : Int32))), (.int (nar .char (50 : Int32))), (.int (nar .char (48 : Int32))), (.int (nar .char (51 : Int32))), (.int (nar .char (54 : Int32))), (.int (nar .char (56 : Int32))), (.int (nar .char (53 : Int32))), (.int (nar .char (52 : Int32))), (.int (nar .char (55 : Int32))), (.int (nar .char (55 : Int32))), (.int (nar .char (53 : Int32))), (.int (nar .char (56 : Int32))), (.int (nar .char ((48 : Int32) + (Int32.ofNat n1)).toUInt32.toUInt16.toUInt32.toInt32)), (.int (0 : Int32)), (.int (0 : Int32)), (.int (0 : Int32))] (.int (0 : Int32)) := V20
  have z20 : h19.size ≤ h20.size := K20.1
  refine s_aload W20 d17_164 rfl rfl (pc' := 166) rfl ?_
  refine s_bipush W20 d17_166 (v := (19 : Int32)) (by decide) (pc' := 168) rfl ?_
  refine s_bipush W20 d17_168 (v := (48 : Int32)) (by decide) (pc' := 170) rfl ?_
  refine s_iload W20 d17_170 rfl (pc' := 172) rfl ?_
  refine s_iadd W20 d17_172 (pc' := 173) rfl ?_
  refine s_i2c W20 d17_173 (pc' := 174) rfl ?_
  refine gStC W20 n0_b1 V20 ⟨by decide, by decide⟩ (i := 19) (by decide) (show 19 < 22 by decide) d17_174 (pc' := 175) rfl ?_
  intro T21 h21 W21 K21 V21
  replace V21 : Arv Z h21 b1 k1 .char (22 : Int32) [(.int (nar .char (45 : Int32))), (.int (nar .char (57 : Int32))), (.int (nar .char (50 : Int32))), (.int (nar .char (50 : Int32))), (.int (nar .char (51 : Int32))), (.int (nar .char (51 : Int32))), (.int (nar .char (55 : Int32))), (.int (nar .char (50 : Int32))), (.int (nar .char (48 : Int32))), (.int (nar .char (51 : Int32))), (.int (nar .char (54 : Int32))), (.int (nar .char (56 : Int32))), (.int (nar .char (53 : Int32))), (.int (nar .char (52 : Int32))), (.int (nar .char (55 : Int32))), (.int (nar .char (55 : Int32))), (.int (nar .char (53 : Int32))), (.int (nar .char (56 : Int32))), (.int (nar .char ((48 : Int32) + (Int32.ofNat n1)).toUInt32.toUInt16.toUInt32.toInt32)), (.int (nar .char ((48 : Int32) + (Int32.ofNat n2)).toUInt32.toUInt16.toUInt32.toInt32)), (.int (0 : Int32)), (.int (0 : Int32))] (.int (0 : Int32)) := V21
  have z21 : h20.size ≤ h21.size := K21.1
  refine s_aload W21 d17_175 rfl rfl (pc' := 177) rfl ?_
  refine s_bipush W21 d17_177 (v := (20 : Int32)) (by decide) (pc' := 179) rfl ?_
  refine s_bipush W21 d17_179 (v := (48 : Int32)) (by decide) (pc' := 181) rfl ?_
  refine s_iload W21 d17_181 rfl (pc' := 183) rfl ?_
  refine s_iadd W21 d17_183 (pc' := 184) rfl ?_
  refine s_i2c W21 d17_184 (pc' := 185) rfl ?_
  refine gStC W21 n0_b1 V21 ⟨by decide, by decide⟩ (i := 20) (by decide) (show 20 < 22 by decide) d17_185 (pc' := 186) rfl ?_
  intro T22 h22 W22 K22 V22
  replace V22 : Arv Z h22 b1 k1 .char (22 : Int32) [(.int (nar .char (45 : Int32))), (.int (nar .char (57 : Int32))), (.int (nar .char (50 : Int32))), (.int (nar .char (50 : Int32))), (.int (nar .char (51 : Int32))), (.int (nar .char (51 : Int32))), (.int (nar .char (55 : Int32))), (.int (nar .char (50 : Int32))), (.int (nar .char (48 : Int32))), (.int (nar .char (51 : Int32))), (.int (nar .char (54 : Int32))), (.int (nar .char (56 : Int32))), (.int (nar .char (53 : Int32))), (.int (nar .char (52 : Int32))), (.int (nar .char (55 : Int32))), (.int (nar .char (55 : Int32))), (.int (nar .char (53 : Int32))), (.int (nar .char (56 : Int32))), (.int (nar .char ((48 : Int32) + (Int32.ofNat n1)).toUInt32.toUInt16.toUInt32.toInt32)), (.int (nar .char ((48 : Int32) + (Int32.ofNat n2)).toUInt32.toUInt16.toUInt32.toInt32)), (.int (nar .char ((48 : Int32) + (Int32.ofNat n3)).toUInt32.toUInt16.toUInt32.toInt32)), (.int (0 : Int32))] (.int (0 : Int32)) := V22
  have z22 : h21.size ≤ h22.size := K22.1
  refine s_aload W22 d17_186 rfl rfl (pc' := 188) rfl ?_
  refine s_bipush W22 d17_188 (v := (21 : Int32)) (by decide) (pc' := 190) rfl ?_
  refine s_bipush W22 d17_190 (v := (53 : Int32)) (by decide) (pc' := 192) rfl ?_
  refine gStC W22 n0_b1 V22 ⟨by decide, by decide⟩ (i := 21) (by decide) (show 21 < 22 by decide) d17_192 (pc' := 193) rfl ?_
  intro T23 h23 W23 K23 V23
  replace V23 : Arv Z h23 b1 k1 .char (22 : Int32) [(.int (nar .char (45 : Int32))), (.int (nar .char (57 : Int32))), (.int (nar .char (50 : Int32))), (.int (nar .char (50 : Int32))), (.int (nar .char (51 : Int32))), (.int (nar .char (51 : Int32))), (.int (nar .char (55 : Int32))), (.int (nar .char (50 : Int32))), (.int (nar .char (48 : Int32))), (.int (nar .char (51 : Int32))), (.int (nar .char (54 : Int32))), (.int (nar .char (56 : Int32))), (.int (nar .char (53 : Int32))), (.int (nar .char (52 : Int32))), (.int (nar .char (55 : Int32))), (.int (nar .char (55 : Int32))), (.int (nar .char (53 : Int32))), (.int (nar .char (56 : Int32))), (.int (nar .char ((48 : Int32) + (Int32.ofNat n1)).toUInt32.toUInt16.toUInt32.toInt32)), (.int (nar .char ((48 : Int32) + (Int32.ofNat n2)).toUInt32.toUInt16.toUInt32.toInt32)), (.int (nar .char ((48 : Int32) + (Int32.ofNat n3)).toUInt32.toUInt16.toUInt32.toInt32)), (.int (nar .char (53 : Int32)))] (.int (0 : Int32)) := V23
  have z23 : h22.size ≤ h23.size := K23.1
  refine s_iloadN W23 d17_193 rfl (pc' := 194) rfl ?_
  refine s_sipush W23 d17_194 (v := (255 : Int32)) (by decide) (pc' := 197) rfl ?_
  refine s_iand W23 d17_197 (pc' := 198) rfl ?_
  refine s_iconst W23 d17_198 (v := (3 : Int32)) (by decide) (pc' := 199) rfl ?_
  refine s_irem W23 d17_199 (by decide) (pc' := 200) rfl ?_
  rcases rem3 bw with ef | ef | ef
  · rw [ef]
    refine s_istore W23 d17_200 (l' := #[.val (.int ba), .val (.int bb), .val (.int bc), .val (.int bw), .val (.int (Int32.ofNat n1)), .val (.int (Int32.ofNat n2)), .val (.int (Int32.ofNat n3)), .val (.ref b1), .val (.int (0 : Int32)), .unset, .unset, .unset, .unset, .unset, .unset, .unset]) rfl (pc' := 202) rfl ?_
    refine s_bipush W23 d17_202 (v := (20 : Int32)) (by decide) (pc' := 204) rfl ?_
    refine s_iloadN W23 d17_204 rfl (pc' := 205) rfl ?_
    refine s_bipush W23 d17_205 (v := (8 : Int32)) (by decide) (pc' := 207) rfl ?_
    refine s_iushr W23 d17_207 (pc' := 208) rfl ?_
    refine s_iconst W23 d17_208 (v := (1 : Int32)) (by decide) (pc' := 209) rfl ?_
    refine s_iand W23 d17_209 (pc' := 210) rfl ?_
    refine s_iadd W23 d17_210 (pc' := 211) rfl ?_
    rcases to2 ((bw.toUInt32 >>> ((8 : Int32) &&& 31).toUInt32).toInt32) with et | et
    · rw [et]
      refine s_istore W23 d17_211 (l' := #[.val (.int ba), .val (.int bb), .val (.int bc), .val (.int bw), .val (.int (Int32.ofNat n1)), .val (.int (Int32.ofNat n2)), .val (.int (Int32.ofNat n3)), .val (.ref b1), .val (.int (0 : Int32)), .val (.int (20 : Int32)), .unset, .unset, .unset, .unset, .unset, .unset]) rfl (pc' := 213) rfl ?_
      refine s_iload W23 d17_213 rfl (pc' := 215) rfl ?_
      refine s_i2l W23 d17_215 (pc' := 216) rfl ?_
      refine s_ldcJ W23 (w_82 hw) d17_216 (pc' := 219) rfl ?_
      refine s_lmul W23 d17_219 (pc' := 220) rfl ?_
      refine s_iload W23 d17_220 rfl (pc' := 222) rfl ?_
      refine s_i2l W23 d17_222 (pc' := 223) rfl ?_
      refine s_ladd W23 d17_223 (pc' := 224) rfl ?_
      refine s_lstore W23 d17_224 (l' := #[.val (.int ba), .val (.int bb), .val (.int bc), .val (.int bw), .val (.int (Int32.ofNat n1)), .val (.int (Int32.ofNat n2)), .val (.int (Int32.ofNat n3)), .val (.ref b1), .val (.int (0 : Int32)), .val (.int (20 : Int32)), .val (.long (((Int32.ofNat n1).toInt64 * (10 : Int64)) + (Int32.ofNat n2).toInt64)), .second, .unset, .unset, .unset, .unset]) rfl (pc' := 226) rfl ?_
      refine s_lconst W23 d17_226 (v := (0 : Int64)) (by decide) (pc' := 227) rfl ?_
      refine s_lstore W23 d17_227 (l' := #[.val (.int ba), .val (.int bb), .val (.int bc), .val (.int bw), .val (.int (Int32.ofNat n1)), .val (.int (Int32.ofNat n2)), .val (.int (Int32.ofNat n3)), .val (.ref b1), .val (.int (0 : Int32)), .val (.int (20 : Int32)), .val (.long (((Int32.ofNat n1).toInt64 * (10 : Int64)) + (Int32.ofNat n2).toInt64)), .second, .unset, .val (.long (0 : Int64)), .second, .unset]) rfl (pc' := 229) rfl ?_
      refine s_iload W23 d17_229 rfl (pc' := 231) rfl ?_
      refine s_iconst W23 d17_231 (v := (2 : Int32)) (by decide) (pc' := 232) rfl ?_
      refine s_icmpne W23 d17_232 (by decide) (pc1 := 275) (by decide) (pc2 := 235) rfl ?_ (fun q => absurd q (by decide))
      intro q232
      refine s_iload W23 d17_275 rfl (pc' := 277) rfl ?_
      refine s_bipush W23 d17_277 (v := (21 : Int32)) (by decide) (pc' := 279) rfl ?_
      refine s_icmpne W23 d17_279 (by decide) (pc1 := 288) (by decide) (pc2 := 282) rfl ?_ (fun q => absurd q (by decide))
      intro q279
      refine s_iload W23 d17_288 rfl (pc' := 290) rfl ?_
      refine s_iconst W23 d17_290 (v := (1 : Int32)) (by decide) (pc' := 291) rfl ?_
      refine s_icmpne W23 d17_291 (by decide) (pc1 := 326) (by decide) (pc2 := 294) rfl ?_ (fun q => absurd q (by decide))
      intro q291
      refine s_lload W23 d17_326 rfl (pc' := 328) rfl ?_
      refine s_ldcJ W23 (w_117 hw) d17_328 (pc' := 331) rfl ?_
      refine s_lcmp W23 d17_331 (pc' := 332) rfl ?_
      refine s_ifgt W23 d17_332 (by decide) (pc1 := 339) (by decide) (pc2 := 335) rfl ?_ ?_
      · intro q332
        refine s_iconst W23 d17_339 (v := (0 : Int32)) (by decide) (pc' := 340) rfl ?_
        refine s_istore W23 d17_340 (l' := #[.val (.int ba), .val (.int bb), .val (.int bc), .val (.int bw), .val (.int (Int32.ofNat n1)), .val (.int (Int32.ofNat n2)), .val (.int (Int32.ofNat n3)), .val (.ref b1), .val (.int (0 : Int32)), .val (.int (20 : Int32)), .val (.long (((Int32.ofNat n1).toInt64 * (10 : Int64)) + (Int32.ofNat n2).toInt64)), .second, .val (.int (0 : Int32)), .val (.long (0 : Int64)), .second, .unset]) rfl (pc' := 342) rfl ?_
        refine s_iload W23 d17_342 rfl (pc' := 344) rfl ?_
        refine s_ifeq W23 d17_344 (by decide) (pc1 := 355) (by decide) (pc2 := 347) rfl ?_ (fun q => absurd q (by decide))
        intro q344
        refine gNew W23 (w_38 hw) (w_7 hw) (w_6 hw) d17_355 (pc' := 358) rfl (by decide) (by decide) ?_
        intro T24 h24 b24 g24 W24 E24 ⟨A24, D24, U24⟩
        have z24 : h23.size ≤ h24.size := E24.1
        have lt_b24 := natlt A24.lt
        have gg24 := nateq g24
        have n0_b24 : n0 ≤ b24 := by have := W23.n0le; omega
        have F24_value : Fld Z h24 b24 "java/lang/String" "value" "[B" .null := D24 (Or.inr (w_9 hw)) (ty := (.array .byte)) (by decide)
        have F24_coder : Fld Z h24 b24 "java/lang/String" "coder" "B" (.int (0 : Int32)) := D24 (Or.inr (w_10 hw)) (ty := .byte) (by decide)
        refine s_dup W24 d17_358 rfl (pc' := 359) rfl ?_
        refine s_aload W24 d17_359 rfl rfl (pc' := 361) rfl ?_
        have fx25 := (V23.ext E24)
        have Vx : Arv Z h24 b1 k1 .char (22 : Int32) ((bigL n1 n2 n3).map Value.int) (.int 0) := by
          have e1 := chn ⟨n1, l1⟩
          have e2 := chn ⟨n2, l2⟩
          have e3 := chn ⟨n3, l3⟩
          simp only at e1 e2 e3
          have V := fx25
          rw [e1, e2, e3] at V
          exact V
        refine gSpecial W24 rfl (w_39 hw) (w_40 hw) (w_6 hw) (w_41 hw) (by decide) pd_13 (ct_str1 hw hEL [] b24 b1 k1 (22 : Int32) ccs (bigL n1 n2 n3) h24 (show (22 : Int32).toInt = ((22 : Nat) : Int) by decide) (show 22 ≤ 24 by decide) (bigLat ⟨n1, l1⟩ ⟨n2, l2⟩ ⟨n3, l3⟩) Vx A24 F24_value F24_coder n0_b24 SCS hccs (by simp [bigL])) (fun x hx => by rcases List.mem_singleton.mp hx with rfl; exact List.mem_of_getElem? (i := 0) rfl) d17_361 (pc' := 364) rfl rfl (argsL := [(.ref b1)]) rfl rfl (rest := [(.ref b24)]) rfl (wt := 1) (Nat.le_of_eq rfl) (by decide) (by decide) (by decide) (by decide) ?_
        rintro v26 T26 h26 W26 z26 ⟨rfl, Ks, ds, ks, Ss, gs⟩
        show Go p e below _ T26 (mkF m 364 #[.val (.int ba), .val (.int bb), .val (.int bc), .val (.int bw), .val (.int (Int32.ofNat n1)), .val (.int (Int32.ofNat n2)), .val (.int (Int32.ofNat n3)), .val (.ref b1), .val (.int (0 : Int32)), .val (.int (20 : Int32)), .val (.long (((Int32.ofNat n1).toInt64 * (10 : Int64)) + (Int32.ofNat n2).toInt64)), .second, .val (.int (0 : Int32)), .val (.long (0 : Int64)), .second, .unset] [(.ref b24)])
        refine s_iload W26 d17_364 rfl (pc' := 366) rfl ?_
        refine s_iload W26 d17_366 rfl (pc' := 368) rfl ?_
        refine gStatic W26 (w_59 hw) (w_60 hw) (w_61 hw) (w_62 hw) (by decide) pd_14 (ct_parse hw hEL [] b24 ds ks (0 : Int32) (20 : Int32) (22 : Int32) ccs fo (bigL n1 n2 n3) 0 20 eo h26 (show (22 : Int32).toInt = ((22 : Nat) : Int) by decide) (bigLat ⟨n1, l1⟩ ⟨n2, l2⟩ ⟨n3, l3⟩) Ss (by decide) (by decide) (by decide) (show 20 ≤ 22 by decide) (show 22 ≤ 24 by decide) SCS hccs SFO rfo SEM GEM) (by simp) d17_368 (pc' := 371) rfl rfl (argsL := [(.ref b24), (.int (0 : Int32)), (.int (20 : Int32))]) rfl rfl (rest := []) rfl (wt := 0) (Nat.le_of_eq rfl) (by decide) (by decide) (by decide) (by decide) ?_
        rintro v27 T27 h27 W27 z27 ⟨ro, rfl, Kr, Gr⟩
        show Go p e below _ T27 (mkF m 371 #[.val (.int ba), .val (.int bb), .val (.int bc), .val (.int bw), .val (.int (Int32.ofNat n1)), .val (.int (Int32.ofNat n2)), .val (.int (Int32.ofNat n3)), .val (.ref b1), .val (.int (0 : Int32)), .val (.int (20 : Int32)), .val (.long (((Int32.ofNat n1).toInt64 * (10 : Int64)) + (Int32.ofNat n2).toInt64)), .second, .val (.int (0 : Int32)), .val (.long (0 : Int64)), .second, .unset] [(.ref ro)])
        refine s_astore W27 d17_371 rfl (l' := #[.val (.int ba), .val (.int bb), .val (.int bc), .val (.int bw), .val (.int (Int32.ofNat n1)), .val (.int (Int32.ofNat n2)), .val (.int (Int32.ofNat n3)), .val (.ref b1), .val (.int (0 : Int32)), .val (.int (20 : Int32)), .val (.long (((Int32.ofNat n1).toInt64 * (10 : Int64)) + (Int32.ofNat n2).toInt64)), .second, .val (.int (0 : Int32)), .val (.long (0 : Int64)), .second, .val (.ref ro)]) rfl (pc' := 373) rfl ?_
        refine s_aload W27 d17_373 rfl rfl (pc' := 375) rfl ?_
        refine s_iload W27 d17_375 rfl (pc' := 377) rfl ?_
        refine s_lload W27 d17_377 rfl (pc' := 379) rfl ?_
        refine gStatic W27 (w_68 hw) (w_69 hw) (w_3 hw) (w_70 hw) (by decide) pd_15 (ct_sam hw hEL [] ro (0 : Int32) (0 : Int64) (parseF (bigL n1 n2 n3) 0 20) h27 Gr (good0 ((big020 ⟨n1, l1⟩ ⟨n2, l2⟩ ⟨n3, l3⟩).trans (if_pos ((lw_gt _ _).mp q332))))) (by simp) d17_379 (pc' := 382) rfl rfl (argsL := [(.ref ro), (.int (0 : Int32)), (.long (0 : Int64))]) rfl rfl (rest := []) rfl (wt := 0) (Nat.le_of_eq rfl) (by decide) (by decide) (by decide) (by decide) ?_
        rintro v28 T28 h28 W28 z28 ⟨rfl, rfl⟩
        show Go p e below _ T28 (mkF m 382 #[.val (.int ba), .val (.int bb), .val (.int bc), .val (.int bw), .val (.int (Int32.ofNat n1)), .val (.int (Int32.ofNat n2)), .val (.int (Int32.ofNat n3)), .val (.ref b1), .val (.int (0 : Int32)), .val (.int (20 : Int32)), .val (.long (((Int32.ofNat n1).toInt64 * (10 : Int64)) + (Int32.ofNat n2).toInt64)), .second, .val (.int (0 : Int32)), .val (.long (0 : Int64)), .second, .val (.ref ro)] [(.int (1 : Int32))])
        exact gRetN W28 hret (by simp) d17_382 (by decide) (by decide) rfl
      · intro q332
        refine s_iconst W23 d17_335 (v := (1 : Int32)) (by decide) (pc' := 336) rfl ?_
        refine s_goto W23 d17_336 (by decide) (pc' := 340) (by decide) ?_
        refine s_istore W23 d17_340 (l' := #[.val (.int ba), .val (.int bb), .val (.int bc), .val (.int bw), .val (.int (Int32.ofNat n1)), .val (.int (Int32.ofNat n2)), .val (.int (Int32.ofNat n3)), .val (.ref b1), .val (.int (0 : Int32)), .val (.int (20 : Int32)), .val (.long (((Int32.ofNat n1).toInt64 * (10 : Int64)) + (Int32.ofNat n2).toInt64)), .second, .val (.int (1 : Int32)), .val (.long (0 : Int64)), .second, .unset]) rfl (pc' := 342) rfl ?_
        refine s_iload W23 d17_342 rfl (pc' := 344) rfl ?_
        refine s_ifeq W23 d17_344 (by decide) (pc1 := 355) (by decide) (pc2 := 347) rfl (fun q => absurd q (by decide)) ?_
        intro q344
        refine s_ldcJ W23 (w_119 hw) d17_347 (pc' := 350) rfl ?_
        refine s_lload W23 d17_350 rfl (pc' := 352) rfl ?_
        refine s_lsub W23 d17_352 (pc' := 353) rfl ?_
        refine s_lstore W23 d17_353 (l' := #[.val (.int ba), .val (.int bb), .val (.int bc), .val (.int bw), .val (.int (Int32.ofNat n1)), .val (.int (Int32.ofNat n2)), .val (.int (Int32.ofNat n3)), .val (.ref b1), .val (.int (0 : Int32)), .val (.int (20 : Int32)), .val (.long (((Int32.ofNat n1).toInt64 * (10 : Int64)) + (Int32.ofNat n2).toInt64)), .second, .val (.int (1 : Int32)), .val (.long ((-9223372036854775800 : Int64) - (((Int32.ofNat n1).toInt64 * (10 : Int64)) + (Int32.ofNat n2).toInt64))), .second, .unset]) rfl (pc' := 355) rfl ?_
        refine gNew W23 (w_38 hw) (w_7 hw) (w_6 hw) d17_355 (pc' := 358) rfl (by decide) (by decide) ?_
        intro T29 h29 b29 g29 W29 E29 ⟨A29, D29, U29⟩
        have z29 : h23.size ≤ h29.size := E29.1
        have lt_b29 := natlt A29.lt
        have gg29 := nateq g29
        have n0_b29 : n0 ≤ b29 := by have := W23.n0le; omega
        have F29_value : Fld Z h29 b29 "java/lang/String" "value" "[B" .null := D29 (Or.inr (w_9 hw)) (ty := (.array .byte)) (by decide)
        have F29_coder : Fld Z h29 b29 "java/lang/String" "coder" "B" (.int (0 : Int32)) := D29 (Or.inr (w_10 hw)) (ty := .byte) (by decide)
        refine s_dup W29 d17_358 rfl (pc' := 359) rfl ?_
        refine s_aload W29 d17_359 rfl rfl (pc' := 361) rfl ?_
        have fx30 := (V23.ext E29)
        have Vx : Arv Z h29 b1 k1 .char (22 : Int32) ((bigL n1 n2 n3).map Value.int) (.int 0) := by
          have e1 := chn ⟨n1, l1⟩
          have e2 := chn ⟨n2, l2⟩
          have e3 := chn ⟨n3, l3⟩
          simp only at e1 e2 e3
          have V := fx30
          rw [e1, e2, e3] at V
          exact V
        refine gSpecial W29 rfl (w_39 hw) (w_40 hw) (w_6 hw) (w_41 hw) (by decide) pd_13 (ct_str1 hw hEL [] b29 b1 k1 (22 : Int32) ccs (bigL n1 n2 n3) h29 (show (22 : Int32).toInt = ((22 : Nat) : Int) by decide) (show 22 ≤ 24 by decide) (bigLat ⟨n1, l1⟩ ⟨n2, l2⟩ ⟨n3, l3⟩) Vx A29 F29_value F29_coder n0_b29 SCS hccs (by simp [bigL])) (fun x hx => by rcases List.mem_singleton.mp hx with rfl; exact List.mem_of_getElem? (i := 0) rfl) d17_361 (pc' := 364) rfl rfl (argsL := [(.ref b1)]) rfl rfl (rest := [(.ref b29)]) rfl (wt := 1) (Nat.le_of_eq rfl) (by decide) (by decide) (by decide) (by decide) ?_
        rintro v31 T31 h31 W31 z31 ⟨rfl, Ks, ds, ks, Ss, gs⟩
        show Go p e below _ T31 (mkF m 364 #[.val (.int ba), .val (.int bb), .val (.int bc), .val (.int bw), .val (.int (Int32.ofNat n1)), .val (.int (Int32.ofNat n2)), .val (.int (Int32.ofNat n3)), .val (.ref b1), .val (.int (0 : Int32)), .val (.int (20 : Int32)), .val (.long (((Int32.ofNat n1).toInt64 * (10 : Int64)) + (Int32.ofNat n2).toInt64)), .second, .val (.int (1 : Int32)), .val (.long ((-9223372036854775800 : Int64) - (((Int32.ofNat n1).toInt64 * (10 : Int64)) + (Int32.ofNat n2).toInt64))), .second, .unset] [(.ref b29)])
        refine s_iload W31 d17_364 rfl (pc' := 366) rfl ?_
        refine s_iload W31 d17_366 rfl (pc' := 368) rfl ?_
        refine gStatic W31 (w_59 hw) (w_60 hw) (w_61 hw) (w_62 hw) (by decide) pd_14 (ct_parse hw hEL [] b29 ds ks (0 : Int32) (20 : Int32) (22 : Int32) ccs fo (bigL n1 n2 n3) 0 20 eo h31 (show (22 : Int32).toInt = ((22 : Nat) : Int) by decide) (bigLat ⟨n1, l1⟩ ⟨n2, l2⟩ ⟨n3, l3⟩) Ss (by decide) (by decide) (by decide) (show 20 ≤ 22 by decide) (show 22 ≤ 24 by decide) SCS hccs SFO rfo SEM GEM) (by simp) d17_368 (pc' := 371) rfl rfl (argsL := [(.ref b29), (.int (0 : Int32)), (.int (20 : Int32))]) rfl rfl (rest := []) rfl (wt := 0) (Nat.le_of_eq rfl) (by decide) (by decide) (by decide) (by decide) ?_
        rintro v32 T32 h32 W32 z32 ⟨ro, rfl, Kr, Gr⟩
        show Go p e below _ T32 (mkF m 371 #[.val (.int ba), .val (.int bb), .val (.int bc), .val (.int bw), .val (.int (Int32.ofNat n1)), .val (.int (Int32.ofNat n2)), .val (.int (Int32.ofNat n3)), .val (.ref b1), .val (.int (0 : Int32)), .val (.int (20 : Int32)), .val (.long (((Int32.ofNat n1).toInt64 * (10 : Int64)) + (Int32.ofNat n2).toInt64)), .second, .val (.int (1 : Int32)), .val (.long ((-9223372036854775800 : Int64) - (((Int32.ofNat n1).toInt64 * (10 : Int64)) + (Int32.ofNat n2).toInt64))), .second, .unset] [(.ref ro)])
        refine s_astore W32 d17_371 rfl (l' := #[.val (.int ba), .val (.int bb), .val (.int bc), .val (.int bw), .val (.int (Int32.ofNat n1)), .val (.int (Int32.ofNat n2)), .val (.int (Int32.ofNat n3)), .val (.ref b1), .val (.int (0 : Int32)), .val (.int (20 : Int32)), .val (.long (((Int32.ofNat n1).toInt64 * (10 : Int64)) + (Int32.ofNat n2).toInt64)), .second, .val (.int (1 : Int32)), .val (.long ((-9223372036854775800 : Int64) - (((Int32.ofNat n1).toInt64 * (10 : Int64)) + (Int32.ofNat n2).toInt64))), .second, .val (.ref ro)]) rfl (pc' := 373) rfl ?_
        refine s_aload W32 d17_373 rfl rfl (pc' := 375) rfl ?_
        refine s_iload W32 d17_375 rfl (pc' := 377) rfl ?_
        refine s_lload W32 d17_377 rfl (pc' := 379) rfl ?_
        refine gStatic W32 (w_68 hw) (w_69 hw) (w_3 hw) (w_70 hw) (by decide) pd_15 (ct_sam hw hEL [] ro (1 : Int32) ((-9223372036854775800 : Int64) - (((Int32.ofNat n1).toInt64 * (10 : Int64)) + (Int32.ofNat n2).toInt64)) (parseF (bigL n1 n2 n3) 0 20) h32 Gr (good1 ((big020 ⟨n1, l1⟩ ⟨n2, l2⟩ ⟨n3, l3⟩).trans (if_neg (fun r => q332 ((lw_gt _ _).mpr r)))))) (by simp) d17_379 (pc' := 382) rfl rfl (argsL := [(.ref ro), (.int (1 : Int32)), (.long ((-9223372036854775800 : Int64) - (((Int32.ofNat n1).toInt64 * (10 : Int64)) + (Int32.ofNat n2).toInt64)))]) rfl rfl (rest := []) rfl (wt := 0) (Nat.le_of_eq rfl) (by decide) (by decide) (by decide) (by decide) ?_
        rintro v33 T33 h33 W33 z33 ⟨rfl, rfl⟩
        show Go p e below _ T33 (mkF m 382 #[.val (.int ba), .val (.int bb), .val (.int bc), .val (.int bw), .val (.int (Int32.ofNat n1)), .val (.int (Int32.ofNat n2)), .val (.int (Int32.ofNat n3)), .val (.ref b1), .val (.int (0 : Int32)), .val (.int (20 : Int32)), .val (.long (((Int32.ofNat n1).toInt64 * (10 : Int64)) + (Int32.ofNat n2).toInt64)), .second, .val (.int (1 : Int32)), .val (.long ((-9223372036854775800 : Int64) - (((Int32.ofNat n1).toInt64 * (10 : Int64)) + (Int32.ofNat n2).toInt64))), .second, .val (.ref ro)] [(.int (1 : Int32))])
        exact gRetN W33 hret (by simp) d17_382 (by decide) (by decide) rfl
    · rw [et]
      refine s_istore W23 d17_211 (l' := #[.val (.int ba), .val (.int bb), .val (.int bc), .val (.int bw), .val (.int (Int32.ofNat n1)), .val (.int (Int32.ofNat n2)), .val (.int (Int32.ofNat n3)), .val (.ref b1), .val (.int (0 : Int32)), .val (.int (21 : Int32)), .unset, .unset, .unset, .unset, .unset, .unset]) rfl (pc' := 213) rfl ?_
      refine s_iload W23 d17_213 rfl (pc' := 215) rfl ?_
      refine s_i2l W23 d17_215 (pc' := 216) rfl ?_
      refine s_ldcJ W23 (w_82 hw) d17_216 (pc' := 219) rfl ?_
      refine s_lmul W23 d17_219 (pc' := 220) rfl ?_
      refine s_iload W23 d17_220 rfl (pc' := 222) rfl ?_
      refine s_i2l W23 d17_222 (pc' := 223) rfl ?_
      refine s_ladd W23 d17_223 (pc' := 224) rfl ?_
      refine s_lstore W23 d17_224 (l' := #[.val (.int ba), .val (.int bb), .val (.int bc), .val (.int bw), .val (.int (Int32.ofNat n1)), .val (.int (Int32.ofNat n2)), .val (.int (Int32.ofNat n3)), .val (.ref b1), .val (.int (0 : Int32)), .val (.int (21 : Int32)), .val (.long (((Int32.ofNat n1).toInt64 * (10 : Int64)) + (Int32.ofNat n2).toInt64)), .second, .unset, .unset, .unset, .unset]) rfl (pc' := 226) rfl ?_
      refine s_lconst W23 d17_226 (v := (0 : Int64)) (by decide) (pc' := 227) rfl ?_
      refine s_lstore W23 d17_227 (l' := #[.val (.int ba), .val (.int bb), .val (.int bc), .val (.int bw), .val (.int (Int32.ofNat n1)), .val (.int (Int32.ofNat n2)), .val (.int (Int32.ofNat n3)), .val (.ref b1), .val (.int (0 : Int32)), .val (.int (21 : Int32)), .val (.long (((Int32.ofNat n1).toInt64 * (10 : Int64)) + (Int32.ofNat n2).toInt64)), .second, .unset, .val (.long (0 : Int64)), .second, .unset]) rfl (pc' := 229) rfl ?_
      refine s_iload W23 d17_229 rfl (pc' := 231) rfl ?_
      refine s_iconst W23 d17_231 (v := (2 : Int32)) (by decide) (pc' := 232) rfl ?_
      refine s_icmpne W23 d17_232 (by decide) (pc1 := 275) (by decide) (pc2 := 235) rfl ?_ (fun q => absurd q (by decide))
      intro q232
      refine s_iload W23 d17_275 rfl (pc' := 277) rfl ?_
      refine s_bipush W23 d17_277 (v := (21 : Int32)) (by decide) (pc' := 279) rfl ?_
      refine s_icmpne W23 d17_279 (by decide) (pc1 := 288) (by decide) (pc2 := 282) rfl (fun q => absurd q (by decide)) ?_
      intro q279
      refine s_iconst W23 d17_282 (v := (0 : Int32)) (by decide) (pc' := 283) rfl ?_
      refine s_istore W23 d17_283 (l' := #[.val (.int ba), .val (.int bb), .val (.int bc), .val (.int bw), .val (.int (Int32.ofNat n1)), .val (.int (Int32.ofNat n2)), .val (.int (Int32.ofNat n3)), .val (.ref b1), .val (.int (0 : Int32)), .val (.int (21 : Int32)), .val (.long (((Int32.ofNat n1).toInt64 * (10 : Int64)) + (Int32.ofNat n2).toInt64)), .second, .val (.int (0 : Int32)), .val (.long (0 : Int64)), .second, .unset]) rfl (pc' := 285) rfl ?_
      refine s_goto W23 d17_285 (by decide) (pc' := 355) (by decide) ?_
      refine gNew W23 (w_38 hw) (w_7 hw) (w_6 hw) d17_355 (pc' := 358) rfl (by decide) (by decide) ?_
      intro T34 h34 b34 g34 W34 E34 ⟨A34, D34, U34⟩
      have z34 : h23.size ≤ h34.size := E34.1
      have lt_b34 := natlt A34.lt
      have gg34 := nateq g34
      have n0_b34 : n0 ≤ b34 := by have := W23.n0le; omega
      have F34_value : Fld Z h34 b34 "java/lang/String" "value" "[B" .null := D34 (Or.inr (w_9 hw)) (ty := (.array .byte)) (by decide)
      have F34_coder : Fld Z h34 b34 "java/lang/String" "coder" "B" (.int (0 : Int32)) := D34 (Or.inr (w_10 hw)) (ty := .byte) (by decide)
      refine s_dup W34 d17_358 rfl (pc' := 359) rfl ?_
      refine s_aload W34 d17_359 rfl rfl (pc' := 361) rfl ?_
      have fx35 := (V23.ext E34)
      have Vx : Arv Z h34 b1 k1 .char (22 : Int32) ((bigL n1 n2 n3).map Value.int) (.int 0) := by
        have e1 := chn ⟨n1, l1⟩
        have e2 := chn ⟨n2, l2⟩
        have e3 := chn ⟨n3, l3⟩
        simp only at e1 e2 e3
        have V := fx35
        rw [e1, e2, e3] at V
        exact V
      refine gSpecial W34 rfl (w_39 hw) (w_40 hw) (w_6 hw) (w_41 hw) (by decide) pd_13 (ct_str1 hw hEL [] b34 b1 k1 (22 : Int32) ccs (bigL n1 n2 n3) h34 (show (22 : Int32).toInt = ((22 : Nat) : Int) by decide) (show 22 ≤ 24 by decide) (bigLat ⟨n1, l1⟩ ⟨n2, l2⟩ ⟨n3, l3⟩) Vx A34 F34_value F34_coder n0_b34 SCS hccs (by simp [bigL])) (fun x hx => by rcases List.mem_singleton.mp hx with rfl; exact List.mem_of_getElem? (i := 0) rfl) d17_361 (pc' := 364) rfl rfl (argsL := [(.ref b1)]) rfl rfl (rest := [(.ref b34)]) rfl (wt := 1) (Nat.le_of_eq rfl) (by decide) (by decide) (by decide) (by decide) ?_
      rintro v36 T36 h36 W36 z36 ⟨rfl, Ks, ds, ks, Ss, gs⟩
      show Go p e below _ T36 (mkF m 364 #[.val (.int ba), .val (.int bb), .val (.int bc), .val (.int bw), .val (.int (Int32.ofNat n1)), .val (.int (Int32.ofNat n2)), .val (.int (Int32.ofNat n3)), .val (.ref b1), .val (.int (0 : Int32)), .val (.int (21 : Int32)), .val (.long (((Int32.ofNat n1).toInt64 * (10 : Int64)) + (Int32.ofNat n2).toInt64)), .second, .val (.int (0 : Int32)), .val (.long (0 : Int64)), .second, .unset] [(.ref b34)])
      refine s_iload W36 d17_364 rfl (pc' := 366) rfl ?_
      refine s_iload W36 d17_366 rfl (pc' := 368) rfl ?_
      refine gStatic W36 (w_59 hw) (w_60 hw) (w_61 hw) (w_62 hw) (by decide) pd_14 (ct_parse hw hEL [] b34 ds ks (0 : Int32) (21 : Int32) (22 : Int32) ccs fo (bigL n1 n2 n3) 0 21 eo h36 (show (22 : Int32).toInt = ((22 : Nat) : Int) by decide) (bigLat ⟨n1, l1⟩ ⟨n2, l2⟩ ⟨n3, l3⟩) Ss (by decide) (by decide) (by decide) (show 21 ≤ 22 by decide) (show 22 ≤ 24 by decide) SCS hccs SFO rfo SEM GEM) (by simp) d17_368 (pc' := 371) rfl rfl (argsL := [(.ref b34), (.int (0 : Int32)), (.int (21 : Int32))]) rfl rfl (rest := []) rfl (wt := 0) (Nat.le_of_eq rfl) (by decide) (by decide) (by decide) (by decide) ?_
      rintro v37 T37 h37 W37 z37 ⟨ro, rfl, Kr, Gr⟩
      show Go p e below _ T37 (mkF m 371 #[.val (.int ba), .val (.int bb), .val (.int bc), .val (.int bw), .val (.int (Int32.ofNat n1)), .val (.int (Int32.ofNat n2)), .val (.int (Int32.ofNat n3)), .val (.ref b1), .val (.int (0 : Int32)), .val (.int (21 : Int32)), .val (.long (((Int32.ofNat n1).toInt64 * (10 : Int64)) + (Int32.ofNat n2).toInt64)), .second, .val (.int (0 : Int32)), .val (.long (0 : Int64)), .second, .unset] [(.ref ro)])
      refine s_astore W37 d17_371 rfl (l' := #[.val (.int ba), .val (.int bb), .val (.int bc), .val (.int bw), .val (.int (Int32.ofNat n1)), .val (.int (Int32.ofNat n2)), .val (.int (Int32.ofNat n3)), .val (.ref b1), .val (.int (0 : Int32)), .val (.int (21 : Int32)), .val (.long (((Int32.ofNat n1).toInt64 * (10 : Int64)) + (Int32.ofNat n2).toInt64)), .second, .val (.int (0 : Int32)), .val (.long (0 : Int64)), .second, .val (.ref ro)]) rfl (pc' := 373) rfl ?_
      refine s_aload W37 d17_373 rfl rfl (pc' := 375) rfl ?_
      refine s_iload W37 d17_375 rfl (pc' := 377) rfl ?_
      refine s_lload W37 d17_377 rfl (pc' := 379) rfl ?_
      refine gStatic W37 (w_68 hw) (w_69 hw) (w_3 hw) (w_70 hw) (by decide) pd_15 (ct_sam hw hEL [] ro (0 : Int32) (0 : Int64) (parseF (bigL n1 n2 n3) 0 21) h37 Gr (good0 (big021 ⟨n1, l1⟩ ⟨n2, l2⟩ ⟨n3, l3⟩))) (by simp) d17_379 (pc' := 382) rfl rfl (argsL := [(.ref ro), (.int (0 : Int32)), (.long (0 : Int64))]) rfl rfl (rest := []) rfl (wt := 0) (Nat.le_of_eq rfl) (by decide) (by decide) (by decide) (by decide) ?_
      rintro v38 T38 h38 W38 z38 ⟨rfl, rfl⟩
      show Go p e below _ T38 (mkF m 382 #[.val (.int ba), .val (.int bb), .val (.int bc), .val (.int bw), .val (.int (Int32.ofNat n1)), .val (.int (Int32.ofNat n2)), .val (.int (Int32.ofNat n3)), .val (.ref b1), .val (.int (0 : Int32)), .val (.int (21 : Int32)), .val (.long (((Int32.ofNat n1).toInt64 * (10 : Int64)) + (Int32.ofNat n2).toInt64)), .second, .val (.int (0 : Int32)), .val (.long (0 : Int64)), .second, .val (.ref ro)] [(.int (1 : Int32))])
      exact gRetN W38 hret (by simp) d17_382 (by decide) (by decide) rfl
  · rw [ef]
    refine s_istore W23 d17_200 (l' := #[.val (.int ba), .val (.int bb), .val (.int bc), .val (.int bw), .val (.int (Int32.ofNat n1)), .val (.int (Int32.ofNat n2)), .val (.int (Int32.ofNat n3)), .val (.ref b1), .val (.int (1 : Int32)), .unset, .unset, .unset, .unset, .unset, .unset, .unset]) rfl (pc' := 202) rfl ?_
    refine s_bipush W23 d17_202 (v := (20 : Int32)) (by decide) (pc' := 204) rfl ?_
    refine s_iloadN W23 d17_204 rfl (pc' := 205) rfl ?_
    refine s_bipush W23 d17_205 (v := (8 : Int32)) (by decide) (pc' := 207) rfl ?_
    refine s_iushr W23 d17_207 (pc' := 208) rfl ?_
    refine s_iconst W23 d17_208 (v := (1 : Int32)) (by decide) (pc' := 209) rfl ?_
    refine s_iand W23 d17_209 (pc' := 210) rfl ?_
    refine s_iadd W23 d17_210 (pc' := 211) rfl ?_
    rcases to2 ((bw.toUInt32 >>> ((8 : Int32) &&& 31).toUInt32).toInt32) with et | et
    · rw [et]
      refine s_istore W23 d17_211 (l' := #[.val (.int ba), .val (.int bb), .val (.int bc), .val (.int bw), .val (.int (Int32.ofNat n1)), .val (.int (Int32.ofNat n2)), .val (.int (Int32.ofNat n3)), .val (.ref b1), .val (.int (1 : Int32)), .val (.int (20 : Int32)), .unset, .unset, .unset, .unset, .unset, .unset]) rfl (pc' := 213) rfl ?_
      refine s_iload W23 d17_213 rfl (pc' := 215) rfl ?_
      refine s_i2l W23 d17_215 (pc' := 216) rfl ?_
      refine s_ldcJ W23 (w_82 hw) d17_216 (pc' := 219) rfl ?_
      refine s_lmul W23 d17_219 (pc' := 220) rfl ?_
      refine s_iload W23 d17_220 rfl (pc' := 222) rfl ?_
      refine s_i2l W23 d17_222 (pc' := 223) rfl ?_
      refine s_ladd W23 d17_223 (pc' := 224) rfl ?_
      refine s_lstore W23 d17_224 (l' := #[.val (.int ba), .val (.int bb), .val (.int bc), .val (.int bw), .val (.int (Int32.ofNat n1)), .val (.int (Int32.ofNat n2)), .val (.int (Int32.ofNat n3)), .val (.ref b1), .val (.int (1 : Int32)), .val (.int (20 : Int32)), .val (.long (((Int32.ofNat n1).toInt64 * (10 : Int64)) + (Int32.ofNat n2).toInt64)), .second, .unset, .unset, .unset, .unset]) rfl (pc' := 226) rfl ?_
      refine s_lconst W23 d17_226 (v := (0 : Int64)) (by decide) (pc' := 227) rfl ?_
      refine s_lstore W23 d17_227 (l' := #[.val (.int ba), .val (.int bb), .val (.int bc), .val (.int bw), .val (.int (Int32.ofNat n1)), .val (.int (Int32.ofNat n2)), .val (.int (Int32.ofNat n3)), .val (.ref b1), .val (.int (1 : Int32)), .val (.int (20 : Int32)), .val (.long (((Int32.ofNat n1).toInt64 * (10 : Int64)) + (Int32.ofNat n2).toInt64)), .second, .unset, .val (.long (0 : Int64)), .second, .unset]) rfl (pc' := 229) rfl ?_
      refine s_iload W23 d17_229 rfl (pc' := 231) rfl ?_
      refine s_iconst W23 d17_231 (v := (2 : Int32)) (by decide) (pc' := 232) rfl ?_
      refine s_icmpne W23 d17_232 (by decide) (pc1 := 275) (by decide) (pc2 := 235) rfl ?_ (fun q => absurd q (by decide))
      intro q232
      refine s_iload W23 d17_275 rfl (pc' := 277) rfl ?_
      refine s_bipush W23 d17_277 (v := (21 : Int32)) (by decide) (pc' := 279) rfl ?_
      refine s_icmpne W23 d17_279 (by decide) (pc1 := 288) (by decide) (pc2 := 282) rfl ?_ (fun q => absurd q (by decide))
      intro q279
      refine s_iload W23 d17_288 rfl (pc' := 290) rfl ?_
      refine s_iconst W23 d17_290 (v := (1 : Int32)) (by decide) (pc' := 291) rfl ?_
      refine s_icmpne W23 d17_291 (by decide) (pc1 := 326) (by decide) (pc2 := 294) rfl (fun q => absurd q (by decide)) ?_
      intro q291
      refine s_lload W23 d17_294 rfl (pc' := 296) rfl ?_
      refine s_ldcJ W23 (w_111 hw) d17_296 (pc' := 299) rfl ?_
      refine s_lcmp W23 d17_299 (pc' := 300) rfl ?_
      refine s_ifgt W23 d17_300 (by decide) (pc1 := 307) (by decide) (pc2 := 303) rfl ?_ ?_
      · intro q300
        refine s_iconst W23 d17_307 (v := (0 : Int32)) (by decide) (pc' := 308) rfl ?_
        refine s_istore W23 d17_308 (l' := #[.val (.int ba), .val (.int bb), .val (.int bc), .val (.int bw), .val (.int (Int32.ofNat n1)), .val (.int (Int32.ofNat n2)), .val (.int (Int32.ofNat n3)), .val (.ref b1), .val (.int (1 : Int32)), .val (.int (20 : Int32)), .val (.long (((Int32.ofNat n1).toInt64 * (10 : Int64)) + (Int32.ofNat n2).toInt64)), .second, .val (.int (0 : Int32)), .val (.long (0 : Int64)), .second, .unset]) rfl (pc' := 310) rfl ?_
        refine s_iload W23 d17_310 rfl (pc' := 312) rfl ?_
        refine s_ifeq W23 d17_312 (by decide) (pc1 := 355) (by decide) (pc2 := 315) rfl ?_ (fun q => absurd q (by decide))
        intro q312
        refine gNew W23 (w_38 hw) (w_7 hw) (w_6 hw) d17_355 (pc' := 358) rfl (by decide) (by decide) ?_
        intro T39 h39 b39 g39 W39 E39 ⟨A39, D39, U39⟩
        have z39 : h23.size ≤ h39.size := E39.1
        have lt_b39 := natlt A39.lt
        have gg39 := nateq g39
        have n0_b39 : n0 ≤ b39 := by have := W23.n0le; omega
        have F39_value : Fld Z h39 b39 "java/lang/String" "value" "[B" .null := D39 (Or.inr (w_9 hw)) (ty := (.array .byte)) (by decide)
        have F39_coder : Fld Z h39 b39 "java/lang/String" "coder" "B" (.int (0 : Int32)) := D39 (Or.inr (w_10 hw)) (ty := .byte) (by decide)
        refine s_dup W39 d17_358 rfl (pc' := 359) rfl ?_
        refine s_aload W39 d17_359 rfl rfl (pc' := 361) rfl ?_
        have fx40 := (V23.ext E39)
        have Vx : Arv Z h39 b1 k1 .char (22 : Int32) ((bigL n1 n2 n3).map Value.int) (.int 0) := by
          have e1 := chn ⟨n1, l1⟩
          have e2 := chn ⟨n2, l2⟩
          have e3 := chn ⟨n3, l3⟩
          simp only at e1 e2 e3
          have V := fx40
          rw [e1, e2, e3] at V
          exact V
        refine gSpecial W39 rfl (w_39 hw) (w_40 hw) (w_6 hw) (w_41 hw) (by decide) pd_13 (ct_str1 hw hEL [] b39 b1 k1 (22 : Int32) ccs (bigL n1 n2 n3) h39 (show (22 : Int32).toInt = ((22 : Nat) : Int) by decide) (show 22 ≤ 24 by decide) (bigLat ⟨n1, l1⟩ ⟨n2, l2⟩ ⟨n3, l3⟩) Vx A39 F39_value F39_coder n0_b39 SCS hccs (by simp [bigL])) (fun x hx => by rcases List.mem_singleton.mp hx with rfl; exact List.mem_of_getElem? (i := 0) rfl) d17_361 (pc' := 364) rfl rfl (argsL := [(.ref b1)]) rfl rfl (rest := [(.ref b39)]) rfl (wt := 1) (Nat.le_of_eq rfl) (by decide) (by decide) (by decide) (by decide) ?_
        rintro v41 T41 h41 W41 z41 ⟨rfl, Ks, ds, ks, Ss, gs⟩
        show Go p e below _ T41 (mkF m 364 #[.val (.int ba), .val (.int bb), .val (.int bc), .val (.int bw), .val (.int (Int32.ofNat n1)), .val (.int (Int32.ofNat n2)), .val (.int (Int32.ofNat n3)), .val (.ref b1), .val (.int (1 : Int32)), .val (.int (20 : Int32)), .val (.long (((Int32.ofNat n1).toInt64 * (10 : Int64)) + (Int32.ofNat n2).toInt64)), .second, .val (.int (0 : Int32)), .val (.long (0 : Int64)), .second, .unset] [(.ref b39)])
        refine s_iload W41 d17_364 rfl (pc' := 366) rfl ?_
        refine s_iload W41 d17_366 rfl (pc' := 368) rfl ?_
        refine gStatic W41 (w_59 hw) (w_60 hw) (w_61 hw) (w_62 hw) (by decide) pd_14 (ct_parse hw hEL [] b39 ds ks (1 : Int32) (20 : Int32) (22 : Int32) ccs fo (bigL n1 n2 n3) 1 20 eo h41 (show (22 : Int32).toInt = ((22 : Nat) : Int) by decide) (bigLat ⟨n1, l1⟩ ⟨n2, l2⟩ ⟨n3, l3⟩) Ss (by decide) (by decide) (by decide) (show 20 ≤ 22 by decide) (show 22 ≤ 24 by decide) SCS hccs SFO rfo SEM GEM) (by simp) d17_368 (pc' := 371) rfl rfl (argsL := [(.ref b39), (.int (1 : Int32)), (.int (20 : Int32))]) rfl rfl (rest := []) rfl (wt := 0) (Nat.le_of_eq rfl) (by decide) (by decide) (by decide) (by decide) ?_
        rintro v42 T42 h42 W42 z42 ⟨ro, rfl, Kr, Gr⟩
        show Go p e below _ T42 (mkF m 371 #[.val (.int ba), .val (.int bb), .val (.int bc), .val (.int bw), .val (.int (Int32.ofNat n1)), .val (.int (Int32.ofNat n2)), .val (.int (Int32.ofNat n3)), .val (.ref b1), .val (.int (1 : Int32)), .val (.int (20 : Int32)), .val (.long (((Int32.ofNat n1).toInt64 * (10 : Int64)) + (Int32.ofNat n2).toInt64)), .second, .val (.int (0 : Int32)), .val (.long (0 : Int64)), .second, .unset] [(.ref ro)])
        refine s_astore W42 d17_371 rfl (l' := #[.val (.int ba), .val (.int bb), .val (.int bc), .val (.int bw), .val (.int (Int32.ofNat n1)), .val (.int (Int32.ofNat n2)), .val (.int (Int32.ofNat n3)), .val (.ref b1), .val (.int (1 : Int32)), .val (.int (20 : Int32)), .val (.long (((Int32.ofNat n1).toInt64 * (10 : Int64)) + (Int32.ofNat n2).toInt64)), .second, .val (.int (0 : Int32)), .val (.long (0 : Int64)), .second, .val (.ref ro)]) rfl (pc' := 373) rfl ?_
        refine s_aload W42 d17_373 rfl rfl (pc' := 375) rfl ?_
        refine s_iload W42 d17_375 rfl (pc' := 377) rfl ?_
        refine s_lload W42 d17_377 rfl (pc' := 379) rfl ?_
        refine gStatic W42 (w_68 hw) (w_69 hw) (w_3 hw) (w_70 hw) (by decide) pd_15 (ct_sam hw hEL [] ro (0 : Int32) (0 : Int64) (parseF (bigL n1 n2 n3) 1 20) h42 Gr (good0 ((big120 ⟨n1, l1⟩ ⟨n2, l2⟩ ⟨n3, l3⟩).trans (if_pos ((lw_gt _ _).mp q300))))) (by simp) d17_379 (pc' := 382) rfl rfl (argsL := [(.ref ro), (.int (0 : Int32)), (.long (0 : Int64))]) rfl rfl (rest := []) rfl (wt := 0) (Nat.le_of_eq rfl) (by decide) (by decide) (by decide) (by decide) ?_
        rintro v43 T43 h43 W43 z43 ⟨rfl, rfl⟩
        show Go p e below _ T43 (mkF m 382 #[.val (.int ba), .val (.int bb), .val (.int bc), .val (.int bw), .val (.int (Int32.ofNat n1)), .val (.int (Int32.ofNat n2)), .val (.int (Int32.ofNat n3)), .val (.ref b1), .val (.int (1 : Int32)), .val (.int (20 : Int32)), .val (.long (((Int32.ofNat n1).toInt64 * (10 : Int64)) + (Int32.ofNat n2).toInt64)), .second, .val (.int (0 : Int32)), .val (.long (0 : Int64)), .second, .val (.ref ro)] [(.int (1 : Int32))])
        exact gRetN W43 hret (by simp) d17_382 (by decide) (by decide) rfl
      · intro q300
        refine s_iconst W23 d17_303 (v := (1 : Int32)) (by decide) (pc' := 304) rfl ?_
        refine s_goto W23 d17_304 (by decide) (pc' := 308) (by decide) ?_
        refine s_istore W23 d17_308 (l' := #[.val (.int ba), .val (.int bb), .val (.int bc), .val (.int bw), .val (.int (Int32.ofNat n1)), .val (.int (Int32.ofNat n2)), .val (.int (Int32.ofNat n3)), .val (.ref b1), .val (.int (1 : Int32)), .val (.int (20 : Int32)), .val (.long (((Int32.ofNat n1).toInt64 * (10 : Int64)) + (Int32.ofNat n2).toInt64)), .second, .val (.int (1 : Int32)), .val (.long (0 : Int64)), .second, .unset]) rfl (pc' := 310) rfl ?_
        refine s_iload W23 d17_310 rfl (pc' := 312) rfl ?_
        refine s_ifeq W23 d17_312 (by decide) (pc1 := 355) (by decide) (pc2 := 315) rfl (fun q => absurd q (by decide)) ?_
        intro q312
        refine s_ldcJ W23 (w_118 hw) d17_315 (pc' := 318) rfl ?_
        refine s_lload W23 d17_318 rfl (pc' := 320) rfl ?_
        refine s_ladd W23 d17_320 (pc' := 321) rfl ?_
        refine s_lstore W23 d17_321 (l' := #[.val (.int ba), .val (.int bb), .val (.int bc), .val (.int bw), .val (.int (Int32.ofNat n1)), .val (.int (Int32.ofNat n2)), .val (.int (Int32.ofNat n3)), .val (.ref b1), .val (.int (1 : Int32)), .val (.int (20 : Int32)), .val (.long (((Int32.ofNat n1).toInt64 * (10 : Int64)) + (Int32.ofNat n2).toInt64)), .second, .val (.int (1 : Int32)), .val (.long ((9223372036854775800 : Int64) + (((Int32.ofNat n1).toInt64 * (10 : Int64)) + (Int32.ofNat n2).toInt64))), .second, .unset]) rfl (pc' := 323) rfl ?_
        refine s_goto W23 d17_323 (by decide) (pc' := 355) (by decide) ?_
        refine gNew W23 (w_38 hw) (w_7 hw) (w_6 hw) d17_355 (pc' := 358) rfl (by decide) (by decide) ?_
        intro T44 h44 b44 g44 W44 E44 ⟨A44, D44, U44⟩
        have z44 : h23.size ≤ h44.size := E44.1
        have lt_b44 := natlt A44.lt
        have gg44 := nateq g44
        have n0_b44 : n0 ≤ b44 := by have := W23.n0le; omega
        have F44_value : Fld Z h44 b44 "java/lang/String" "value" "[B" .null := D44 (Or.inr (w_9 hw)) (ty := (.array .byte)) (by decide)
        have F44_coder : Fld Z h44 b44 "java/lang/String" "coder" "B" (.int (0 : Int32)) := D44 (Or.inr (w_10 hw)) (ty := .byte) (by decide)
        refine s_dup W44 d17_358 rfl (pc' := 359) rfl ?_
        refine s_aload W44 d17_359 rfl rfl (pc' := 361) rfl ?_
        have fx45 := (V23.ext E44)
        have Vx : Arv Z h44 b1 k1 .char (22 : Int32) ((bigL n1 n2 n3).map Value.int) (.int 0) := by
          have e1 := chn ⟨n1, l1⟩
          have e2 := chn ⟨n2, l2⟩
          have e3 := chn ⟨n3, l3⟩
          simp only at e1 e2 e3
          have V := fx45
          rw [e1, e2, e3] at V
          exact V
        refine gSpecial W44 rfl (w_39 hw) (w_40 hw) (w_6 hw) (w_41 hw) (by decide) pd_13 (ct_str1 hw hEL [] b44 b1 k1 (22 : Int32) ccs (bigL n1 n2 n3) h44 (show (22 : Int32).toInt = ((22 : Nat) : Int) by decide) (show 22 ≤ 24 by decide) (bigLat ⟨n1, l1⟩ ⟨n2, l2⟩ ⟨n3, l3⟩) Vx A44 F44_value F44_coder n0_b44 SCS hccs (by simp [bigL])) (fun x hx => by rcases List.mem_singleton.mp hx with rfl; exact List.mem_of_getElem? (i := 0) rfl) d17_361 (pc' := 364) rfl rfl (argsL := [(.ref b1)]) rfl rfl (rest := [(.ref b44)]) rfl (wt := 1) (Nat.le_of_eq rfl) (by decide) (by decide) (by decide) (by decide) ?_
        rintro v46 T46 h46 W46 z46 ⟨rfl, Ks, ds, ks, Ss, gs⟩
        show Go p e below _ T46 (mkF m 364 #[.val (.int ba), .val (.int bb), .val (.int bc), .val (.int bw), .val (.int (Int32.ofNat n1)), .val (.int (Int32.ofNat n2)), .val (.int (Int32.ofNat n3)), .val (.ref b1), .val (.int (1 : Int32)), .val (.int (20 : Int32)), .val (.long (((Int32.ofNat n1).toInt64 * (10 : Int64)) + (Int32.ofNat n2).toInt64)), .second, .val (.int (1 : Int32)), .val (.long ((9223372036854775800 : Int64) + (((Int32.ofNat n1).toInt64 * (10 : Int64)) + (Int32.ofNat n2).toInt64))), .second, .unset] [(.ref b44)])
        refine s_iload W46 d17_364 rfl (pc' := 366) rfl ?_
        refine s_iload W46 d17_366 rfl (pc' := 368) rfl ?_
        refine gStatic W46 (w_59 hw) (w_60 hw) (w_61 hw) (w_62 hw) (by decide) pd_14 (ct_parse hw hEL [] b44 ds ks (1 : Int32) (20 : Int32) (22 : Int32) ccs fo (bigL n1 n2 n3) 1 20 eo h46 (show (22 : Int32).toInt = ((22 : Nat) : Int) by decide) (bigLat ⟨n1, l1⟩ ⟨n2, l2⟩ ⟨n3, l3⟩) Ss (by decide) (by decide) (by decide) (show 20 ≤ 22 by decide) (show 22 ≤ 24 by decide) SCS hccs SFO rfo SEM GEM) (by simp) d17_368 (pc' := 371) rfl rfl (argsL := [(.ref b44), (.int (1 : Int32)), (.int (20 : Int32))]) rfl rfl (rest := []) rfl (wt := 0) (Nat.le_of_eq rfl) (by decide) (by decide) (by decide) (by decide) ?_
        rintro v47 T47 h47 W47 z47 ⟨ro, rfl, Kr, Gr⟩
        show Go p e below _ T47 (mkF m 371 #[.val (.int ba), .val (.int bb), .val (.int bc), .val (.int bw), .val (.int (Int32.ofNat n1)), .val (.int (Int32.ofNat n2)), .val (.int (Int32.ofNat n3)), .val (.ref b1), .val (.int (1 : Int32)), .val (.int (20 : Int32)), .val (.long (((Int32.ofNat n1).toInt64 * (10 : Int64)) + (Int32.ofNat n2).toInt64)), .second, .val (.int (1 : Int32)), .val (.long ((9223372036854775800 : Int64) + (((Int32.ofNat n1).toInt64 * (10 : Int64)) + (Int32.ofNat n2).toInt64))), .second, .unset] [(.ref ro)])
        refine s_astore W47 d17_371 rfl (l' := #[.val (.int ba), .val (.int bb), .val (.int bc), .val (.int bw), .val (.int (Int32.ofNat n1)), .val (.int (Int32.ofNat n2)), .val (.int (Int32.ofNat n3)), .val (.ref b1), .val (.int (1 : Int32)), .val (.int (20 : Int32)), .val (.long (((Int32.ofNat n1).toInt64 * (10 : Int64)) + (Int32.ofNat n2).toInt64)), .second, .val (.int (1 : Int32)), .val (.long ((9223372036854775800 : Int64) + (((Int32.ofNat n1).toInt64 * (10 : Int64)) + (Int32.ofNat n2).toInt64))), .second, .val (.ref ro)]) rfl (pc' := 373) rfl ?_
        refine s_aload W47 d17_373 rfl rfl (pc' := 375) rfl ?_
        refine s_iload W47 d17_375 rfl (pc' := 377) rfl ?_
        refine s_lload W47 d17_377 rfl (pc' := 379) rfl ?_
        refine gStatic W47 (w_68 hw) (w_69 hw) (w_3 hw) (w_70 hw) (by decide) pd_15 (ct_sam hw hEL [] ro (1 : Int32) ((9223372036854775800 : Int64) + (((Int32.ofNat n1).toInt64 * (10 : Int64)) + (Int32.ofNat n2).toInt64)) (parseF (bigL n1 n2 n3) 1 20) h47 Gr (good1 ((big120 ⟨n1, l1⟩ ⟨n2, l2⟩ ⟨n3, l3⟩).trans (if_neg (fun r => q300 ((lw_gt _ _).mpr r)))))) (by simp) d17_379 (pc' := 382) rfl rfl (argsL := [(.ref ro), (.int (1 : Int32)), (.long ((9223372036854775800 : Int64) + (((Int32.ofNat n1).toInt64 * (10 : Int64)) + (Int32.ofNat n2).toInt64)))]) rfl rfl (rest := []) rfl (wt := 0) (Nat.le_of_eq rfl) (by decide) (by decide) (by decide) (by decide) ?_
        rintro v48 T48 h48 W48 z48 ⟨rfl, rfl⟩
        show Go p e below _ T48 (mkF m 382 #[.val (.int ba), .val (.int bb), .val (.int bc), .val (.int bw), .val (.int (Int32.ofNat n1)), .val (.int (Int32.ofNat n2)), .val (.int (Int32.ofNat n3)), .val (.ref b1), .val (.int (1 : Int32)), .val (.int (20 : Int32)), .val (.long (((Int32.ofNat n1).toInt64 * (10 : Int64)) + (Int32.ofNat n2).toInt64)), .second, .val (.int (1 : Int32)), .val (.long ((9223372036854775800 : Int64) + (((Int32.ofNat n1).toInt64 * (10 : Int64)) + (Int32.ofNat n2).toInt64))), .second, .val (.ref ro)] [(.int (1 : Int32))])
        exact gRetN W48 hret (by simp) d17_382 (by decide) (by decide) rfl
    · rw [et]
      refine s_istore W23 d17_211 (l' := #[.val (.int ba), .val (.int bb), .val (.int bc), .val (.int bw), .val (.int (Int32.ofNat n1)), .val (.int (Int32.ofNat n2)), .val (.int (Int32.ofNat n3)), .val (.ref b1), .val (.int (1 : Int32)), .val (.int (21 : Int32)), .unset, .unset, .unset, .unset, .unset, .unset]) rfl (pc' := 213) rfl ?_
      refine s_iload W23 d17_213 rfl (pc' := 215) rfl ?_
      refine s_i2l W23 d17_215 (pc' := 216) rfl ?_
      refine s_ldcJ W23 (w_82 hw) d17_216 (pc' := 219) rfl ?_
      refine s_lmul W23 d17_219 (pc' := 220) rfl ?_
      refine s_iload W23 d17_220 rfl (pc' := 222) rfl ?_
      refine s_i2l W23 d17_222 (pc' := 223) rfl ?_
      refine s_ladd W23 d17_223 (pc' := 224) rfl ?_
      refine s_lstore W23 d17_224 (l' := #[.val (.int ba), .val (.int bb), .val (.int bc), .val (.int bw), .val (.int (Int32.ofNat n1)), .val (.int (Int32.ofNat n2)), .val (.int (Int32.ofNat n3)), .val (.ref b1), .val (.int (1 : Int32)), .val (.int (21 : Int32)), .val (.long (((Int32.ofNat n1).toInt64 * (10 : Int64)) + (Int32.ofNat n2).toInt64)), .second, .unset, .unset, .unset, .unset]) rfl (pc' := 226) rfl ?_
      refine s_lconst W23 d17_226 (v := (0 : Int64)) (by decide) (pc' := 227) rfl ?_
      refine s_lstore W23 d17_227 (l' := #[.val (.int ba), .val (.int bb), .val (.int bc), .val (.int bw), .val (.int (Int32.ofNat n1)), .val (.int (Int32.ofNat n2)), .val (.int (Int32.ofNat n3)), .val (.ref b1), .val (.int (1 : Int32)), .val (.int (21 : Int32)), .val (.long (((Int32.ofNat n1).toInt64 * (10 : Int64)) + (Int32.ofNat n2).toInt64)), .second, .unset, .val (.long (0 : Int64)), .second, .unset]) rfl (pc' := 229) rfl ?_
      refine s_iload W23 d17_229 rfl (pc' := 231) rfl ?_
      refine s_iconst W23 d17_231 (v := (2 : Int32)) (by decide) (pc' := 232) rfl ?_
      refine s_icmpne W23 d17_232 (by decide) (pc1 := 275) (by decide) (pc2 := 235) rfl ?_ (fun q => absurd q (by decide))
      intro q232
      refine s_iload W23 d17_275 rfl (pc' := 277) rfl ?_
      refine s_bipush W23 d17_277 (v := (21 : Int32)) (by decide) (pc' := 279) rfl ?_
      refine s_icmpne W23 d17_279 (by decide) (pc1 := 288) (by decide) (pc2 := 282) rfl (fun q => absurd q (by decide)) ?_
      intro q279
      refine s_iconst W23 d17_282 (v := (0 : Int32)) (by decide) (pc' := 283) rfl ?_
      refine s_istore W23 d17_283 (l' := #[.val (.int ba), .val (.int bb), .val (.int bc), .val (.int bw), .val (.int (Int32.ofNat n1)), .val (.int (Int32.ofNat n2)), .val (.int (Int32.ofNat n3)), .val (.ref b1), .val (.int (1 : Int32)), .val (.int (21 : Int32)), .val (.long (((Int32.ofNat n1).toInt64 * (10 : Int64)) + (Int32.ofNat n2).toInt64)), .second, .val (.int (0 : Int32)), .val (.long (0 : Int64)), .second, .unset]) rfl (pc' := 285) rfl ?_
      refine s_goto W23 d17_285 (by decide) (pc' := 355) (by decide) ?_
      refine gNew W23 (w_38 hw) (w_7 hw) (w_6 hw) d17_355 (pc' := 358) rfl (by decide) (by decide) ?_
      intro T49 h49 b49 g49 W49 E49 ⟨A49, D49, U49⟩
      have z49 : h23.size ≤ h49.size := E49.1
      have lt_b49 := natlt A49.lt
      have gg49 := nateq g49
      have n0_b49 : n0 ≤ b49 := by have := W23.n0le; omega
      have F49_value : Fld Z h49 b49 "java/lang/String" "value" "[B" .null := D49 (Or.inr (w_9 hw)) (ty := (.array .byte)) (by decide)
      have F49_coder : Fld Z h49 b49 "java/lang/String" "coder" "B" (.int (0 : Int32)) := D49 (Or.inr (w_10 hw)) (ty := .byte) (by decide)
      refine s_dup W49 d17_358 rfl (pc' := 359) rfl ?_
      refine s_aload W49 d17_359 rfl rfl (pc' := 361) rfl ?_
      have fx50 := (V23.ext E49)
      have Vx : Arv Z h49 b1 k1 .char (22 : Int32) ((bigL n1 n2 n3).map Value.int) (.int 0) := by
        have e1 := chn ⟨n1, l1⟩
        have e2 := chn ⟨n2, l2⟩
        have e3 := chn ⟨n3, l3⟩
        simp only at e1 e2 e3
        have V := fx50
        rw [e1, e2, e3] at V
        exact V
      refine gSpecial W49 rfl (w_39 hw) (w_40 hw) (w_6 hw) (w_41 hw) (by decide) pd_13 (ct_str1 hw hEL [] b49 b1 k1 (22 : Int32) ccs (bigL n1 n2 n3) h49 (show (22 : Int32).toInt = ((22 : Nat) : Int) by decide) (show 22 ≤ 24 by decide) (bigLat ⟨n1, l1⟩ ⟨n2, l2⟩ ⟨n3, l3⟩) Vx A49 F49_value F49_coder n0_b49 SCS hccs (by simp [bigL])) (fun x hx => by rcases List.mem_singleton.mp hx with rfl; exact List.mem_of_getElem? (i := 0) rfl) d17_361 (pc' := 364) rfl rfl (argsL := [(.ref b1)]) rfl rfl (rest := [(.ref b49)]) rfl (wt := 1) (Nat.le_of_eq rfl) (by decide) (by decide) (by decide) (by decide) ?_
      rintro v51 T51 h51 W51 z51 ⟨rfl, Ks, ds, ks, Ss, gs⟩
      show Go p e below _ T51 (mkF m 364 #[.val (.int ba), .val (.int bb), .val (.int bc), .val (.int bw), .val (.int (Int32.ofNat n1)), .val (.int (Int32.ofNat n2)), .val (.int (Int32.ofNat n3)), .val (.ref b1), .val (.int (1 : Int32)), .val (.int (21 : Int32)), .val (.long (((Int32.ofNat n1).toInt64 * (10 : Int64)) + (Int32.ofNat n2).toInt64)), .second, .val (.int (0 : Int32)), .val (.long (0 : Int64)), .second, .unset] [(.ref b49)])
      refine s_iload W51 d17_364 rfl (pc' := 366) rfl ?_
      refine s_iload W51 d17_366 rfl (pc' := 368) rfl ?_
      refine gStatic W51 (w_59 hw) (w_60 hw) (w_61 hw) (w_62 hw) (by decide) pd_14 (ct_parse hw hEL [] b49 ds ks (1 : Int32) (21 : Int32) (22 : Int32) ccs fo (bigL n1 n2 n3) 1 21 eo h51 (show (22 : Int32).toInt = ((22 : Nat) : Int) by decide) (bigLat ⟨n1, l1⟩ ⟨n2, l2⟩ ⟨n3, l3⟩) Ss (by decide) (by decide) (by decide) (show 21 ≤ 22 by decide) (show 22 ≤ 24 by decide) SCS hccs SFO rfo SEM GEM) (by simp) d17_368 (pc' := 371) rfl rfl (argsL := [(.ref b49), (.int (1 : Int32)), (.int (21 : Int32))]) rfl rfl (rest := []) rfl (wt := 0) (Nat.le_of_eq rfl) (by decide) (by decide) (by decide) (by decide) ?_
      rintro v52 T52 h52 W52 z52 ⟨ro, rfl, Kr, Gr⟩
      show Go p e below _ T52 (mkF m 371 #[.val (.int ba), .val (.int bb), .val (.int bc), .val (.int bw), .val (.int (Int32.ofNat n1)), .val (.int (Int32.ofNat n2)), .val (.int (Int32.ofNat n3)), .val (.ref b1), .val (.int (1 : Int32)), .val (.int (21 : Int32)), .val (.long (((Int32.ofNat n1).toInt64 * (10 : Int64)) + (Int32.ofNat n2).toInt64)), .second, .val (.int (0 : Int32)), .val (.long (0 : Int64)), .second, .unset] [(.ref ro)])
      refine s_astore W52 d17_371 rfl (l' := #[.val (.int ba), .val (.int bb), .val (.int bc), .val (.int bw), .val (.int (Int32.ofNat n1)), .val (.int (Int32.ofNat n2)), .val (.int (Int32.ofNat n3)), .val (.ref b1), .val (.int (1 : Int32)), .val (.int (21 : Int32)), .val (.long (((Int32.ofNat n1).toInt64 * (10 : Int64)) + (Int32.ofNat n2).toInt64)), .second, .val (.int (0 : Int32)), .val (.long (0 : Int64)), .second, .val (.ref ro)]) rfl (pc' := 373) rfl ?_
      refine s_aload W52 d17_373 rfl rfl (pc' := 375) rfl ?_
      refine s_iload W52 d17_375 rfl (pc' := 377) rfl ?_
      refine s_lload W52 d17_377 rfl (pc' := 379) rfl ?_
      refine gStatic W52 (w_68 hw) (w_69 hw) (w_3 hw) (w_70 hw) (by decide) pd_15 (ct_sam hw hEL [] ro (0 : Int32) (0 : Int64) (parseF (bigL n1 n2 n3) 1 21) h52 Gr (good0 (big121 ⟨n1, l1⟩ ⟨n2, l2⟩ ⟨n3, l3⟩))) (by simp) d17_379 (pc' := 382) rfl rfl (argsL := [(.ref ro), (.int (0 : Int32)), (.long (0 : Int64))]) rfl rfl (rest := []) rfl (wt := 0) (Nat.le_of_eq rfl) (by decide) (by decide) (by decide) (by decide) ?_
      rintro v53 T53 h53 W53 z53 ⟨rfl, rfl⟩
      show Go p e below _ T53 (mkF m 382 #[.val (.int ba), .val (.int bb), .val (.int bc), .val (.int bw), .val (.int (Int32.ofNat n1)), .val (.int (Int32.ofNat n2)), .val (.int (Int32.ofNat n3)), .val (.ref b1), .val (.int (1 : Int32)), .val (.int (21 : Int32)), .val (.long (((Int32.ofNat n1).toInt64 * (10 : Int64)) + (Int32.ofNat n2).toInt64)), .second, .val (.int (0 : Int32)), .val (.long (0 : Int64)), .second, .val (.ref ro)] [(.int (1 : Int32))])
      exact gRetN W53 hret (by simp) d17_382 (by decide) (by decide) rfl
  · rw [ef]
    refine s_istore W23 d17_200 (l' := #[.val (.int ba), .val (.int bb), .val (.int bc), .val (.int bw), .val (.int (Int32.ofNat n1)), .val (.int (Int32.ofNat n2)), .val (.int (Int32.ofNat n3)), .val (.ref b1), .val (.int (2 : Int32)), .unset, .unset, .unset, .unset, .unset, .unset, .unset]) rfl (pc' := 202) rfl ?_
    refine s_bipush W23 d17_202 (v := (20 : Int32)) (by decide) (pc' := 204) rfl ?_
    refine s_iloadN W23 d17_204 rfl (pc' := 205) rfl ?_
    refine s_bipush W23 d17_205 (v := (8 : Int32)) (by decide) (pc' := 207) rfl ?_
    refine s_iushr W23 d17_207 (pc' := 208) rfl ?_
    refine s_iconst W23 d17_208 (v := (1 : Int32)) (by decide) (pc' := 209) rfl ?_
    refine s_iand W23 d17_209 (pc' := 210) rfl ?_
    refine s_iadd W23 d17_210 (pc' := 211) rfl ?_
    rcases to2 ((bw.toUInt32 >>> ((8 : Int32) &&& 31).toUInt32).toInt32) with et | et
    · rw [et]
      refine s_istore W23 d17_211 (l' := #[.val (.int ba), .val (.int bb), .val (.int bc), .val (.int bw), .val (.int (Int32.ofNat n1)), .val (.int (Int32.ofNat n2)), .val (.int (Int32.ofNat n3)), .val (.ref b1), .val (.int (2 : Int32)), .val (.int (20 : Int32)), .unset, .unset, .unset, .unset, .unset, .unset]) rfl (pc' := 213) rfl ?_
      refine s_iload W23 d17_213 rfl (pc' := 215) rfl ?_
      refine s_i2l W23 d17_215 (pc' := 216) rfl ?_
      refine s_ldcJ W23 (w_82 hw) d17_216 (pc' := 219) rfl ?_
      refine s_lmul W23 d17_219 (pc' := 220) rfl ?_
      refine s_iload W23 d17_220 rfl (pc' := 222) rfl ?_
      refine s_i2l W23 d17_222 (pc' := 223) rfl ?_
      refine s_ladd W23 d17_223 (pc' := 224) rfl ?_
      refine s_lstore W23 d17_224 (l' := #[.val (.int ba), .val (.int bb), .val (.int bc), .val (.int bw), .val (.int (Int32.ofNat n1)), .val (.int (Int32.ofNat n2)), .val (.int (Int32.ofNat n3)), .val (.ref b1), .val (.int (2 : Int32)), .val (.int (20 : Int32)), .val (.long (((Int32.ofNat n1).toInt64 * (10 : Int64)) + (Int32.ofNat n2).toInt64)), .second, .unset, .unset, .unset, .unset]) rfl (pc' := 226) rfl ?_
      refine s_lconst W23 d17_226 (v := (0 : Int64)) (by decide) (pc' := 227) rfl ?_
      refine s_lstore W23 d17_227 (l' := #[.val (.int ba), .val (.int bb), .val (.int bc), .val (.int bw), .val (.int (Int32.ofNat n1)), .val (.int (Int32.ofNat n2)), .val (.int (Int32.ofNat n3)), .val (.ref b1), .val (.int (2 : Int32)), .val (.int (20 : Int32)), .val (.long (((Int32.ofNat n1).toInt64 * (10 : Int64)) + (Int32.ofNat n2).toInt64)), .second, .unset, .val (.long (0 : Int64)), .second, .unset]) rfl (pc' := 229) rfl ?_
      refine s_iload W23 d17_229 rfl (pc' := 231) rfl ?_
      refine s_iconst W23 d17_231 (v := (2 : Int32)) (by decide) (pc' := 232) rfl ?_
      refine s_icmpne W23 d17_232 (by decide) (pc1 := 275) (by decide) (pc2 := 235) rfl (fun q => absurd q (by decide)) ?_
      intro q232
      refine s_iconst W23 d17_235 (v := (1 : Int32)) (by decide) (pc' := 236) rfl ?_
      refine s_istore W23 d17_236 (l' := #[.val (.int ba), .val (.int bb), .val (.int bc), .val (.int bw), .val (.int (Int32.ofNat n1)), .val (.int (Int32.ofNat n2)), .val (.int (Int32.ofNat n3)), .val (.ref b1), .val (.int (2 : Int32)), .val (.int (20 : Int32)), .val (.long (((Int32.ofNat n1).toInt64 * (10 : Int64)) + (Int32.ofNat n2).toInt64)), .second, .val (.int (1 : Int32)), .val (.long (0 : Int64)), .second, .unset]) rfl (pc' := 238) rfl ?_
      refine s_iload W23 d17_238 rfl (pc' := 240) rfl ?_
      refine s_bipush W23 d17_240 (v := (20 : Int32)) (by decide) (pc' := 242) rfl ?_
      refine s_icmpne W23 d17_242 (by decide) (pc1 := 256) (by decide) (pc2 := 245) rfl (fun q => absurd q (by decide)) ?_
      intro q242
      refine s_ldcJ W23 (w_116 hw) d17_245 (pc' := 248) rfl ?_
      refine s_lload W23 d17_248 rfl (pc' := 250) rfl ?_
      refine s_ladd W23 d17_250 (pc' := 251) rfl ?_
      refine s_lstore W23 d17_251 (l' := #[.val (.int ba), .val (.int bb), .val (.int bc), .val (.int bw), .val (.int (Int32.ofNat n1)), .val (.int (Int32.ofNat n2)), .val (.int (Int32.ofNat n3)), .val (.ref b1), .val (.int (2 : Int32)), .val (.int (20 : Int32)), .val (.long (((Int32.ofNat n1).toInt64 * (10 : Int64)) + (Int32.ofNat n2).toInt64)), .second, .val (.int (1 : Int32)), .val (.long ((223372036854775800 : Int64) + (((Int32.ofNat n1).toInt64 * (10 : Int64)) + (Int32.ofNat n2).toInt64))), .second, .unset]) rfl (pc' := 253) rfl ?_
      refine s_goto W23 d17_253 (by decide) (pc' := 355) (by decide) ?_
      refine gNew W23 (w_38 hw) (w_7 hw) (w_6 hw) d17_355 (pc' := 358) rfl (by decide) (by decide) ?_
      intro T54 h54 b54 g54 W54 E54 ⟨A54, D54, U54⟩
      have z54 : h23.size ≤ h54.size := E54.1
      have lt_b54 := natlt A54.lt
      have gg54 := nateq g54
      have n0_b54 : n0 ≤ b54 := by have := W23.n0le; omega
      have F54_value : Fld Z h54 b54 "java/lang/String" "value" "[B" .null := D54 (Or.inr (w_9 hw)) (ty := (.array .byte)) (by decide)
      have F54_coder : Fld Z h54 b54 "java/lang/String" "coder" "B" (.int (0 : Int32)) := D54 (Or.inr (w_10 hw)) (ty := .byte) (by decide)
      refine s_dup W54 d17_358 rfl (pc' := 359) rfl ?_
      refine s_aload W54 d17_359 rfl rfl (pc' := 361) rfl ?_
      have fx55 := (V23.ext E54)
      have Vx : Arv Z h54 b1 k1 .char (22 : Int32) ((bigL n1 n2 n3).map Value.int) (.int 0) := by
        have e1 := chn ⟨n1, l1⟩
        have e2 := chn ⟨n2, l2⟩
        have e3 := chn ⟨n3, l3⟩
        simp only at e1 e2 e3
        have V := fx55
        rw [e1, e2, e3] at V
        exact V
      refine gSpecial W54 rfl (w_39 hw) (w_40 hw) (w_6 hw) (w_41 hw) (by decide) pd_13 (ct_str1 hw hEL [] b54 b1 k1 (22 : Int32) ccs (bigL n1 n2 n3) h54 (show (22 : Int32).toInt = ((22 : Nat) : Int) by decide) (show 22 ≤ 24 by decide) (bigLat ⟨n1, l1⟩ ⟨n2, l2⟩ ⟨n3, l3⟩) Vx A54 F54_value F54_coder n0_b54 SCS hccs (by simp [bigL])) (fun x hx => by rcases List.mem_singleton.mp hx with rfl; exact List.mem_of_getElem? (i := 0) rfl) d17_361 (pc' := 364) rfl rfl (argsL := [(.ref b1)]) rfl rfl (rest := [(.ref b54)]) rfl (wt := 1) (Nat.le_of_eq rfl) (by decide) (by decide) (by decide) (by decide) ?_
      rintro v56 T56 h56 W56 z56 ⟨rfl, Ks, ds, ks, Ss, gs⟩
      show Go p e below _ T56 (mkF m 364 #[.val (.int ba), .val (.int bb), .val (.int bc), .val (.int bw), .val (.int (Int32.ofNat n1)), .val (.int (Int32.ofNat n2)), .val (.int (Int32.ofNat n3)), .val (.ref b1), .val (.int (2 : Int32)), .val (.int (20 : Int32)), .val (.long (((Int32.ofNat n1).toInt64 * (10 : Int64)) + (Int32.ofNat n2).toInt64)), .second, .val (.int (1 : Int32)), .val (.long ((223372036854775800 : Int64) + (((Int32.ofNat n1).toInt64 * (10 : Int64)) + (Int32.ofNat n2).toInt64))), .second, .unset] [(.ref b54)])
      refine s_iload W56 d17_364 rfl (pc' := 366) rfl ?_
      refine s_iload W56 d17_366 rfl (pc' := 368) rfl ?_
      refine gStatic W56 (w_59 hw) (w_60 hw) (w_61 hw) (w_62 hw) (by decide) pd_14 (ct_parse hw hEL [] b54 ds ks (2 : Int32) (20 : Int32) (22 : Int32) ccs fo (bigL n1 n2 n3) 2 20 eo h56 (show (22 : Int32).toInt = ((22 : Nat) : Int) by decide) (bigLat ⟨n1, l1⟩ ⟨n2, l2⟩ ⟨n3, l3⟩) Ss (by decide) (by decide) (by decide) (show 20 ≤ 22 by decide) (show 22 ≤ 24 by decide) SCS hccs SFO rfo SEM GEM) (by simp) d17_368 (pc' := 371) rfl rfl (argsL := [(.ref b54), (.int (2 : Int32)), (.int (20 : Int32))]) rfl rfl (rest := []) rfl (wt := 0) (Nat.le_of_eq rfl) (by decide) (by decide) (by decide) (by decide) ?_
      rintro v57 T57 h57 W57 z57 ⟨ro, rfl, Kr, Gr⟩
      show Go p e below _ T57 (mkF m 371 #[.val (.int ba), .val (.int bb), .val (.int bc), .val (.int bw), .val (.int (Int32.ofNat n1)), .val (.int (Int32.ofNat n2)), .val (.int (Int32.ofNat n3)), .val (.ref b1), .val (.int (2 : Int32)), .val (.int (20 : Int32)), .val (.long (((Int32.ofNat n1).toInt64 * (10 : Int64)) + (Int32.ofNat n2).toInt64)), .second, .val (.int (1 : Int32)), .val (.long ((223372036854775800 : Int64) + (((Int32.ofNat n1).toInt64 * (10 : Int64)) + (Int32.ofNat n2).toInt64))), .second, .unset] [(.ref ro)])
      refine s_astore W57 d17_371 rfl (l' := #[.val (.int ba), .val (.int bb), .val (.int bc), .val (.int bw), .val (.int (Int32.ofNat n1)), .val (.int (Int32.ofNat n2)), .val (.int (Int32.ofNat n3)), .val (.ref b1), .val (.int (2 : Int32)), .val (.int (20 : Int32)), .val (.long (((Int32.ofNat n1).toInt64 * (10 : Int64)) + (Int32.ofNat n2).toInt64)), .second, .val (.int (1 : Int32)), .val (.long ((223372036854775800 : Int64) + (((Int32.ofNat n1).toInt64 * (10 : Int64)) + (Int32.ofNat n2).toInt64))), .second, .val (.ref ro)]) rfl (pc' := 373) rfl ?_
      refine s_aload W57 d17_373 rfl rfl (pc' := 375) rfl ?_
      refine s_iload W57 d17_375 rfl (pc' := 377) rfl ?_
      refine s_lload W57 d17_377 rfl (pc' := 379) rfl ?_
      refine gStatic W57 (w_68 hw) (w_69 hw) (w_3 hw) (w_70 hw) (by decide) pd_15 (ct_sam hw hEL [] ro (1 : Int32) ((223372036854775800 : Int64) + (((Int32.ofNat n1).toInt64 * (10 : Int64)) + (Int32.ofNat n2).toInt64)) (parseF (bigL n1 n2 n3) 2 20) h57 Gr (good1 (big220 ⟨n1, l1⟩ ⟨n2, l2⟩ ⟨n3, l3⟩))) (by simp) d17_379 (pc' := 382) rfl rfl (argsL := [(.ref ro), (.int (1 : Int32)), (.long ((223372036854775800 : Int64) + (((Int32.ofNat n1).toInt64 * (10 : Int64)) + (Int32.ofNat n2).toInt64)))]) rfl rfl (rest := []) rfl (wt := 0) (Nat.le_of_eq rfl) (by decide) (by decide) (by decide) (by decide) ?_
      rintro v58 T58 h58 W58 z58 ⟨rfl, rfl⟩
      show Go p e below _ T58 (mkF m 382 #[.val (.int ba), .val (.int bb), .val (.int bc), .val (.int bw), .val (.int (Int32.ofNat n1)), .val (.int (Int32.ofNat n2)), .val (.int (Int32.ofNat n3)), .val (.ref b1), .val (.int (2 : Int32)), .val (.int (20 : Int32)), .val (.long (((Int32.ofNat n1).toInt64 * (10 : Int64)) + (Int32.ofNat n2).toInt64)), .second, .val (.int (1 : Int32)), .val (.long ((223372036854775800 : Int64) + (((Int32.ofNat n1).toInt64 * (10 : Int64)) + (Int32.ofNat n2).toInt64))), .second, .val (.ref ro)] [(.int (1 : Int32))])
      exact gRetN W58 hret (by simp) d17_382 (by decide) (by decide) rfl
    · rw [et]
      refine s_istore W23 d17_211 (l' := #[.val (.int ba), .val (.int bb), .val (.int bc), .val (.int bw), .val (.int (Int32.ofNat n1)), .val (.int (Int32.ofNat n2)), .val (.int (Int32.ofNat n3)), .val (.ref b1), .val (.int (2 : Int32)), .val (.int (21 : Int32)), .unset, .unset, .unset, .unset, .unset, .unset]) rfl (pc' := 213) rfl ?_
      refine s_iload W23 d17_213 rfl (pc' := 215) rfl ?_
      refine s_i2l W23 d17_215 (pc' := 216) rfl ?_
      refine s_ldcJ W23 (w_82 hw) d17_216 (pc' := 219) rfl ?_
      refine s_lmul W23 d17_219 (pc' := 220) rfl ?_
      refine s_iload W23 d17_220 rfl (pc' := 222) rfl ?_
      refine s_i2l W23 d17_222 (pc' := 223) rfl ?_
      refine s_ladd W23 d17_223 (pc' := 224) rfl ?_
      refine s_lstore W23 d17_224 (l' := #[.val (.int ba), .val (.int bb), .val (.int bc), .val (.int bw), .val (.int (Int32.ofNat n1)), .val (.int (Int32.ofNat n2)), .val (.int (Int32.ofNat n3)), .val (.ref b1), .val (.int (2 : Int32)), .val (.int (21 : Int32)), .val (.long (((Int32.ofNat n1).toInt64 * (10 : Int64)) + (Int32.ofNat n2).toInt64)), .second, .unset, .unset, .unset, .unset]) rfl (pc' := 226) rfl ?_
      refine s_lconst W23 d17_226 (v := (0 : Int64)) (by decide) (pc' := 227) rfl ?_
      refine s_lstore W23 d17_227 (l' := #[.val (.int ba), .val (.int bb), .val (.int bc), .val (.int bw), .val (.int (Int32.ofNat n1)), .val (.int (Int32.ofNat n2)), .val (.int (Int32.ofNat n3)), .val (.ref b1), .val (.int (2 : Int32)), .val (.int (21 : Int32)), .val (.long (((Int32.ofNat n1).toInt64 * (10 : Int64)) + (Int32.ofNat n2).toInt64)), .second, .unset, .val (.long (0 : Int64)), .second, .unset]) rfl (pc' := 229) rfl ?_
      refine s_iload W23 d17_229 rfl (pc' := 231) rfl ?_
      refine s_iconst W23 d17_231 (v := (2 : Int32)) (by decide) (pc' := 232) rfl ?_
      refine s_icmpne W23 d17_232 (by decide) (pc1 := 275) (by decide) (pc2 := 235) rfl (fun q => absurd q (by decide)) ?_
      intro q232
      refine s_iconst W23 d17_235 (v := (1 : Int32)) (by decide) (pc' := 236) rfl ?_
      refine s_istore W23 d17_236 (l' := #[.val (.int ba), .val (.int bb), .val (.int bc), .val (.int bw), .val (.int (Int32.ofNat n1)), .val (.int (Int32.ofNat n2)), .val (.int (Int32.ofNat n3)), .val (.ref b1), .val (.int (2 : Int32)), .val (.int (21 : Int32)), .val (.long (((Int32.ofNat n1).toInt64 * (10 : Int64)) + (Int32.ofNat n2).toInt64)), .second, .val (.int (1 : Int32)), .val (.long (0 : Int64)), .second, .unset]) rfl (pc' := 238) rfl ?_
      refine s_iload W23 d17_238 rfl (pc' := 240) rfl ?_
      refine s_bipush W23 d17_240 (v := (20 : Int32)) (by decide) (pc' := 242) rfl ?_
      refine s_icmpne W23 d17_242 (by decide) (pc1 := 256) (by decide) (pc2 := 245) rfl ?_ (fun q => absurd q (by decide))
      intro q242
      refine s_ldcJ W23 (w_83 hw) d17_256 (pc' := 259) rfl ?_
      refine s_lload W23 d17_259 rfl (pc' := 261) rfl ?_
      refine s_ldcJ W23 (w_82 hw) d17_261 (pc' := 264) rfl ?_
      refine s_lmul W23 d17_264 (pc' := 265) rfl ?_
      refine s_ladd W23 d17_265 (pc' := 266) rfl ?_
      refine s_iload W23 d17_266 rfl (pc' := 268) rfl ?_
      refine s_i2l W23 d17_268 (pc' := 269) rfl ?_
      refine s_ladd W23 d17_269 (pc' := 270) rfl ?_
      refine s_lstore W23 d17_270 (l' := #[.val (.int ba), .val (.int bb), .val (.int bc), .val (.int bw), .val (.int (Int32.ofNat n1)), .val (.int (Int32.ofNat n2)), .val (.int (Int32.ofNat n3)), .val (.ref b1), .val (.int (2 : Int32)), .val (.int (21 : Int32)), .val (.long (((Int32.ofNat n1).toInt64 * (10 : Int64)) + (Int32.ofNat n2).toInt64)), .second, .val (.int (1 : Int32)), .val (.long (((2233720368547758000 : Int64) + ((((Int32.ofNat n1).toInt64 * (10 : Int64)) + (Int32.ofNat n2).toInt64) * (10 : Int64))) + (Int32.ofNat n3).toInt64)), .second, .unset]) rfl (pc' := 272) rfl ?_
      refine s_goto W23 d17_272 (by decide) (pc' := 355) (by decide) ?_
      refine gNew W23 (w_38 hw) (w_7 hw) (w_6 hw) d17_355 (pc' := 358) rfl (by decide) (by decide) ?_
      intro T59 h59 b59 g59 W59 E59 ⟨A59, D59, U59⟩
      have z59 : h23.size ≤ h59.size := E59.1
      have lt_b59 := natlt A59.lt
      have gg59 := nateq g59
      have n0_b59 : n0 ≤ b59 := by have := W23.n0le; omega
      have F59_value : Fld Z h59 b59 "java/lang/String" "value" "[B" .null := D59 (Or.inr (w_9 hw)) (ty := (.array .byte)) (by decide)
      have F59_coder : Fld Z h59 b59 "java/lang/String" "coder" "B" (.int (0 : Int32)) := D59 (Or.inr (w_10 hw)) (ty := .byte) (by decide)
      refine s_dup W59 d17_358 rfl (pc' := 359) rfl ?_
      refine s_aload W59 d17_359 rfl rfl (pc' := 361) rfl ?_
      have fx60 := (V23.ext E59)
      have Vx : Arv Z h59 b1 k1 .char (22 : Int32) ((bigL n1 n2 n3).map Value.int) (.int 0) := by
        have e1 := chn ⟨n1, l1⟩
        have e2 := chn ⟨n2, l2⟩
        have e3 := chn ⟨n3, l3⟩
        simp only at e1 e2 e3
        have V := fx60
        rw [e1, e2, e3] at V
        exact V
      refine gSpecial W59 rfl (w_39 hw) (w_40 hw) (w_6 hw) (w_41 hw) (by decide) pd_13 (ct_str1 hw hEL [] b59 b1 k1 (22 : Int32) ccs (bigL n1 n2 n3) h59 (show (22 : Int32).toInt = ((22 : Nat) : Int) by decide) (show 22 ≤ 24 by decide) (bigLat ⟨n1, l1⟩ ⟨n2, l2⟩ ⟨n3, l3⟩) Vx A59 F59_value F59_coder n0_b59 SCS hccs (by simp [bigL])) (fun x hx => by rcases List.mem_singleton.mp hx with rfl; exact List.mem_of_getElem? (i := 0) rfl) d17_361 (pc' := 364) rfl rfl (argsL := [(.ref b1)]) rfl rfl (rest := [(.ref b59)]) rfl (wt := 1) (Nat.le_of_eq rfl) (by decide) (by decide) (by decide) (by decide) ?_
      rintro v61 T61 h61 W61 z61 ⟨rfl, Ks, ds, ks, Ss, gs⟩
      show Go p e below _ T61 (mkF m 364 #[.val (.int ba), .val (.int bb), .val (.int bc), .val (.int bw), .val (.int (Int32.ofNat n1)), .val (.int (Int32.ofNat n2)), .val (.int (Int32.ofNat n3)), .val (.ref b1), .val (.int (2 : Int32)), .val (.int (21 : Int32)), .val (.long (((Int32.ofNat n1).toInt64 * (10 : Int64)) + (Int32.ofNat n2).toInt64)), .second, .val (.int (1 : Int32)), .val (.long (((2233720368547758000 : Int64) + ((((Int32.ofNat n1).toInt64 * (10 : Int64)) + (Int32.ofNat n2).toInt64) * (10 : Int64))) + (Int32.ofNat n3).toInt64)), .second, .unset] [(.ref b59)])
      refine s_iload W61 d17_364 rfl (pc' := 366) rfl ?_
      refine s_iload W61 d17_366 rfl (pc' := 368) rfl ?_
      refine gStatic W61 (w_59 hw) (w_60 hw) (w_61 hw) (w_62 hw) (by decide) pd_14 (ct_parse hw hEL [] b59 ds ks (2 : Int32) (21 : Int32) (22 : Int32) ccs fo (bigL n1 n2 n3) 2 21 eo h61 (show (22 : Int32).toInt = ((22 : Nat) : Int) by decide) (bigLat ⟨n1, l1⟩ ⟨n2, l2⟩ ⟨n3, l3⟩) Ss (by decide) (by decide) (by decide) (show 21 ≤ 22 by decide) (show 22 ≤ 24 by decide) SCS hccs SFO rfo SEM GEM) (by simp) d17_368 (pc' := 371) rfl rfl (argsL := [(.ref b59), (.int (2 : Int32)), (.int (21 : Int32))]) rfl rfl (rest := []) rfl (wt := 0) (Nat.le_of_eq rfl) (by decide) (by decide) (by decide) (by decide) ?_
      rintro v62 T62 h62 W62 z62 ⟨ro, rfl, Kr, Gr⟩
      show Go p e below _ T62 (mkF m 371 #[.val (.int ba), .val (.int bb), .val (.int bc), .val (.int bw), .val (.int (Int32.ofNat n1)), .val (.int (Int32.ofNat n2)), .val (.int (Int32.ofNat n3)), .val (.ref b1), .val (.int (2 : Int32)), .val (.int (21 : Int32)), .val (.long (((Int32.ofNat n1).toInt64 * (10 : Int64)) + (Int32.ofNat n2).toInt64)), .second, .val (.int (1 : Int32)), .val (.long (((2233720368547758000 : Int64) + ((((Int32.ofNat n1).toInt64 * (10 : Int64)) + (Int32.ofNat n2).toInt64) * (10 : Int64))) + (Int32.ofNat n3).toInt64)), .second, .unset] [(.ref ro)])
      refine s_astore W62 d17_371 rfl (l' := #[.val (.int ba), .val (.int bb), .val (.int bc), .val (.int bw), .val (.int (Int32.ofNat n1)), .val (.int (Int32.ofNat n2)), .val (.int (Int32.ofNat n3)), .val (.ref b1), .val (.int (2 : Int32)), .val (.int (21 : Int32)), .val (.long (((Int32.ofNat n1).toInt64 * (10 : Int64)) + (Int32.ofNat n2).toInt64)), .second, .val (.int (1 : Int32)), .val (.long (((2233720368547758000 : Int64) + ((((Int32.ofNat n1).toInt64 * (10 : Int64)) + (Int32.ofNat n2).toInt64) * (10 : Int64))) + (Int32.ofNat n3).toInt64)), .second, .val (.ref ro)]) rfl (pc' := 373) rfl ?_
      refine s_aload W62 d17_373 rfl rfl (pc' := 375) rfl ?_
      refine s_iload W62 d17_375 rfl (pc' := 377) rfl ?_
      refine s_lload W62 d17_377 rfl (pc' := 379) rfl ?_
      refine gStatic W62 (w_68 hw) (w_69 hw) (w_3 hw) (w_70 hw) (by decide) pd_15 (ct_sam hw hEL [] ro (1 : Int32) (((2233720368547758000 : Int64) + ((((Int32.ofNat n1).toInt64 * (10 : Int64)) + (Int32.ofNat n2).toInt64) * (10 : Int64))) + (Int32.ofNat n3).toInt64) (parseF (bigL n1 n2 n3) 2 21) h62 Gr (good1 (big221 ⟨n1, l1⟩ ⟨n2, l2⟩ ⟨n3, l3⟩))) (by simp) d17_379 (pc' := 382) rfl rfl (argsL := [(.ref ro), (.int (1 : Int32)), (.long (((2233720368547758000 : Int64) + ((((Int32.ofNat n1).toInt64 * (10 : Int64)) + (Int32.ofNat n2).toInt64) * (10 : Int64))) + (Int32.ofNat n3).toInt64))]) rfl rfl (rest := []) rfl (wt := 0) (Nat.le_of_eq rfl) (by decide) (by decide) (by decide) (by decide) ?_
      rintro v63 T63 h63 W63 z63 ⟨rfl, rfl⟩
      show Go p e below _ T63 (mkF m 382 #[.val (.int ba), .val (.int bb), .val (.int bc), .val (.int bw), .val (.int (Int32.ofNat n1)), .val (.int (Int32.ofNat n2)), .val (.int (Int32.ofNat n3)), .val (.ref b1), .val (.int (2 : Int32)), .val (.int (21 : Int32)), .val (.long (((Int32.ofNat n1).toInt64 * (10 : Int64)) + (Int32.ofNat n2).toInt64)), .second, .val (.int (1 : Int32)), .val (.long (((2233720368547758000 : Int64) + ((((Int32.ofNat n1).toInt64 * (10 : Int64)) + (Int32.ofNat n2).toInt64) * (10 : Int64))) + (Int32.ofNat n3).toInt64)), .second, .val (.ref ro)] [(.int (1 : Int32))])
      exact gRetN W63 hret (by simp) d17_382 (by decide) (by decide) rfl
def Q_law (Z : State) (n0 : Nat) (pa pb pd pc pe pw ccs : Int32) (fo : Value) (eo : Addr) (h0 : Heap) (v : Option Value) (h : Heap) : Prop := v = some (.int 1)
set_option maxRecDepth 65536 in
set_option maxHeartbeats 40000000 in
theorem ct_law {l : Launch} {Z : State} {a0 : Array Value} (hw : ∀ d ∈ tables_1, d.before a0 Z = true) (hEL : EW Z a0 EL0) {n0 : Nat} (cds : List Jvm.Cond) (pa pb pd pc pe pw ccs : Int32) (fo : Value) (eo : Addr) (h0 : Heap) (SCS : Sta Z Z.heap "java/lang/String" "COMPACT_STRINGS" "Z" (.int ccs)) (hccs : ¬ ccs = 0) (SFO : Sta Z Z.heap "jdk/internal/util/Preconditions" "SIOOBE_FORMATTER" "Ljava/util/function/BiFunction;" fo) (rfo : fo.isRef = true) (SEM : Sta Z Z.heap "java/util/OptionalLong" "EMPTY" "Ljava/util/OptionalLong;" (.ref eo)) (GEM : OLg Z Z.heap eo none) :
    Ct l Z a0 EL0 n0 false true x code maxLocals ret cds room_1 [] #[(.int pa), (.int pb), (.int pd), (.int pc), (.int pe), (.int pw)] h0 (Q_law Z n0 pa pb pd pc pe pw ccs fo eo h0) := by
  refine Ct.of (plainFor_of_name pn_5) hEL ?_
  intro p e s m below meth c T0 W0 hret hnm hs0
  refine Go.cast (ef_IIIIII_16 m pa pb pd pc pe pw) ?_
  show Go p e below _ T0 (mkF m 0 #[.val (.int pa), .val (.int pb), .val (.int pd), .val (.int pc), .val (.int pe), .val (.int pw), .unset, .unset, .unset, .unset, .unset, .unset, .unset, .unset, .unset, .unset] [])
  refine s_iload W0 at_0 rfl (pc' := 2) rfl ?_
  refine s_bipush W0 at_2 (v := (16 : Int32)) (by decide) (pc' := 4) rfl ?_
  refine s_iushr W0 at_4 (pc' := 5) rfl ?_
  refine s_iconst W0 at_5 (v := (1 : Int32)) (by decide) (pc' := 6) rfl ?_
  refine s_iand W0 at_6 (pc' := 7) rfl ?_
  refine s_ifeq W0 at_7 (by decide) (pc1 := 19) (by decide) (pc2 := 10) rfl ?_ ?_
  · intro q7
    refine s_bipush W0 at_19 (v := (6 : Int32)) (by decide) (pc' := 21) rfl ?_
    refine gNewP (aty := .char) W0 (w_0 hw) (ad := "[C") (by decide +kernel) at_21 (pc' := 23) rfl (by decide) (cap := 6) (by decide) (by decide) (by decide) (by decide) ?_
    intro T1 h1 b1 g1 W1 E1 ⟨k1, V1, A1⟩
    have z1 : h0.size ≤ h1.size := E1.1
    have lt_b1 := natlt A1.lt
    have gg1 := nateq g1
    have n0_b1 : n0 ≤ b1 := by have := W0.n0le; omega
    have Vp1 : Arv Z h1 b1 k1 .char (6 : Int32) [(.int (0 : Int32)), (.int (0 : Int32)), (.int (0 : Int32)), (.int (0 : Int32)), (.int (0 : Int32)), (.int (0 : Int32))] (.int (0 : Int32)) := Arv.pad V1 (pad_rep [] (.int (0 : Int32)) 6)
    refine s_astore W1 at_23 rfl (l' := #[.val (.int pa), .val (.int pb), .val (.int pd), .val (.int pc), .val (.int pe), .val (.int pw), .val (.ref b1), .unset, .unset, .unset, .unset, .unset, .unset, .unset, .unset, .unset]) rfl (pc' := 25) rfl ?_
    refine s_aload W1 at_25 rfl rfl (pc' := 27) rfl ?_
    refine s_iconst W1 at_27 (v := (0 : Int32)) (by decide) (pc' := 28) rfl ?_
    refine s_iloadN W1 at_28 rfl (pc' := 29) rfl ?_
    refine gStatic W1 (w_1 hw) (w_2 hw) (w_3 hw) (w_4 hw) (by decide) pd_11 (ct_pick hw hEL [] pa ccs fo h1 SCS hccs SFO rfo) (by simp) at_29 (pc' := 32) rfl rfl (argsL := [(.int pa)]) rfl rfl (rest := [(.int (0 : Int32)), (.ref b1)]) rfl (wt := 2) (Nat.le_of_eq rfl) (by decide) (by decide) (by decide) (by decide) ?_
    rintro v2 T2 h2 W2 z2 ⟨c1, rfl, Kp1, bc1⟩
    show Go p e below _ T2 (mkF m 32 #[.val (.int pa), .val (.int pb), .val (.int pd), .val (.int pc), .val (.int pe), .val (.int pw), .val (.ref b1), .unset, .unset, .unset, .unset, .unset, .unset, .unset, .unset, .unset] [(.int c1), (.int (0 : Int32)), (.ref b1)])
    have fx4 := (Vp1.keep Kp1 nin0)
    refine gStC W2 n0_b1 fx4 ⟨by decide, by decide⟩ (i := 0) (by decide) (show 0 < 6 by decide) at_32 (pc' := 33) rfl ?_
    intro T3 h3 W3 K3 V3
    replace V3 : Arv Z h3 b1 k1 .char (6 : Int32) [(.int (nar .char c1)), (.int (0 : Int32)), (.int (0 : Int32)), (.int (0 : Int32)), (.int (0 : Int32)), (.int (0 : Int32))] (.int (0 : Int32)) := V3
    have z3 : h2.size ≤ h3.size := K3.1
    refine s_aload W3 at_33 rfl rfl (pc' := 35) rfl ?_
    refine s_iconst W3 at_35 (v := (1 : Int32)) (by decide) (pc' := 36) rfl ?_
    refine s_iloadN W3 at_36 rfl (pc' := 37) rfl ?_
    refine gStatic W3 (w_1 hw) (w_2 hw) (w_3 hw) (w_4 hw) (by decide) pd_11 (ct_pick hw hEL [] pb ccs fo h3 SCS hccs SFO rfo) (by simp) at_37 (pc' := 40) rfl rfl (argsL := [(.int pb)]) rfl rfl (rest := [(.int (1 : Int32)), (.ref b1)]) rfl (wt := 2) (Nat.le_of_eq rfl) (by decide) (by decide) (by decide) (by decide) ?_
    rintro v5 T5 h5 W5 z5 ⟨c2, rfl, Kp2, bc2⟩
    show Go p e below _ T5 (mkF m 40 #[.val (.int pa), .val (.int pb), .val (.int pd), .val (.int pc), .val (.int pe), .val (.int pw), .val (.ref b1), .unset, .unset, .unset, .unset, .unset, .unset, .unset, .unset, .unset] [(.int c2), (.int (1 : Int32)), (.ref b1)])
    have fx7 := (V3.keep Kp2 nin0)
    refine gStC W5 n0_b1 fx7 ⟨by decide, by decide⟩ (i := 1) (by decide) (show 1 < 6 by decide) at_40 (pc' := 41) rfl ?_
    intro T6 h6 W6 K6 V6
    replace V6 : Arv Z h6 b1 k1 .char (6 : Int32) [(.int (nar .char c1)), (.int (nar .char c2)), (.int (0 : Int32)), (.int (0 : Int32)), (.int (0 : Int32)), (.int (0 : Int32))] (.int (0 : Int32)) := V6
    have z6 : h5.size ≤ h6.size := K6.1
    refine s_aload W6 at_41 rfl rfl (pc' := 43) rfl ?_
    refine s_iconst W6 at_43 (v := (2 : Int32)) (by decide) (pc' := 44) rfl ?_
    refine s_iloadN W6 at_44 rfl (pc' := 45) rfl ?_
    refine gStatic W6 (w_1 hw) (w_2 hw) (w_3 hw) (w_4 hw) (by decide) pd_11 (ct_pick hw hEL [] pd ccs fo h6 SCS hccs SFO rfo) (by simp) at_45 (pc' := 48) rfl rfl (argsL := [(.int pd)]) rfl rfl (rest := [(.int (2 : Int32)), (.ref b1)]) rfl (wt := 2) (Nat.le_of_eq rfl) (by decide) (by decide) (by decide) (by decide) ?_
    rintro v8 T8 h8 W8 z8 ⟨c3, rfl, Kp3, bc3⟩
    show Go p e below _ T8 (mkF m 48 #[.val (.int pa), .val (.int pb), .val (.int pd), .val (.int pc), .val (.int pe), .val (.int pw), .val (.ref b1), .unset, .unset, .unset, .unset, .unset, .unset, .unset, .unset, .unset] [(.int c3), (.int (2 : Int32)), (.ref b1)])
    have fx10 := (V6.keep Kp3 nin0)
    refine gStC W8 n0_b1 fx10 ⟨by decide, by decide⟩ (i := 2) (by decide) (show 2 < 6 by decide) at_48 (pc' := 49) rfl ?_
    intro T9 h9 W9 K9 V9
    replace V9 : Arv Z h9 b1 k1 .char (6 : Int32) [(.int (nar .char c1)), (.int (nar .char c2)), (.int (nar .char c3)), (.int (0 : Int32)), (.int (0 : Int32)), (.int (0 : Int32))] (.int (0 : Int32)) := V9
    have z9 : h8.size ≤ h9.size := K9.1
    refine s_aload W9 at_49 rfl rfl (pc' := 51) rfl ?_
    refine s_iconst W9 at_51 (v := (3 : Int32)) (by decide) (pc' := 52) rfl ?_
    refine s_iloadN W9 at_52 rfl (pc' := 53) rfl ?_
    refine gStatic W9 (w_1 hw) (w_2 hw) (w_3 hw) (w_4 hw) (by decide) pd_11 (ct_pick hw hEL [] pc ccs fo h9 SCS hccs SFO rfo) (by simp) at_53 (pc' := 56) rfl rfl (argsL := [(.int pc)]) rfl rfl (rest := [(.int (3 : Int32)), (.ref b1)]) rfl (wt := 2) (Nat.le_of_eq rfl) (by decide) (by decide) (by decide) (by decide) ?_
    rintro v11 T11 h11 W11 z11 ⟨c4, rfl, Kp4, bc4⟩
    show Go p e below _ T11 (mkF m 56 #[.val (.int pa), .val (.int pb), .val (.int pd), .val (.int pc), .val (.int pe), .val (.int pw), .val (.ref b1), .unset, .unset, .unset, .unset, .unset, .unset, .unset, .unset, .unset] [(.int c4), (.int (3 : Int32)), (.ref b1)])
    have fx13 := (V9.keep Kp4 nin0)
    refine gStC W11 n0_b1 fx13 ⟨by decide, by decide⟩ (i := 3) (by decide) (show 3 < 6 by decide) at_56 (pc' := 57) rfl ?_
    intro T12 h12 W12 K12 V12
    replace V12 : Arv Z h12 b1 k1 .char (6 : Int32) [(.int (nar .char c1)), (.int (nar .char c2)), (.int (nar .char c3)), (.int (nar .char c4)), (.int (0 : Int32)), (.int (0 : Int32))] (.int (0 : Int32)) := V12
    have z12 : h11.size ≤ h12.size := K12.1
    refine s_aload W12 at_57 rfl rfl (pc' := 59) rfl ?_
    refine s_iconst W12 at_59 (v := (4 : Int32)) (by decide) (pc' := 60) rfl ?_
    refine s_iload W12 at_60 rfl (pc' := 62) rfl ?_
    refine gStatic W12 (w_1 hw) (w_2 hw) (w_3 hw) (w_4 hw) (by decide) pd_11 (ct_pick hw hEL [] pe ccs fo h12 SCS hccs SFO rfo) (by simp) at_62 (pc' := 65) rfl rfl (argsL := [(.int pe)]) rfl rfl (rest := [(.int (4 : Int32)), (.ref b1)]) rfl (wt := 2) (Nat.le_of_eq rfl) (by decide) (by decide) (by decide) (by decide) ?_
    rintro v14 T14 h14 W14 z14 ⟨c5, rfl, Kp5, bc5⟩
    show Go p e below _ T14 (mkF m 65 #[.val (.int pa), .val (.int pb), .val (.int pd), .val (.int pc), .val (.int pe), .val (.int pw), .val (.ref b1), .unset, .unset, .unset, .unset, .unset, .unset, .unset, .unset, .unset] [(.int c5), (.int (4 : Int32)), (.ref b1)])
    have fx16 := (V12.keep Kp5 nin0)
    refine gStC W14 n0_b1 fx16 ⟨by decide, by decide⟩ (i := 4) (by decide) (show 4 < 6 by decide) at_65 (pc' := 66) rfl ?_
    intro T15 h15 W15 K15 V15
    replace V15 : Arv Z h15 b1 k1 .char (6 : Int32) [(.int (nar .char c1)), (.int (nar .char c2)), (.int (nar .char c3)), (.int (nar .char c4)), (.int (nar .char c5)), (.int (0 : Int32))] (.int (0 : Int32)) := V15
    have z15 : h14.size ≤ h15.size := K15.1
    refine s_aload W15 at_66 rfl rfl (pc' := 68) rfl ?_
    refine s_iconst W15 at_68 (v := (5 : Int32)) (by decide) (pc' := 69) rfl ?_
    refine s_iload W15 at_69 rfl (pc' := 71) rfl ?_
    refine s_bipush W15 at_71 (v := (14 : Int32)) (by decide) (pc' := 73) rfl ?_
    refine s_iushr W15 at_73 (pc' := 74) rfl ?_
    refine gStatic W15 (w_1 hw) (w_2 hw) (w_3 hw) (w_4 hw) (by decide) pd_11 (ct_pick hw hEL [] ((pe.toUInt32 >>> ((14 : Int32) &&& 31).toUInt32).toInt32) ccs fo h15 SCS hccs SFO rfo) (by simp) at_74 (pc' := 77) rfl rfl (argsL := [(.int ((pe.toUInt32 >>> ((14 : Int32) &&& 31).toUInt32).toInt32))]) rfl rfl (rest := [(.int (5 : Int32)), (.ref b1)]) rfl (wt := 2) (Nat.le_of_eq rfl) (by decide) (by decide) (by decide) (by decide) ?_
    rintro v17 T17 h17 W17 z17 ⟨c6, rfl, Kp6, bc6⟩
    show Go p e below _ T17 (mkF m 77 #[.val (.int pa), .val (.int pb), .val (.int pd), .val (.int pc), .val (.int pe), .val (.int pw), .val (.ref b1), .unset, .unset, .unset, .unset, .unset, .unset, .unset, .unset, .unset] [(.int c6), (.int (5 : Int32)), (.ref b1)])
    have fx19 := (V15.keep Kp6 nin0)
    refine gStC W17 n0_b1 fx19 ⟨by decide, by decide⟩ (i := 5) (by decide) (show 5 < 6 by decide) at_77 (pc' := 78) rfl ?_
    intro T18 h18 W18 K18 V18
    replace V18 : Arv Z h18 b1 k1 .char (6 : Int32) [(.int (nar .char c1)), (.int (nar .char c2)), (.int (nar .char c3)), (.int (nar .char c4)), (.int (nar .char c5)), (.int (nar .char c6))] (.int (0 : Int32)) := V18
    have z18 : h17.size ≤ h18.size := K18.1
    have Wn := W18.up (k' := 13) (n' := 414) (by decide) (by decide)
    obtain ⟨cs, hcsd⟩ : ∃ q : List Int32, q = [c1, c2, c3, c4, c5, c6] := ⟨_, rfl⟩
    have hlat : ∀ c ∈ cs, 0 ≤ c.toInt ∧ c.toInt < 256 := by
      rw [hcsd]; intro c hc
      simp only [List.mem_cons, List.not_mem_nil, or_false] at hc
      rcases hc with rfl | rfl | rfl | rfl | rfl | rfl
      · exact bc1
      · exact bc2
      · exact bc3
      · exact bc4
      · exact bc5
      · exact bc6
    have hgd : ∀ i, 0 ≤ (cs.getD i 0).toInt ∧ (cs.getD i 0).toInt < 256 := by rw [hcsd]; exact getD6 (hcsd ▸ hlat)
    have hclen : cs.length = 6 := by rw [hcsd]; rfl
    have Vc : Arv Z h18 b1 k1 .char (6 : Int32) (cs.map Value.int) (.int 0) := by
      have V := V18
      rw [nar_char bc1, nar_char bc2, nar_char bc3, nar_char bc4, nar_char bc5, nar_char bc6] at V
      rw [hcsd]; exact V
    have h6 : (6 : Int32).toInt = cs.length := by rw [hclen]; decide
    clear hcsd
    refine s_iload Wn at_78 rfl (pc' := 80) rfl ?_
    refine s_sipush Wn at_80 (v := (255 : Int32)) (by decide) (pc' := 83) rfl ?_
    refine s_iand Wn at_83 (pc' := 84) rfl ?_
    refine s_bipush Wn at_84 (v := (7 : Int32)) (by decide) (pc' := 86) rfl ?_
    refine s_irem Wn at_86 (by decide) (pc' := 87) rfl ?_
    obtain ⟨f, hf7, ef⟩ := fromL pw
    rw [ef]
    refine s_istore Wn at_87 (l' := #[.val (.int pa), .val (.int pb), .val (.int pd), .val (.int pc), .val (.int pe), .val (.int pw), .val (.ref b1), .val (.int (Int32.ofNat f)), .unset, .unset, .unset, .unset, .unset, .unset, .unset, .unset]) rfl (pc' := 89) rfl ?_
    refine s_iload Wn at_89 rfl (pc' := 91) rfl ?_
    refine s_iload Wn at_91 rfl (pc' := 93) rfl ?_
    refine s_bipush Wn at_93 (v := (8 : Int32)) (by decide) (pc' := 95) rfl ?_
    refine s_iushr Wn at_95 (pc' := 96) rfl ?_
    refine s_sipush Wn at_96 (v := (255 : Int32)) (by decide) (pc' := 99) rfl ?_
    refine s_iand Wn at_99 (pc' := 100) rfl ?_
    refine s_bipush Wn at_100 (v := (7 : Int32)) (by decide) (pc' := 102) rfl ?_
    refine s_iload Wn at_102 rfl (pc' := 104) rfl ?_
    refine s_isub Wn at_104 (pc' := 105) rfl ?_
    refine s_irem Wn at_105 (nz7 hf7) (pc' := 106) rfl ?_
    refine s_iadd Wn at_106 (pc' := 107) rfl ?_
    obtain ⟨t, hft, ht6, et⟩ := toL ((pw.toUInt32 >>> ((8 : Int32) &&& 31).toUInt32).toInt32) hf7
    rw [et]
    have tf : (Int32.ofNat f).toInt = f := ofN (by omega)
    have tt : (Int32.ofNat t).toInt = t := ofN (by omega)
    refine s_istore Wn at_107 (l' := #[.val (.int pa), .val (.int pb), .val (.int pd), .val (.int pc), .val (.int pe), .val (.int pw), .val (.ref b1), .val (.int (Int32.ofNat f)), .val (.int (Int32.ofNat t)), .unset, .unset, .unset, .unset, .unset, .unset, .unset]) rfl (pc' := 109) rfl ?_
    have tail : ∀ (T : State) (pr : Int32) (ex : Int64) (s12 s13 s14 s15 : Slot), Wk p l e room_1 s m #[(.int pa), (.int pb), (.int pd), (.int pc), (.int pe), (.int pw)] below meth c Z a0 EL0 n0 false true "com/example/lazuline/lazuline/PlainDecimalParsePinLaw" code maxLocals [b1] T h18 13 414 → One1 s12 → Good (parseF cs f t) pr ex → Go p e below (Po s Z EL0 n0 true room_1.cells room_1.slots (Q_law Z n0 pa pb pd pc pe pw ccs fo eo h0)) T (mkF m 312 #[.val (.int pa), .val (.int pb), .val (.int pd), .val (.int pc), .val (.int pe), .val (.int pw), .val (.ref b1), .val (.int (Int32.ofNat f)), .val (.int (Int32.ofNat t)), .val (.int pr), .val (.long ex), .second, s12, s13, s14, s15] []) := by
      intro T pr ex s12 s13 s14 s15 Wt h12 good
      have os : ∀ x : Addr, storeLocals #[.val (.int pa), .val (.int pb), .val (.int pd), .val (.int pc), .val (.int pe), .val (.int pw), .val (.ref b1), .val (.int (Int32.ofNat f)), .val (.int (Int32.ofNat t)), .val (.int pr), .val (.long ex), .second, s12, s13, s14, s15] 12 (.ref x) = some #[.val (.int pa), .val (.int pb), .val (.int pd), .val (.int pc), .val (.int pe), .val (.int pw), .val (.ref b1), .val (.int (Int32.ofNat f)), .val (.int (Int32.ofNat t)), .val (.int pr), .val (.long ex), .second, .val (.ref x), s13, s14, s15] := by
        intro x
        rcases h12 with rfl | ⟨w, rfl, hw⟩
        · rfl
        · cases w <;> first | rfl | (simp [Value.category] at hw)
      refine gNew Wt (w_38 hw) (w_7 hw) (w_6 hw) at_312 (pc' := 315) rfl (by decide) (by decide) ?_
      intro T61 h61 b61 g61 W61 E61 ⟨A61, D61, U61⟩
      have z61 : h18.size ≤ h61.size := E61.1
      have lt_b61 := natlt A61.lt
      have gg61 := nateq g61
      have n0_b61 : n0 ≤ b61 := by have := Wt.n0le; omega
      have F61_value : Fld Z h61 b61 "java/lang/String" "value" "[B" .null := D61 (Or.inr (w_9 hw)) (ty := (.array .byte)) (by decide)
      have F61_coder : Fld Z h61 b61 "java/lang/String" "coder" "B" (.int (0 : Int32)) := D61 (Or.inr (w_10 hw)) (ty := .byte) (by decide)
      refine s_dup W61 at_315 rfl (pc' := 316) rfl ?_
      refine s_aload W61 at_316 rfl rfl (pc' := 318) rfl ?_
      have fx62 := (Vc.ext E61)
      refine gSpecial W61 rfl (w_39 hw) (w_40 hw) (w_6 hw) (w_41 hw) (by decide) pd_13 (ct_str1 hw hEL [] b61 b1 k1 (6 : Int32) ccs cs h61 h6 (by omega) hlat fx62 A61 F61_value F61_coder n0_b61 SCS hccs (fun q => by rw [q] at hclen; cases hclen)) (fun x hx => by rcases List.mem_singleton.mp hx with rfl; exact List.mem_of_getElem? (i := 0) rfl) at_318 (pc' := 321) rfl rfl (argsL := [(.ref b1)]) rfl rfl (rest := [(.ref b61)]) rfl (wt := 1) (Nat.le_of_eq rfl) (by decide) (by decide) (by decide) (by decide) ?_
      rintro v63 T63 h63 W63 z63 ⟨rfl, Ks, ds, ks, Ss, gs⟩
      show Go p e below _ T63 (mkF m 321 #[.val (.int pa), .val (.int pb), .val (.int pd), .val (.int pc), .val (.int pe), .val (.int pw), .val (.ref b1), .val (.int (Int32.ofNat f)), .val (.int (Int32.ofNat t)), .val (.int pr), .val (.long ex), .second, s12, s13, s14, s15] [(.ref b61)])
      refine s_iload W63 at_321 rfl (pc' := 323) rfl ?_
      refine s_iload W63 at_323 rfl (pc' := 325) rfl ?_
      refine gStatic W63 (w_59 hw) (w_60 hw) (w_61 hw) (w_62 hw) (by decide) pd_14 (ct_parse hw hEL [] b61 ds ks (Int32.ofNat f) (Int32.ofNat t) (6 : Int32) ccs fo cs f t eo h63 h6 hlat Ss tf tt hft (by omega) (by omega) SCS hccs SFO rfo SEM GEM) (by simp) at_325 (pc' := 328) rfl rfl (argsL := [(.ref b61), (.int (Int32.ofNat f)), (.int (Int32.ofNat t))]) rfl rfl (rest := []) rfl (wt := 0) (Nat.le_of_eq rfl) (by decide) (by decide) (by decide) (by decide) ?_
      rintro v64 T64 h64 W64 z64 ⟨ro, rfl, Kr, Gr⟩
      show Go p e below _ T64 (mkF m 328 #[.val (.int pa), .val (.int pb), .val (.int pd), .val (.int pc), .val (.int pe), .val (.int pw), .val (.ref b1), .val (.int (Int32.ofNat f)), .val (.int (Int32.ofNat t)), .val (.int pr), .val (.long ex), .second, s12, s13, s14, s15] [(.ref ro)])
      refine s_astore W64 at_328 rfl (l' := #[.val (.int pa), .val (.int pb), .val (.int pd), .val (.int pc), .val (.int pe), .val (.int pw), .val (.ref b1), .val (.int (Int32.ofNat f)), .val (.int (Int32.ofNat t)), .val (.int pr), .val (.long ex), .second, .val (.ref ro), s13, s14, s15]) (os _) (pc' := 330) rfl ?_
      refine s_aload W64 at_330 rfl rfl (pc' := 332) rfl ?_
      refine s_iload W64 at_332 rfl (pc' := 334) rfl ?_
      refine s_lload W64 at_334 rfl (pc' := 336) rfl ?_
      refine gStatic W64 (w_68 hw) (w_69 hw) (w_3 hw) (w_70 hw) (by decide) pd_15 (ct_sam hw hEL [] ro pr ex (parseF cs f t) h64 Gr good) (by simp) at_336 (pc' := 339) rfl rfl (argsL := [(.ref ro), (.int pr), (.long ex)]) rfl rfl (rest := []) rfl (wt := 0) (Nat.le_of_eq rfl) (by decide) (by decide) (by decide) (by decide) ?_
      rintro v65 T65 h65 W65 z65 ⟨rfl, rfl⟩
      show Go p e below _ T65 (mkF m 339 #[.val (.int pa), .val (.int pb), .val (.int pd), .val (.int pc), .val (.int pe), .val (.int pw), .val (.ref b1), .val (.int (Int32.ofNat f)), .val (.int (Int32.ofNat t)), .val (.int pr), .val (.long ex), .second, .val (.ref ro), s13, s14, s15] [(.int (1 : Int32))])
      exact gRetN W65 hret (by simp) at_339 (by decide) (by decide) rfl
    refine s_lconst Wn at_109 (v := (0 : Int64)) (by decide) (pc' := 110) rfl ?_
    refine s_lstore Wn at_110 (l' := #[.val (.int pa), .val (.int pb), .val (.int pd), .val (.int pc), .val (.int pe), .val (.int pw), .val (.ref b1), .val (.int (Int32.ofNat f)), .val (.int (Int32.ofNat t)), .unset, .val (.long (0 : Int64)), .second, .unset, .unset, .unset, .unset]) rfl (pc' := 112) rfl ?_
    refine s_iload Wn at_112 rfl (pc' := 114) rfl ?_
    refine s_iload Wn at_114 rfl (pc' := 116) rfl ?_
    refine s_icmpne Wn at_116 (by decide) (pc1 := 125) (by decide) (pc2 := 119) rfl ?_ ?_
    · intro q116
      have qe : ¬ f = t := fun r => q116 ((eqN (by omega) (by omega)).mpr r)
      have qlt : f < t := by omega
      refine s_aload Wn at_125 rfl rfl (pc' := 127) rfl ?_
      refine s_iload Wn at_127 rfl (pc' := 129) rfl ?_
      have il_129 : f < cs.length := by omega
      have gd_129 := getDj il_129
      refine gLdC Wn Vc ⟨nlt32 (by rw [zero32]; omega), lt32 (by omega)⟩ (v := .int (cs.getD f 0)) (by rw [show ((Int32.ofNat f)).toNatClampNeg = f from by show ((Int32.ofNat f)).toInt.toNat = _; omega, gd_129]; exact getD_map' _ _ _ il_129) at_129 (pc' := 130) rfl ?_
      refine s_bipush Wn at_130 (v := (45 : Int32)) (by decide) (pc' := 132) rfl ?_
      refine s_icmpne Wn at_132 (by decide) (pc1 := 139) (by decide) (pc2 := 135) rfl ?_ ?_
      · intro q132
        have hpf : parseF cs f t = parseN cs f t false f := pfN q132
        refine s_iconst Wn at_139 (v := (0 : Int32)) (by decide) (pc' := 140) rfl ?_
        refine s_istore Wn at_140 (l' := #[.val (.int pa), .val (.int pb), .val (.int pd), .val (.int pc), .val (.int pe), .val (.int pw), .val (.ref b1), .val (.int (Int32.ofNat f)), .val (.int (Int32.ofNat t)), .unset, .val (.long (0 : Int64)), .second, .val (.int (0 : Int32)), .unset, .unset, .unset]) rfl (pc' := 142) rfl ?_
        refine s_iload Wn at_142 rfl (pc' := 144) rfl ?_
        refine s_ifeq Wn at_144 (by decide) (pc1 := 154) (by decide) (pc2 := 147) rfl ?_ (fun q => absurd q (by decide))
        intro q144
        refine s_iload Wn at_154 rfl (pc' := 156) rfl ?_
        refine s_istore Wn at_156 (l' := #[.val (.int pa), .val (.int pb), .val (.int pd), .val (.int pc), .val (.int pe), .val (.int pw), .val (.ref b1), .val (.int (Int32.ofNat f)), .val (.int (Int32.ofNat t)), .unset, .val (.long (0 : Int64)), .second, .val (.int (0 : Int32)), .val (.int (Int32.ofNat f)), .unset, .unset]) rfl (pc' := 158) rfl ?_
        refine s_iload Wn at_158 rfl (pc' := 160) rfl ?_
        refine s_iload Wn at_160 rfl (pc' := 162) rfl ?_
        refine s_icmpne Wn at_162 (by decide) (pc1 := 171) (by decide) (pc2 := 165) rfl ?_ (fun q => absurd q q116)
        intro q162
        have qb : ¬ f = t := fun r => q162 ((eqN (by omega) (by omega)).mpr r)
        refine s_aload Wn at_171 rfl rfl (pc' := 173) rfl ?_
        refine s_iload Wn at_173 rfl (pc' := 175) rfl ?_
        have il_175 : f < cs.length := by omega
        have gd_175 := getDj il_175
        refine gLdC Wn Vc ⟨nlt32 (by rw [zero32]; omega), lt32 (by omega)⟩ (v := .int (cs.getD f 0)) (by rw [show ((Int32.ofNat f)).toNatClampNeg = f from by show ((Int32.ofNat f)).toInt.toNat = _; omega, gd_175]; exact getD_map' _ _ _ il_175) at_175 (pc' := 176) rfl ?_
        refine s_bipush Wn at_176 (v := (48 : Int32)) (by decide) (pc' := 178) rfl ?_
        refine s_icmpne Wn at_178 (by decide) (pc1 := 196) (by decide) (pc2 := 181) rfl ?_ ?_
        · intro q178
          have hn : ¬ (cs.getD f 0 = (48 : Int32) ∧ 1 < t - f) := fun r => q178 r.1
          refine s_aload Wn at_196 rfl rfl (pc' := 198) rfl ?_
          refine s_iload Wn at_198 rfl (pc' := 200) rfl ?_
          refine s_iload Wn at_200 rfl (pc' := 202) rfl ?_
          refine s_lconst Wn at_202 (v := (0 : Int64)) (by decide) (pc' := 203) rfl ?_
          refine gStatic Wn (w_112 hw) (w_113 hw) (w_3 hw) (w_114 hw) (by decide) pd_16 (ct_acc hw hEL [] b1 k1 (Int32.ofNat f) (Int32.ofNat t) (6 : Int32) (0 : Int64) cs f t h18 h6 tf tt (by omega) Vc) (by simp) at_203 (pc' := 206) rfl rfl (argsL := [(.ref b1), (.int (Int32.ofNat f)), (.int (Int32.ofNat t)), (.long (0 : Int64))]) rfl rfl (rest := []) rfl (wt := 0) (Nat.le_of_eq rfl) (by decide) (by decide) (by decide) (by decide) ?_
          rintro v20 T20 h20 W20 z20 ⟨rfl, rfl⟩
          show Go p e below _ T20 (mkF m 206 #[.val (.int pa), .val (.int pb), .val (.int pd), .val (.int pc), .val (.int pe), .val (.int pw), .val (.ref b1), .val (.int (Int32.ofNat f)), .val (.int (Int32.ofNat t)), .unset, .val (.long (0 : Int64)), .second, .val (.int (0 : Int32)), .val (.int (Int32.ofNat f)), .unset, .unset] [(.long (accF cs t f (0 : Int64)))])
          obtain ⟨va0, hva0⟩ : ∃ q : Int64, q = (accF cs t f (0 : Int64)) := ⟨_, rfl⟩
          rw [← hva0]
          refine s_lstore W20 at_206 (l' := #[.val (.int pa), .val (.int pb), .val (.int pd), .val (.int pc), .val (.int pe), .val (.int pw), .val (.ref b1), .val (.int (Int32.ofNat f)), .val (.int (Int32.ofNat t)), .unset, .val (.long (0 : Int64)), .second, .val (.int (0 : Int32)), .val (.int (Int32.ofNat f)), .val (.long va0), .second]) rfl (pc' := 208) rfl ?_
          refine s_aload W20 at_208 rfl rfl (pc' := 210) rfl ?_
          refine s_iload W20 at_210 rfl (pc' := 212) rfl ?_
          refine s_iconst W20 at_212 (v := (1 : Int32)) (by decide) (pc' := 213) rfl ?_
          refine s_iadd W20 at_213 (pc' := 214) rfl ?_
          refine s_iload W20 at_214 rfl (pc' := 216) rfl ?_
          refine s_lload W20 at_216 rfl (pc' := 218) rfl ?_
          refine gStatic W20 (w_112 hw) (w_113 hw) (w_3 hw) (w_114 hw) (by decide) pd_16 (ct_acc hw hEL [] b1 k1 ((Int32.ofNat f) + (1 : Int32)) (Int32.ofNat t) (6 : Int32) va0 cs (f + 1) t h18 h6 (addN (b := f) (by omega) ⟨1, by decide⟩) tt (by omega) Vc) (by simp) at_218 (pc' := 221) rfl rfl (argsL := [(.ref b1), (.int ((Int32.ofNat f) + (1 : Int32))), (.int (Int32.ofNat t)), (.long va0)]) rfl rfl (rest := []) rfl (wt := 0) (Nat.le_of_eq rfl) (by decide) (by decide) (by decide) (by decide) ?_
          rintro v21 T21 h21 W21 z21 ⟨rfl, rfl⟩
          show Go p e below _ T21 (mkF m 221 #[.val (.int pa), .val (.int pb), .val (.int pd), .val (.int pc), .val (.int pe), .val (.int pw), .val (.ref b1), .val (.int (Int32.ofNat f)), .val (.int (Int32.ofNat t)), .unset, .val (.long (0 : Int64)), .second, .val (.int (0 : Int32)), .val (.int (Int32.ofNat f)), .val (.long va0), .second] [(.long (accF cs t (f + 1) va0))])
          obtain ⟨va1, hva1⟩ : ∃ q : Int64, q = (accF cs t (f + 1) va0) := ⟨_, rfl⟩
          rw [← hva1]
          refine s_lstore W21 at_221 (l' := #[.val (.int pa), .val (.int pb), .val (.int pd), .val (.int pc), .val (.int pe), .val (.int pw), .val (.ref b1), .val (.int (Int32.ofNat f)), .val (.int (Int32.ofNat t)), .unset, .val (.long (0 : Int64)), .second, .val (.int (0 : Int32)), .val (.int (Int32.ofNat f)), .val (.long va1), .second]) rfl (pc' := 223) rfl ?_
          refine s_aload W21 at_223 rfl rfl (pc' := 225) rfl ?_
          refine s_iload W21 at_225 rfl (pc' := 227) rfl ?_
          refine s_iconst W21 at_227 (v := (2 : Int32)) (by decide) (pc' := 228) rfl ?_
          refine s_iadd W21 at_228 (pc' := 229) rfl ?_
          refine s_iload W21 at_229 rfl (pc' := 231) rfl ?_
          refine s_lload W21 at_231 rfl (pc' := 233) rfl ?_
          refine gStatic W21 (w_112 hw) (w_113 hw) (w_3 hw) (w_114 hw) (by decide) pd_16 (ct_acc hw hEL [] b1 k1 ((Int32.ofNat f) + (2 : Int32)) (Int32.ofNat t) (6 : Int32) va1 cs (f + 2) t h18 h6 (addN (b := f) (by omega) ⟨2, by decide⟩) tt (by omega) Vc) (by simp) at_233 (pc' := 236) rfl rfl (argsL := [(.ref b1), (.int ((Int32.ofNat f) + (2 : Int32))), (.int (Int32.ofNat t)), (.long va1)]) rfl rfl (rest := []) rfl (wt := 0) (Nat.le_of_eq rfl) (by decide) (by decide) (by decide) (by decide) ?_
          rintro v22 T22 h22 W22 z22 ⟨rfl, rfl⟩
          show Go p e below _ T22 (mkF m 236 #[.val (.int pa), .val (.int pb), .val (.int pd), .val (.int pc), .val (.int pe), .val (.int pw), .val (.ref b1), .val (.int (Int32.ofNat f)), .val (.int (Int32.ofNat t)), .unset, .val (.long (0 : Int64)), .second, .val (.int (0 : Int32)), .val (.int (Int32.ofNat f)), .val (.long va1), .second] [(.long (accF cs t (f + 2) va1))])
          obtain ⟨va2, hva2⟩ : ∃ q : Int64, q = (accF cs t (f + 2) va1) := ⟨_, rfl⟩
          rw [← hva2]
          refine s_lstore W22 at_236 (l' := #[.val (.int pa), .val (.int pb), .val (.int pd), .val (.int pc), .val (.int pe), .val (.int pw), .val (.ref b1), .val (.int (Int32.ofNat f)), .val (.int (Int32.ofNat t)), .unset, .val (.long (0 : Int64)), .second, .val (.int (0 : Int32)), .val (.int (Int32.ofNat f)), .val (.long va2), .second]) rfl (pc' := 238) rfl ?_
          refine s_aload W22 at_238 rfl rfl (pc' := 240) rfl ?_
          refine s_iload W22 at_240 rfl (pc' := 242) rfl ?_
          refine s_iconst W22 at_242 (v := (3 : Int32)) (by decide) (pc' := 243) rfl ?_
          refine s_iadd W22 at_243 (pc' := 244) rfl ?_
          refine s_iload W22 at_244 rfl (pc' := 246) rfl ?_
          refine s_lload W22 at_246 rfl (pc' := 248) rfl ?_
          refine gStatic W22 (w_112 hw) (w_113 hw) (w_3 hw) (w_114 hw) (by decide) pd_16 (ct_acc hw hEL [] b1 k1 ((Int32.ofNat f) + (3 : Int32)) (Int32.ofNat t) (6 : Int32) va2 cs (f + 3) t h18 h6 (addN (b := f) (by omega) ⟨3, by decide⟩) tt (by omega) Vc) (by simp) at_248 (pc' := 251) rfl rfl (argsL := [(.ref b1), (.int ((Int32.ofNat f) + (3 : Int32))), (.int (Int32.ofNat t)), (.long va2)]) rfl rfl (rest := []) rfl (wt := 0) (Nat.le_of_eq rfl) (by decide) (by decide) (by decide) (by decide) ?_
          rintro v23 T23 h23 W23 z23 ⟨rfl, rfl⟩
          show Go p e below _ T23 (mkF m 251 #[.val (.int pa), .val (.int pb), .val (.int pd), .val (.int pc), .val (.int pe), .val (.int pw), .val (.ref b1), .val (.int (Int32.ofNat f)), .val (.int (Int32.ofNat t)), .unset, .val (.long (0 : Int64)), .second, .val (.int (0 : Int32)), .val (.int (Int32.ofNat f)), .val (.long va2), .second] [(.long (accF cs t (f + 3) va2))])
          obtain ⟨va3, hva3⟩ : ∃ q : Int64, q = (accF cs t (f + 3) va2) := ⟨_, rfl⟩
          rw [← hva3]
          refine s_lstore W23 at_251 (l' := #[.val (.int pa), .val (.int pb), .val (.int pd), .val (.int pc), .val (.int pe), .val (.int pw), .val (.ref b1), .val (.int (Int32.ofNat f)), .val (.int (Int32.ofNat t)), .unset, .val (.long (0 : Int64)), .second, .val (.int (0 : Int32)), .val (.int (Int32.ofNat f)), .val (.long va3), .second]) rfl (pc' := 253) rfl ?_
          refine s_aload W23 at_253 rfl rfl (pc' := 255) rfl ?_
          refine s_iload W23 at_255 rfl (pc' := 257) rfl ?_
          refine s_iconst W23 at_257 (v := (4 : Int32)) (by decide) (pc' := 258) rfl ?_
          refine s_iadd W23 at_258 (pc' := 259) rfl ?_
          refine s_iload W23 at_259 rfl (pc' := 261) rfl ?_
          refine s_lload W23 at_261 rfl (pc' := 263) rfl ?_
          refine gStatic W23 (w_112 hw) (w_113 hw) (w_3 hw) (w_114 hw) (by decide) pd_16 (ct_acc hw hEL [] b1 k1 ((Int32.ofNat f) + (4 : Int32)) (Int32.ofNat t) (6 : Int32) va3 cs (f + 4) t h18 h6 (addN (b := f) (by omega) ⟨4, by decide⟩) tt (by omega) Vc) (by simp) at_263 (pc' := 266) rfl rfl (argsL := [(.ref b1), (.int ((Int32.ofNat f) + (4 : Int32))), (.int (Int32.ofNat t)), (.long va3)]) rfl rfl (rest := []) rfl (wt := 0) (Nat.le_of_eq rfl) (by decide) (by decide) (by decide) (by decide) ?_
          rintro v24 T24 h24 W24 z24 ⟨rfl, rfl⟩
          show Go p e below _ T24 (mkF m 266 #[.val (.int pa), .val (.int pb), .val (.int pd), .val (.int pc), .val (.int pe), .val (.int pw), .val (.ref b1), .val (.int (Int32.ofNat f)), .val (.int (Int32.ofNat t)), .unset, .val (.long (0 : Int64)), .second, .val (.int (0 : Int32)), .val (.int (Int32.ofNat f)), .val (.long va3), .second] [(.long (accF cs t (f + 4) va3))])
          obtain ⟨va4, hva4⟩ : ∃ q : Int64, q = (accF cs t (f + 4) va3) := ⟨_, rfl⟩
          rw [← hva4]
          refine s_lstore W24 at_266 (l' := #[.val (.int pa), .val (.int pb), .val (.int pd), .val (.int pc), .val (.int pe), .val (.int pw), .val (.ref b1), .val (.int (Int32.ofNat f)), .val (.int (Int32.ofNat t)), .unset, .val (.long (0 : Int64)), .second, .val (.int (0 : Int32)), .val (.int (Int32.ofNat f)), .val (.long va4), .second]) rfl (pc' := 268) rfl ?_
          refine s_aload W24 at_268 rfl rfl (pc' := 270) rfl ?_
          refine s_iload W24 at_270 rfl (pc' := 272) rfl ?_
          refine s_iconst W24 at_272 (v := (5 : Int32)) (by decide) (pc' := 273) rfl ?_
          refine s_iadd W24 at_273 (pc' := 274) rfl ?_
          refine s_iload W24 at_274 rfl (pc' := 276) rfl ?_
          refine s_lload W24 at_276 rfl (pc' := 278) rfl ?_
          refine gStatic W24 (w_112 hw) (w_113 hw) (w_3 hw) (w_114 hw) (by decide) pd_16 (ct_acc hw hEL [] b1 k1 ((Int32.ofNat f) + (5 : Int32)) (Int32.ofNat t) (6 : Int32) va4 cs (f + 5) t h18 h6 (addN (b := f) (by omega) ⟨5, by decide⟩) tt (by omega) Vc) (by simp) at_278 (pc' := 281) rfl rfl (argsL := [(.ref b1), (.int ((Int32.ofNat f) + (5 : Int32))), (.int (Int32.ofNat t)), (.long va4)]) rfl rfl (rest := []) rfl (wt := 0) (Nat.le_of_eq rfl) (by decide) (by decide) (by decide) (by decide) ?_
          rintro v25 T25 h25 W25 z25 ⟨rfl, rfl⟩
          show Go p e below _ T25 (mkF m 281 #[.val (.int pa), .val (.int pb), .val (.int pd), .val (.int pc), .val (.int pe), .val (.int pw), .val (.ref b1), .val (.int (Int32.ofNat f)), .val (.int (Int32.ofNat t)), .unset, .val (.long (0 : Int64)), .second, .val (.int (0 : Int32)), .val (.int (Int32.ofNat f)), .val (.long va4), .second] [(.long (accF cs t (f + 5) va4))])
          obtain ⟨va5, hva5⟩ : ∃ q : Int64, q = (accF cs t (f + 5) va4) := ⟨_, rfl⟩
          rw [← hva5]
          have hva : va5 = accN cs t 6 f 0 := accN6 hva0 hva1 hva2 hva3 hva4 hva5
          clear hva0 hva1 hva2 hva3 hva4 hva5
          refine s_lstore W25 at_281 (l' := #[.val (.int pa), .val (.int pb), .val (.int pd), .val (.int pc), .val (.int pe), .val (.int pw), .val (.ref b1), .val (.int (Int32.ofNat f)), .val (.int (Int32.ofNat t)), .unset, .val (.long (0 : Int64)), .second, .val (.int (0 : Int32)), .val (.int (Int32.ofNat f)), .val (.long va5), .second]) rfl (pc' := 283) rfl ?_
          refine s_lload W25 at_283 rfl (pc' := 285) rfl ?_
          refine s_lconst W25 at_285 (v := (0 : Int64)) (by decide) (pc' := 286) rfl ?_
          refine s_lcmp W25 at_286 (pc' := 287) rfl ?_
          refine s_iflt W25 at_287 (by decide) (pc1 := 294) (by decide) (pc2 := 290) rfl ?_ ?_
          · intro q287
            have hv : accN cs t 6 f 0 < 0 := ltE64 hva ((lw_lt _ _).mp q287)
            refine s_iconst W25 at_294 (v := (0 : Int32)) (by decide) (pc' := 295) rfl ?_
            refine s_istore W25 at_295 (l' := #[.val (.int pa), .val (.int pb), .val (.int pd), .val (.int pc), .val (.int pe), .val (.int pw), .val (.ref b1), .val (.int (Int32.ofNat f)), .val (.int (Int32.ofNat t)), .val (.int (0 : Int32)), .val (.long (0 : Int64)), .second, .val (.int (0 : Int32)), .val (.int (Int32.ofNat f)), .val (.long va5), .second]) rfl (pc' := 297) rfl ?_
            refine s_iload W25 at_297 rfl (pc' := 299) rfl ?_
            refine s_ifeq W25 at_299 (by decide) (pc1 := 308) (by decide) (pc2 := 302) rfl ?_ (fun q => absurd q (by decide))
            intro q299
            refine s_lload W25 at_308 rfl (pc' := 310) rfl ?_
            refine s_lstore W25 at_310 (l' := #[.val (.int pa), .val (.int pb), .val (.int pd), .val (.int pc), .val (.int pe), .val (.int pw), .val (.ref b1), .val (.int (Int32.ofNat f)), .val (.int (Int32.ofNat t)), .val (.int (0 : Int32)), .val (.long va5), .second, .val (.int (0 : Int32)), .val (.int (Int32.ofNat f)), .val (.long va5), .second]) rfl (pc' := 312) rfl ?_
            exact tail T25 (0 : Int32) va5 (.val (.int (0 : Int32))) (.val (.int (Int32.ofNat f))) (.val (.long va5)) (.second) W25 (One1.i _) (good0 (hpf.trans (pnD0 hgd (by omega) (by omega) qb hn hv)))
          · intro q287
            have hv : ¬ accN cs t 6 f 0 < 0 := nltE64 hva (fun r => q287 ((lw_lt _ _).mpr r))
            refine s_iconst W25 at_290 (v := (1 : Int32)) (by decide) (pc' := 291) rfl ?_
            refine s_goto W25 at_291 (by decide) (pc' := 295) (by decide) ?_
            refine s_istore W25 at_295 (l' := #[.val (.int pa), .val (.int pb), .val (.int pd), .val (.int pc), .val (.int pe), .val (.int pw), .val (.ref b1), .val (.int (Int32.ofNat f)), .val (.int (Int32.ofNat t)), .val (.int (1 : Int32)), .val (.long (0 : Int64)), .second, .val (.int (0 : Int32)), .val (.int (Int32.ofNat f)), .val (.long va5), .second]) rfl (pc' := 297) rfl ?_
            refine s_iload W25 at_297 rfl (pc' := 299) rfl ?_
            refine s_ifeq W25 at_299 (by decide) (pc1 := 308) (by decide) (pc2 := 302) rfl ?_ (fun q => absurd q (by decide))
            intro q299
            refine s_lload W25 at_308 rfl (pc' := 310) rfl ?_
            refine s_lstore W25 at_310 (l' := #[.val (.int pa), .val (.int pb), .val (.int pd), .val (.int pc), .val (.int pe), .val (.int pw), .val (.ref b1), .val (.int (Int32.ofNat f)), .val (.int (Int32.ofNat t)), .val (.int (1 : Int32)), .val (.long va5), .second, .val (.int (0 : Int32)), .val (.int (Int32.ofNat f)), .val (.long va5), .second]) rfl (pc' := 312) rfl ?_
            exact tail T25 (1 : Int32) va5 (.val (.int (0 : Int32))) (.val (.int (Int32.ofNat f))) (.val (.long va5)) (.second) W25 (One1.i _) (good1 (hpf.trans (pnD1f hgd (by omega) (by omega) qb hn hv hva)))
        · intro q178
          refine s_iload Wn at_181 rfl (pc' := 183) rfl ?_
          refine s_iload Wn at_183 rfl (pc' := 185) rfl ?_
          refine s_isub Wn at_185 (pc' := 186) rfl ?_
          refine s_iconst Wn at_186 (v := (1 : Int32)) (by decide) (pc' := 187) rfl ?_
          refine s_icmple Wn at_187 (by decide) (pc1 := 196) (by decide) (pc2 := 190) rfl ?_ ?_
          · intro q187
            have hn : ¬ (cs.getD f 0 = (48 : Int32) ∧ 1 < t - f) := fun r => q187 ((subN hft (by omega)).mpr r.2)
            refine s_aload Wn at_196 rfl rfl (pc' := 198) rfl ?_
            refine s_iload Wn at_198 rfl (pc' := 200) rfl ?_
            refine s_iload Wn at_200 rfl (pc' := 202) rfl ?_
            refine s_lconst Wn at_202 (v := (0 : Int64)) (by decide) (pc' := 203) rfl ?_
            refine gStatic Wn (w_112 hw) (w_113 hw) (w_3 hw) (w_114 hw) (by decide) pd_16 (ct_acc hw hEL [] b1 k1 (Int32.ofNat f) (Int32.ofNat t) (6 : Int32) (0 : Int64) cs f t h18 h6 tf tt (by omega) Vc) (by simp) at_203 (pc' := 206) rfl rfl (argsL := [(.ref b1), (.int (Int32.ofNat f)), (.int (Int32.ofNat t)), (.long (0 : Int64))]) rfl rfl (rest := []) rfl (wt := 0) (Nat.le_of_eq rfl) (by decide) (by decide) (by decide) (by decide) ?_
            rintro v26 T26 h26 W26 z26 ⟨rfl, rfl⟩
            show Go p e below _ T26 (mkF m 206 #[.val (.int pa), .val (.int pb), .val (.int pd), .val (.int pc), .val (.int pe), .val (.int pw), .val (.ref b1), .val (.int (Int32.ofNat f)), .val (.int (Int32.ofNat t)), .unset, .val (.long (0 : Int64)), .second, .val (.int (0 : Int32)), .val (.int (Int32.ofNat f)), .unset, .unset] [(.long (accF cs t f (0 : Int64)))])
            obtain ⟨va0, hva0⟩ : ∃ q : Int64, q = (accF cs t f (0 : Int64)) := ⟨_, rfl⟩
            rw [← hva0]
            refine s_lstore W26 at_206 (l' := #[.val (.int pa), .val (.int pb), .val (.int pd), .val (.int pc), .val (.int pe), .val (.int pw), .val (.ref b1), .val (.int (Int32.ofNat f)), .val (.int (Int32.ofNat t)), .unset, .val (.long (0 : Int64)), .second, .val (.int (0 : Int32)), .val (.int (Int32.ofNat f)), .val (.long va0), .second]) rfl (pc' := 208) rfl ?_
            refine s_aload W26 at_208 rfl rfl (pc' := 210) rfl ?_
            refine s_iload W26 at_210 rfl (pc' := 212) rfl ?_
            refine s_iconst W26 at_212 (v := (1 : Int32)) (by decide) (pc' := 213) rfl ?_
            refine s_iadd W26 at_213 (pc' := 214) rfl ?_
            refine s_iload W26 at_214 rfl (pc' := 216) rfl ?_
            refine s_lload W26 at_216 rfl (pc' := 218) rfl ?_
            refine gStatic W26 (w_112 hw) (w_113 hw) (w_3 hw) (w_114 hw) (by decide) pd_16 (ct_acc hw hEL [] b1 k1 ((Int32.ofNat f) + (1 : Int32)) (Int32.ofNat t) (6 : Int32) va0 cs (f + 1) t h18 h6 (addN (b := f) (by omega) ⟨1, by decide⟩) tt (by omega) Vc) (by simp) at_218 (pc' := 221) rfl rfl (argsL := [(.ref b1), (.int ((Int32.ofNat f) + (1 : Int32))), (.int (Int32.ofNat t)), (.long va0)]) rfl rfl (rest := []) rfl (wt := 0) (Nat.le_of_eq rfl) (by decide) (by decide) (by decide) (by decide) ?_
            rintro v27 T27 h27 W27 z27 ⟨rfl, rfl⟩
            show Go p e below _ T27 (mkF m 221 #[.val (.int pa), .val (.int pb), .val (.int pd), .val (.int pc), .val (.int pe), .val (.int pw), .val (.ref b1), .val (.int (Int32.ofNat f)), .val (.int (Int32.ofNat t)), .unset, .val (.long (0 : Int64)), .second, .val (.int (0 : Int32)), .val (.int (Int32.ofNat f)), .val (.long va0), .second] [(.long (accF cs t (f + 1) va0))])
            obtain ⟨va1, hva1⟩ : ∃ q : Int64, q = (accF cs t (f + 1) va0) := ⟨_, rfl⟩
            rw [← hva1]
            refine s_lstore W27 at_221 (l' := #[.val (.int pa), .val (.int pb), .val (.int pd), .val (.int pc), .val (.int pe), .val (.int pw), .val (.ref b1), .val (.int (Int32.ofNat f)), .val (.int (Int32.ofNat t)), .unset, .val (.long (0 : Int64)), .second, .val (.int (0 : Int32)), .val (.int (Int32.ofNat f)), .val (.long va1), .second]) rfl (pc' := 223) rfl ?_
            refine s_aload W27 at_223 rfl rfl (pc' := 225) rfl ?_
            refine s_iload W27 at_225 rfl (pc' := 227) rfl ?_
            refine s_iconst W27 at_227 (v := (2 : Int32)) (by decide) (pc' := 228) rfl ?_
            refine s_iadd W27 at_228 (pc' := 229) rfl ?_
            refine s_iload W27 at_229 rfl (pc' := 231) rfl ?_
            refine s_lload W27 at_231 rfl (pc' := 233) rfl ?_
            refine gStatic W27 (w_112 hw) (w_113 hw) (w_3 hw) (w_114 hw) (by decide) pd_16 (ct_acc hw hEL [] b1 k1 ((Int32.ofNat f) + (2 : Int32)) (Int32.ofNat t) (6 : Int32) va1 cs (f + 2) t h18 h6 (addN (b := f) (by omega) ⟨2, by decide⟩) tt (by omega) Vc) (by simp) at_233 (pc' := 236) rfl rfl (argsL := [(.ref b1), (.int ((Int32.ofNat f) + (2 : Int32))), (.int (Int32.ofNat t)), (.long va1)]) rfl rfl (rest := []) rfl (wt := 0) (Nat.le_of_eq rfl) (by decide) (by decide) (by decide) (by decide) ?_
            rintro v28 T28 h28 W28 z28 ⟨rfl, rfl⟩
            show Go p e below _ T28 (mkF m 236 #[.val (.int pa), .val (.int pb), .val (.int pd), .val (.int pc), .val (.int pe), .val (.int pw), .val (.ref b1), .val (.int (Int32.ofNat f)), .val (.int (Int32.ofNat t)), .unset, .val (.long (0 : Int64)), .second, .val (.int (0 : Int32)), .val (.int (Int32.ofNat f)), .val (.long va1), .second] [(.long (accF cs t (f + 2) va1))])
            obtain ⟨va2, hva2⟩ : ∃ q : Int64, q = (accF cs t (f + 2) va1) := ⟨_, rfl⟩
            rw [← hva2]
            refine s_lstore W28 at_236 (l' := #[.val (.int pa), .val (.int pb), .val (.int pd), .val (.int pc), .val (.int pe), .val (.int pw), .val (.ref b1), .val (.int (Int32.ofNat f)), .val (.int (Int32.ofNat t)), .unset, .val (.long (0 : Int64)), .second, .val (.int (0 : Int32)), .val (.int (Int32.ofNat f)), .val (.long va2), .second]) rfl (pc' := 238) rfl ?_
            refine s_aload W28 at_238 rfl rfl (pc' := 240) rfl ?_
            refine s_iload W28 at_240 rfl (pc' := 242) rfl ?_
            refine s_iconst W28 at_242 (v := (3 : Int32)) (by decide) (pc' := 243) rfl ?_
            refine s_iadd W28 at_243 (pc' := 244) rfl ?_
            refine s_iload W28 at_244 rfl (pc' := 246) rfl ?_
            refine s_lload W28 at_246 rfl (pc' := 248) rfl ?_
            refine gStatic W28 (w_112 hw) (w_113 hw) (w_3 hw) (w_114 hw) (by decide) pd_16 (ct_acc hw hEL [] b1 k1 ((Int32.ofNat f) + (3 : Int32)) (Int32.ofNat t) (6 : Int32) va2 cs (f + 3) t h18 h6 (addN (b := f) (by omega) ⟨3, by decide⟩) tt (by omega) Vc) (by simp) at_248 (pc' := 251) rfl rfl (argsL := [(.ref b1), (.int ((Int32.ofNat f) + (3 : Int32))), (.int (Int32.ofNat t)), (.long va2)]) rfl rfl (rest := []) rfl (wt := 0) (Nat.le_of_eq rfl) (by decide) (by decide) (by decide) (by decide) ?_
            rintro v29 T29 h29 W29 z29 ⟨rfl, rfl⟩
            show Go p e below _ T29 (mkF m 251 #[.val (.int pa), .val (.int pb), .val (.int pd), .val (.int pc), .val (.int pe), .val (.int pw), .val (.ref b1), .val (.int (Int32.ofNat f)), .val (.int (Int32.ofNat t)), .unset, .val (.long (0 : Int64)), .second, .val (.int (0 : Int32)), .val (.int (Int32.ofNat f)), .val (.long va2), .second] [(.long (accF cs t (f + 3) va2))])
            obtain ⟨va3, hva3⟩ : ∃ q : Int64, q = (accF cs t (f + 3) va2) := ⟨_, rfl⟩
            rw [← hva3]
            refine s_lstore W29 at_251 (l' := #[.val (.int pa), .val (.int pb), .val (.int pd), .val (.int pc), .val (.int pe), .val (.int pw), .val (.ref b1), .val (.int (Int32.ofNat f)), .val (.int (Int32.ofNat t)), .unset, .val (.long (0 : Int64)), .second, .val (.int (0 : Int32)), .val (.int (Int32.ofNat f)), .val (.long va3), .second]) rfl (pc' := 253) rfl ?_
            refine s_aload W29 at_253 rfl rfl (pc' := 255) rfl ?_
            refine s_iload W29 at_255 rfl (pc' := 257) rfl ?_
            refine s_iconst W29 at_257 (v := (4 : Int32)) (by decide) (pc' := 258) rfl ?_
            refine s_iadd W29 at_258 (pc' := 259) rfl ?_
            refine s_iload W29 at_259 rfl (pc' := 261) rfl ?_
            refine s_lload W29 at_261 rfl (pc' := 263) rfl ?_
            refine gStatic W29 (w_112 hw) (w_113 hw) (w_3 hw) (w_114 hw) (by decide) pd_16 (ct_acc hw hEL [] b1 k1 ((Int32.ofNat f) + (4 : Int32)) (Int32.ofNat t) (6 : Int32) va3 cs (f + 4) t h18 h6 (addN (b := f) (by omega) ⟨4, by decide⟩) tt (by omega) Vc) (by simp) at_263 (pc' := 266) rfl rfl (argsL := [(.ref b1), (.int ((Int32.ofNat f) + (4 : Int32))), (.int (Int32.ofNat t)), (.long va3)]) rfl rfl (rest := []) rfl (wt := 0) (Nat.le_of_eq rfl) (by decide) (by decide) (by decide) (by decide) ?_
            rintro v30 T30 h30 W30 z30 ⟨rfl, rfl⟩
            show Go p e below _ T30 (mkF m 266 #[.val (.int pa), .val (.int pb), .val (.int pd), .val (.int pc), .val (.int pe), .val (.int pw), .val (.ref b1), .val (.int (Int32.ofNat f)), .val (.int (Int32.ofNat t)), .unset, .val (.long (0 : Int64)), .second, .val (.int (0 : Int32)), .val (.int (Int32.ofNat f)), .val (.long va3), .second] [(.long (accF cs t (f + 4) va3))])
            obtain ⟨va4, hva4⟩ : ∃ q : Int64, q = (accF cs t (f + 4) va3) := ⟨_, rfl⟩
            rw [← hva4]
            refine s_lstore W30 at_266 (l' := #[.val (.int pa), .val (.int pb), .val (.int pd), .val (.int pc), .val (.int pe), .val (.int pw), .val (.ref b1), .val (.int (Int32.ofNat f)), .val (.int (Int32.ofNat t)), .unset, .val (.long (0 : Int64)), .second, .val (.int (0 : Int32)), .val (.int (Int32.ofNat f)), .val (.long va4), .second]) rfl (pc' := 268) rfl ?_
            refine s_aload W30 at_268 rfl rfl (pc' := 270) rfl ?_
            refine s_iload W30 at_270 rfl (pc' := 272) rfl ?_
            refine s_iconst W30 at_272 (v := (5 : Int32)) (by decide) (pc' := 273) rfl ?_
            refine s_iadd W30 at_273 (pc' := 274) rfl ?_
            refine s_iload W30 at_274 rfl (pc' := 276) rfl ?_
            refine s_lload W30 at_276 rfl (pc' := 278) rfl ?_
            refine gStatic W30 (w_112 hw) (w_113 hw) (w_3 hw) (w_114 hw) (by decide) pd_16 (ct_acc hw hEL [] b1 k1 ((Int32.ofNat f) + (5 : Int32)) (Int32.ofNat t) (6 : Int32) va4 cs (f + 5) t h18 h6 (addN (b := f) (by omega) ⟨5, by decide⟩) tt (by omega) Vc) (by simp) at_278 (pc' := 281) rfl rfl (argsL := [(.ref b1), (.int ((Int32.ofNat f) + (5 : Int32))), (.int (Int32.ofNat t)), (.long va4)]) rfl rfl (rest := []) rfl (wt := 0) (Nat.le_of_eq rfl) (by decide) (by decide) (by decide) (by decide) ?_
            rintro v31 T31 h31 W31 z31 ⟨rfl, rfl⟩
            show Go p e below _ T31 (mkF m 281 #[.val (.int pa), .val (.int pb), .val (.int pd), .val (.int pc), .val (.int pe), .val (.int pw), .val (.ref b1), .val (.int (Int32.ofNat f)), .val (.int (Int32.ofNat t)), .unset, .val (.long (0 : Int64)), .second, .val (.int (0 : Int32)), .val (.int (Int32.ofNat f)), .val (.long va4), .second] [(.long (accF cs t (f + 5) va4))])
            obtain ⟨va5, hva5⟩ : ∃ q : Int64, q = (accF cs t (f + 5) va4) := ⟨_, rfl⟩
            rw [← hva5]
            have hva : va5 = accN cs t 6 f 0 := accN6 hva0 hva1 hva2 hva3 hva4 hva5
            clear hva0 hva1 hva2 hva3 hva4 hva5
            refine s_lstore W31 at_281 (l' := #[.val (.int pa), .val (.int pb), .val (.int pd), .val (.int pc), .val (.int pe), .val (.int pw), .val (.ref b1), .val (.int (Int32.ofNat f)), .val (.int (Int32.ofNat t)), .unset, .val (.long (0 : Int64)), .second, .val (.int (0 : Int32)), .val (.int (Int32.ofNat f)), .val (.long va5), .second]) rfl (pc' := 283) rfl ?_
            refine s_lload W31 at_283 rfl (pc' := 285) rfl ?_
            refine s_lconst W31 at_285 (v := (0 : Int64)) (by decide) (pc' := 286) rfl ?_
            refine s_lcmp W31 at_286 (pc' := 287) rfl ?_
            refine s_iflt W31 at_287 (by decide) (pc1 := 294) (by decide) (pc2 := 290) rfl ?_ ?_
            · intro q287
              have hv : accN cs t 6 f 0 < 0 := ltE64 hva ((lw_lt _ _).mp q287)
              refine s_iconst W31 at_294 (v := (0 : Int32)) (by decide) (pc' := 295) rfl ?_
              refine s_istore W31 at_295 (l' := #[.val (.int pa), .val (.int pb), .val (.int pd), .val (.int pc), .val (.int pe), .val (.int pw), .val (.ref b1), .val (.int (Int32.ofNat f)), .val (.int (Int32.ofNat t)), .val (.int (0 : Int32)), .val (.long (0 : Int64)), .second, .val (.int (0 : Int32)), .val (.int (Int32.ofNat f)), .val (.long va5), .second]) rfl (pc' := 297) rfl ?_
              refine s_iload W31 at_297 rfl (pc' := 299) rfl ?_
              refine s_ifeq W31 at_299 (by decide) (pc1 := 308) (by decide) (pc2 := 302) rfl ?_ (fun q => absurd q (by decide))
              intro q299
              refine s_lload W31 at_308 rfl (pc' := 310) rfl ?_
              refine s_lstore W31 at_310 (l' := #[.val (.int pa), .val (.int pb), .val (.int pd), .val (.int pc), .val (.int pe), .val (.int pw), .val (.ref b1), .val (.int (Int32.ofNat f)), .val (.int (Int32.ofNat t)), .val (.int (0 : Int32)), .val (.long va5), .second, .val (.int (0 : Int32)), .val (.int (Int32.ofNat f)), .val (.long va5), .second]) rfl (pc' := 312) rfl ?_
              exact tail T31 (0 : Int32) va5 (.val (.int (0 : Int32))) (.val (.int (Int32.ofNat f))) (.val (.long va5)) (.second) W31 (One1.i _) (good0 (hpf.trans (pnD0 hgd (by omega) (by omega) qb hn hv)))
            · intro q287
              have hv : ¬ accN cs t 6 f 0 < 0 := nltE64 hva (fun r => q287 ((lw_lt _ _).mpr r))
              refine s_iconst W31 at_290 (v := (1 : Int32)) (by decide) (pc' := 291) rfl ?_
              refine s_goto W31 at_291 (by decide) (pc' := 295) (by decide) ?_
              refine s_istore W31 at_295 (l' := #[.val (.int pa), .val (.int pb), .val (.int pd), .val (.int pc), .val (.int pe), .val (.int pw), .val (.ref b1), .val (.int (Int32.ofNat f)), .val (.int (Int32.ofNat t)), .val (.int (1 : Int32)), .val (.long (0 : Int64)), .second, .val (.int (0 : Int32)), .val (.int (Int32.ofNat f)), .val (.long va5), .second]) rfl (pc' := 297) rfl ?_
              refine s_iload W31 at_297 rfl (pc' := 299) rfl ?_
              refine s_ifeq W31 at_299 (by decide) (pc1 := 308) (by decide) (pc2 := 302) rfl ?_ (fun q => absurd q (by decide))
              intro q299
              refine s_lload W31 at_308 rfl (pc' := 310) rfl ?_
              refine s_lstore W31 at_310 (l' := #[.val (.int pa), .val (.int pb), .val (.int pd), .val (.int pc), .val (.int pe), .val (.int pw), .val (.ref b1), .val (.int (Int32.ofNat f)), .val (.int (Int32.ofNat t)), .val (.int (1 : Int32)), .val (.long va5), .second, .val (.int (0 : Int32)), .val (.int (Int32.ofNat f)), .val (.long va5), .second]) rfl (pc' := 312) rfl ?_
              exact tail T31 (1 : Int32) va5 (.val (.int (0 : Int32))) (.val (.int (Int32.ofNat f))) (.val (.long va5)) (.second) W31 (One1.i _) (good1 (hpf.trans (pnD1f hgd (by omega) (by omega) qb hn hv hva)))
          · intro q187
            refine s_iconst Wn at_190 (v := (0 : Int32)) (by decide) (pc' := 191) rfl ?_
            refine s_istore Wn at_191 (l' := #[.val (.int pa), .val (.int pb), .val (.int pd), .val (.int pc), .val (.int pe), .val (.int pw), .val (.ref b1), .val (.int (Int32.ofNat f)), .val (.int (Int32.ofNat t)), .val (.int (0 : Int32)), .val (.long (0 : Int64)), .second, .val (.int (0 : Int32)), .val (.int (Int32.ofNat f)), .unset, .unset]) rfl (pc' := 193) rfl ?_
            refine s_goto Wn at_193 (by decide) (pc' := 312) (by decide) ?_
            exact tail T18 (0 : Int32) (0 : Int64) (.val (.int (0 : Int32))) (.val (.int (Int32.ofNat f))) (.unset) (.unset) Wn (One1.i _) (good0 (hpf.trans (pnC qb ⟨q178, (subN hft (by omega)).mp q187⟩)))
      · intro q132
        have hpf : parseF cs f t = parseN cs f t true (f + 1) := pfY qlt q132
        refine s_iconst Wn at_135 (v := (1 : Int32)) (by decide) (pc' := 136) rfl ?_
        refine s_goto Wn at_136 (by decide) (pc' := 140) (by decide) ?_
        refine s_istore Wn at_140 (l' := #[.val (.int pa), .val (.int pb), .val (.int pd), .val (.int pc), .val (.int pe), .val (.int pw), .val (.ref b1), .val (.int (Int32.ofNat f)), .val (.int (Int32.ofNat t)), .unset, .val (.long (0 : Int64)), .second, .val (.int (1 : Int32)), .unset, .unset, .unset]) rfl (pc' := 142) rfl ?_
        refine s_iload Wn at_142 rfl (pc' := 144) rfl ?_
        refine s_ifeq Wn at_144 (by decide) (pc1 := 154) (by decide) (pc2 := 147) rfl (fun q => absurd q (by decide)) ?_
        intro q144
        refine s_iload Wn at_147 rfl (pc' := 149) rfl ?_
        refine s_iconst Wn at_149 (v := (1 : Int32)) (by decide) (pc' := 150) rfl ?_
        refine s_iadd Wn at_150 (pc' := 151) rfl ?_
        refine s_goto Wn at_151 (by decide) (pc' := 156) (by decide) ?_
        rw [show Int32.ofNat f + (1 : Int32) = Int32.ofNat (f + 1) from n32s f]
        have tb : (Int32.ofNat (f + 1)).toInt = (f + 1 : Nat) := ofN (by omega)
        refine s_istore Wn at_156 (l' := #[.val (.int pa), .val (.int pb), .val (.int pd), .val (.int pc), .val (.int pe), .val (.int pw), .val (.ref b1), .val (.int (Int32.ofNat f)), .val (.int (Int32.ofNat t)), .unset, .val (.long (0 : Int64)), .second, .val (.int (1 : Int32)), .val (.int (Int32.ofNat (f + 1))), .unset, .unset]) rfl (pc' := 158) rfl ?_
        refine s_iload Wn at_158 rfl (pc' := 160) rfl ?_
        refine s_iload Wn at_160 rfl (pc' := 162) rfl ?_
        refine s_icmpne Wn at_162 (by decide) (pc1 := 171) (by decide) (pc2 := 165) rfl ?_ ?_
        · intro q162
          have qb : ¬ (f + 1) = t := fun r => q162 ((eqN (by omega) (by omega)).mpr r)
          refine s_aload Wn at_171 rfl rfl (pc' := 173) rfl ?_
          refine s_iload Wn at_173 rfl (pc' := 175) rfl ?_
          have il_175 : (f + 1) < cs.length := by omega
          have gd_175 := getDj il_175
          refine gLdC Wn Vc ⟨nlt32 (by rw [zero32]; omega), lt32 (by omega)⟩ (v := .int (cs.getD (f + 1) 0)) (by rw [show ((Int32.ofNat (f + 1))).toNatClampNeg = (f + 1) from by show ((Int32.ofNat (f + 1))).toInt.toNat = _; omega, gd_175]; exact getD_map' _ _ _ il_175) at_175 (pc' := 176) rfl ?_
          refine s_bipush Wn at_176 (v := (48 : Int32)) (by decide) (pc' := 178) rfl ?_
          refine s_icmpne Wn at_178 (by decide) (pc1 := 196) (by decide) (pc2 := 181) rfl ?_ ?_
          · intro q178
            have hn : ¬ (cs.getD (f + 1) 0 = (48 : Int32) ∧ 1 < t - f) := fun r => q178 r.1
            refine s_aload Wn at_196 rfl rfl (pc' := 198) rfl ?_
            refine s_iload Wn at_198 rfl (pc' := 200) rfl ?_
            refine s_iload Wn at_200 rfl (pc' := 202) rfl ?_
            refine s_lconst Wn at_202 (v := (0 : Int64)) (by decide) (pc' := 203) rfl ?_
            refine gStatic Wn (w_112 hw) (w_113 hw) (w_3 hw) (w_114 hw) (by decide) pd_16 (ct_acc hw hEL [] b1 k1 (Int32.ofNat (f + 1)) (Int32.ofNat t) (6 : Int32) (0 : Int64) cs (f + 1) t h18 h6 tb tt (by omega) Vc) (by simp) at_203 (pc' := 206) rfl rfl (argsL := [(.ref b1), (.int (Int32.ofNat (f + 1))), (.int (Int32.ofNat t)), (.long (0 : Int64))]) rfl rfl (rest := []) rfl (wt := 0) (Nat.le_of_eq rfl) (by decide) (by decide) (by decide) (by decide) ?_
            rintro v32 T32 h32 W32 z32 ⟨rfl, rfl⟩
            show Go p e below _ T32 (mkF m 206 #[.val (.int pa), .val (.int pb), .val (.int pd), .val (.int pc), .val (.int pe), .val (.int pw), .val (.ref b1), .val (.int (Int32.ofNat f)), .val (.int (Int32.ofNat t)), .unset, .val (.long (0 : Int64)), .second, .val (.int (1 : Int32)), .val (.int (Int32.ofNat (f + 1))), .unset, .unset] [(.long (accF cs t (f + 1) (0 : Int64)))])
            obtain ⟨va0, hva0⟩ : ∃ q : Int64, q = (accF cs t (f + 1) (0 : Int64)) := ⟨_, rfl⟩
            rw [← hva0]
            refine s_lstore W32 at_206 (l' := #[.val (.int pa), .val (.int pb), .val (.int pd), .val (.int pc), .val (.int pe), .val (.int pw), .val (.ref b1), .val (.int (Int32.ofNat f)), .val (.int (Int32.ofNat t)), .unset, .val (.long (0 : Int64)), .second, .val (.int (1 : Int32)), .val (.int (Int32.ofNat (f + 1))), .val (.long va0), .second]) rfl (pc' := 208) rfl ?_
            refine s_aload W32 at_208 rfl rfl (pc' := 210) rfl ?_
            refine s_iload W32 at_210 rfl (pc' := 212) rfl ?_
            refine s_iconst W32 at_212 (v := (1 : Int32)) (by decide) (pc' := 213) rfl ?_
            refine s_iadd W32 at_213 (pc' := 214) rfl ?_
            refine s_iload W32 at_214 rfl (pc' := 216) rfl ?_
            refine s_lload W32 at_216 rfl (pc' := 218) rfl ?_
            refine gStatic W32 (w_112 hw) (w_113 hw) (w_3 hw) (w_114 hw) (by decide) pd_16 (ct_acc hw hEL [] b1 k1 ((Int32.ofNat (f + 1)) + (1 : Int32)) (Int32.ofNat t) (6 : Int32) va0 cs ((f + 1) + 1) t h18 h6 (addN (b := (f + 1)) (by omega) ⟨1, by decide⟩) tt (by omega) Vc) (by simp) at_218 (pc' := 221) rfl rfl (argsL := [(.ref b1), (.int ((Int32.ofNat (f + 1)) + (1 : Int32))), (.int (Int32.ofNat t)), (.long va0)]) rfl rfl (rest := []) rfl (wt := 0) (Nat.le_of_eq rfl) (by decide) (by decide) (by decide) (by decide) ?_
            rintro v33 T33 h33 W33 z33 ⟨rfl, rfl⟩
            show Go p e below _ T33 (mkF m 221 #[.val (.int pa), .val (.int pb), .val (.int pd), .val (.int pc), .val (.int pe), .val (.int pw), .val (.ref b1), .val (.int (Int32.ofNat f)), .val (.int (Int32.ofNat t)), .unset, .val (.long (0 : Int64)), .second, .val (.int (1 : Int32)), .val (.int (Int32.ofNat (f + 1))), .val (.long va0), .second] [(.long (accF cs t ((f + 1) + 1) va0))])
            obtain ⟨va1, hva1⟩ : ∃ q : Int64, q = (accF cs t ((f + 1) + 1) va0) := ⟨_, rfl⟩
            rw [← hva1]
            refine s_lstore W33 at_221 (l' := #[.val (.int pa), .val (.int pb), .val (.int pd), .val (.int pc), .val (.int pe), .val (.int pw), .val (.ref b1), .val (.int (Int32.ofNat f)), .val (.int (Int32.ofNat t)), .unset, .val (.long (0 : Int64)), .second, .val (.int (1 : Int32)), .val (.int (Int32.ofNat (f + 1))), .val (.long va1), .second]) rfl (pc' := 223) rfl ?_
            refine s_aload W33 at_223 rfl rfl (pc' := 225) rfl ?_
            refine s_iload W33 at_225 rfl (pc' := 227) rfl ?_
            refine s_iconst W33 at_227 (v := (2 : Int32)) (by decide) (pc' := 228) rfl ?_
            refine s_iadd W33 at_228 (pc' := 229) rfl ?_
            refine s_iload W33 at_229 rfl (pc' := 231) rfl ?_
            refine s_lload W33 at_231 rfl (pc' := 233) rfl ?_
            refine gStatic W33 (w_112 hw) (w_113 hw) (w_3 hw) (w_114 hw) (by decide) pd_16 (ct_acc hw hEL [] b1 k1 ((Int32.ofNat (f + 1)) + (2 : Int32)) (Int32.ofNat t) (6 : Int32) va1 cs ((f + 1) + 2) t h18 h6 (addN (b := (f + 1)) (by omega) ⟨2, by decide⟩) tt (by omega) Vc) (by simp) at_233 (pc' := 236) rfl rfl (argsL := [(.ref b1), (.int ((Int32.ofNat (f + 1)) + (2 : Int32))), (.int (Int32.ofNat t)), (.long va1)]) rfl rfl (rest := []) rfl (wt := 0) (Nat.le_of_eq rfl) (by decide) (by decide) (by decide) (by decide) ?_
            rintro v34 T34 h34 W34 z34 ⟨rfl, rfl⟩
            show Go p e below _ T34 (mkF m 236 #[.val (.int pa), .val (.int pb), .val (.int pd), .val (.int pc), .val (.int pe), .val (.int pw), .val (.ref b1), .val (.int (Int32.ofNat f)), .val (.int (Int32.ofNat t)), .unset, .val (.long (0 : Int64)), .second, .val (.int (1 : Int32)), .val (.int (Int32.ofNat (f + 1))), .val (.long va1), .second] [(.long (accF cs t ((f + 1) + 2) va1))])
            obtain ⟨va2, hva2⟩ : ∃ q : Int64, q = (accF cs t ((f + 1) + 2) va1) := ⟨_, rfl⟩
            rw [← hva2]
            refine s_lstore W34 at_236 (l' := #[.val (.int pa), .val (.int pb), .val (.int pd), .val (.int pc), .val (.int pe), .val (.int pw), .val (.ref b1), .val (.int (Int32.ofNat f)), .val (.int (Int32.ofNat t)), .unset, .val (.long (0 : Int64)), .second, .val (.int (1 : Int32)), .val (.int (Int32.ofNat (f + 1))), .val (.long va2), .second]) rfl (pc' := 238) rfl ?_
            refine s_aload W34 at_238 rfl rfl (pc' := 240) rfl ?_
            refine s_iload W34 at_240 rfl (pc' := 242) rfl ?_
            refine s_iconst W34 at_242 (v := (3 : Int32)) (by decide) (pc' := 243) rfl ?_
            refine s_iadd W34 at_243 (pc' := 244) rfl ?_
            refine s_iload W34 at_244 rfl (pc' := 246) rfl ?_
            refine s_lload W34 at_246 rfl (pc' := 248) rfl ?_
            refine gStatic W34 (w_112 hw) (w_113 hw) (w_3 hw) (w_114 hw) (by decide) pd_16 (ct_acc hw hEL [] b1 k1 ((Int32.ofNat (f + 1)) + (3 : Int32)) (Int32.ofNat t) (6 : Int32) va2 cs ((f + 1) + 3) t h18 h6 (addN (b := (f + 1)) (by omega) ⟨3, by decide⟩) tt (by omega) Vc) (by simp) at_248 (pc' := 251) rfl rfl (argsL := [(.ref b1), (.int ((Int32.ofNat (f + 1)) + (3 : Int32))), (.int (Int32.ofNat t)), (.long va2)]) rfl rfl (rest := []) rfl (wt := 0) (Nat.le_of_eq rfl) (by decide) (by decide) (by decide) (by decide) ?_
            rintro v35 T35 h35 W35 z35 ⟨rfl, rfl⟩
            show Go p e below _ T35 (mkF m 251 #[.val (.int pa), .val (.int pb), .val (.int pd), .val (.int pc), .val (.int pe), .val (.int pw), .val (.ref b1), .val (.int (Int32.ofNat f)), .val (.int (Int32.ofNat t)), .unset, .val (.long (0 : Int64)), .second, .val (.int (1 : Int32)), .val (.int (Int32.ofNat (f + 1))), .val (.long va2), .second] [(.long (accF cs t ((f + 1) + 3) va2))])
            obtain ⟨va3, hva3⟩ : ∃ q : Int64, q = (accF cs t ((f + 1) + 3) va2) := ⟨_, rfl⟩
            rw [← hva3]
            refine s_lstore W35 at_251 (l' := #[.val (.int pa), .val (.int pb), .val (.int pd), .val (.int pc), .val (.int pe), .val (.int pw), .val (.ref b1), .val (.int (Int32.ofNat f)), .val (.int (Int32.ofNat t)), .unset, .val (.long (0 : Int64)), .second, .val (.int (1 : Int32)), .val (.int (Int32.ofNat (f + 1))), .val (.long va3), .second]) rfl (pc' := 253) rfl ?_
            refine s_aload W35 at_253 rfl rfl (pc' := 255) rfl ?_
            refine s_iload W35 at_255 rfl (pc' := 257) rfl ?_
            refine s_iconst W35 at_257 (v := (4 : Int32)) (by decide) (pc' := 258) rfl ?_
            refine s_iadd W35 at_258 (pc' := 259) rfl ?_
            refine s_iload W35 at_259 rfl (pc' := 261) rfl ?_
            refine s_lload W35 at_261 rfl (pc' := 263) rfl ?_
            refine gStatic W35 (w_112 hw) (w_113 hw) (w_3 hw) (w_114 hw) (by decide) pd_16 (ct_acc hw hEL [] b1 k1 ((Int32.ofNat (f + 1)) + (4 : Int32)) (Int32.ofNat t) (6 : Int32) va3 cs ((f + 1) + 4) t h18 h6 (addN (b := (f + 1)) (by omega) ⟨4, by decide⟩) tt (by omega) Vc) (by simp) at_263 (pc' := 266) rfl rfl (argsL := [(.ref b1), (.int ((Int32.ofNat (f + 1)) + (4 : Int32))), (.int (Int32.ofNat t)), (.long va3)]) rfl rfl (rest := []) rfl (wt := 0) (Nat.le_of_eq rfl) (by decide) (by decide) (by decide) (by decide) ?_
            rintro v36 T36 h36 W36 z36 ⟨rfl, rfl⟩
            show Go p e below _ T36 (mkF m 266 #[.val (.int pa), .val (.int pb), .val (.int pd), .val (.int pc), .val (.int pe), .val (.int pw), .val (.ref b1), .val (.int (Int32.ofNat f)), .val (.int (Int32.ofNat t)), .unset, .val (.long (0 : Int64)), .second, .val (.int (1 : Int32)), .val (.int (Int32.ofNat (f + 1))), .val (.long va3), .second] [(.long (accF cs t ((f + 1) + 4) va3))])
            obtain ⟨va4, hva4⟩ : ∃ q : Int64, q = (accF cs t ((f + 1) + 4) va3) := ⟨_, rfl⟩
            rw [← hva4]
            refine s_lstore W36 at_266 (l' := #[.val (.int pa), .val (.int pb), .val (.int pd), .val (.int pc), .val (.int pe), .val (.int pw), .val (.ref b1), .val (.int (Int32.ofNat f)), .val (.int (Int32.ofNat t)), .unset, .val (.long (0 : Int64)), .second, .val (.int (1 : Int32)), .val (.int (Int32.ofNat (f + 1))), .val (.long va4), .second]) rfl (pc' := 268) rfl ?_
            refine s_aload W36 at_268 rfl rfl (pc' := 270) rfl ?_
            refine s_iload W36 at_270 rfl (pc' := 272) rfl ?_
            refine s_iconst W36 at_272 (v := (5 : Int32)) (by decide) (pc' := 273) rfl ?_
            refine s_iadd W36 at_273 (pc' := 274) rfl ?_
            refine s_iload W36 at_274 rfl (pc' := 276) rfl ?_
            refine s_lload W36 at_276 rfl (pc' := 278) rfl ?_
            refine gStatic W36 (w_112 hw) (w_113 hw) (w_3 hw) (w_114 hw) (by decide) pd_16 (ct_acc hw hEL [] b1 k1 ((Int32.ofNat (f + 1)) + (5 : Int32)) (Int32.ofNat t) (6 : Int32) va4 cs ((f + 1) + 5) t h18 h6 (addN (b := (f + 1)) (by omega) ⟨5, by decide⟩) tt (by omega) Vc) (by simp) at_278 (pc' := 281) rfl rfl (argsL := [(.ref b1), (.int ((Int32.ofNat (f + 1)) + (5 : Int32))), (.int (Int32.ofNat t)), (.long va4)]) rfl rfl (rest := []) rfl (wt := 0) (Nat.le_of_eq rfl) (by decide) (by decide) (by decide) (by decide) ?_
            rintro v37 T37 h37 W37 z37 ⟨rfl, rfl⟩
            show Go p e below _ T37 (mkF m 281 #[.val (.int pa), .val (.int pb), .val (.int pd), .val (.int pc), .val (.int pe), .val (.int pw), .val (.ref b1), .val (.int (Int32.ofNat f)), .val (.int (Int32.ofNat t)), .unset, .val (.long (0 : Int64)), .second, .val (.int (1 : Int32)), .val (.int (Int32.ofNat (f + 1))), .val (.long va4), .second] [(.long (accF cs t ((f + 1) + 5) va4))])
            obtain ⟨va5, hva5⟩ : ∃ q : Int64, q = (accF cs t ((f + 1) + 5) va4) := ⟨_, rfl⟩
            rw [← hva5]
            have hva : va5 = accN cs t 6 (f + 1) 0 := accN6 hva0 hva1 hva2 hva3 hva4 hva5
            clear hva0 hva1 hva2 hva3 hva4 hva5
            refine s_lstore W37 at_281 (l' := #[.val (.int pa), .val (.int pb), .val (.int pd), .val (.int pc), .val (.int pe), .val (.int pw), .val (.ref b1), .val (.int (Int32.ofNat f)), .val (.int (Int32.ofNat t)), .unset, .val (.long (0 : Int64)), .second, .val (.int (1 : Int32)), .val (.int (Int32.ofNat (f + 1))), .val (.long va5), .second]) rfl (pc' := 283) rfl ?_
            refine s_lload W37 at_283 rfl (pc' := 285) rfl ?_
            refine s_lconst W37 at_285 (v := (0 : Int64)) (by decide) (pc' := 286) rfl ?_
            refine s_lcmp W37 at_286 (pc' := 287) rfl ?_
            refine s_iflt W37 at_287 (by decide) (pc1 := 294) (by decide) (pc2 := 290) rfl ?_ ?_
            · intro q287
              have hv : accN cs t 6 (f + 1) 0 < 0 := ltE64 hva ((lw_lt _ _).mp q287)
              refine s_iconst W37 at_294 (v := (0 : Int32)) (by decide) (pc' := 295) rfl ?_
              refine s_istore W37 at_295 (l' := #[.val (.int pa), .val (.int pb), .val (.int pd), .val (.int pc), .val (.int pe), .val (.int pw), .val (.ref b1), .val (.int (Int32.ofNat f)), .val (.int (Int32.ofNat t)), .val (.int (0 : Int32)), .val (.long (0 : Int64)), .second, .val (.int (1 : Int32)), .val (.int (Int32.ofNat (f + 1))), .val (.long va5), .second]) rfl (pc' := 297) rfl ?_
              refine s_iload W37 at_297 rfl (pc' := 299) rfl ?_
              refine s_ifeq W37 at_299 (by decide) (pc1 := 308) (by decide) (pc2 := 302) rfl (fun q => absurd q (by decide)) ?_
              intro q299
              refine s_lload W37 at_302 rfl (pc' := 304) rfl ?_
              refine s_lneg W37 at_304 (pc' := 305) rfl ?_
              refine s_goto W37 at_305 (by decide) (pc' := 310) (by decide) ?_
              refine s_lstore W37 at_310 (l' := #[.val (.int pa), .val (.int pb), .val (.int pd), .val (.int pc), .val (.int pe), .val (.int pw), .val (.ref b1), .val (.int (Int32.ofNat f)), .val (.int (Int32.ofNat t)), .val (.int (0 : Int32)), .val (.long (-va5)), .second, .val (.int (1 : Int32)), .val (.int (Int32.ofNat (f + 1))), .val (.long va5), .second]) rfl (pc' := 312) rfl ?_
              exact tail T37 (0 : Int32) (-va5) (.val (.int (1 : Int32))) (.val (.int (Int32.ofNat (f + 1)))) (.val (.long va5)) (.second) W37 (One1.i _) (good0 (hpf.trans (pnD0 hgd (by omega) (by omega) qb hn hv)))
            · intro q287
              have hv : ¬ accN cs t 6 (f + 1) 0 < 0 := nltE64 hva (fun r => q287 ((lw_lt _ _).mpr r))
              refine s_iconst W37 at_290 (v := (1 : Int32)) (by decide) (pc' := 291) rfl ?_
              refine s_goto W37 at_291 (by decide) (pc' := 295) (by decide) ?_
              refine s_istore W37 at_295 (l' := #[.val (.int pa), .val (.int pb), .val (.int pd), .val (.int pc), .val (.int pe), .val (.int pw), .val (.ref b1), .val (.int (Int32.ofNat f)), .val (.int (Int32.ofNat t)), .val (.int (1 : Int32)), .val (.long (0 : Int64)), .second, .val (.int (1 : Int32)), .val (.int (Int32.ofNat (f + 1))), .val (.long va5), .second]) rfl (pc' := 297) rfl ?_
              refine s_iload W37 at_297 rfl (pc' := 299) rfl ?_
              refine s_ifeq W37 at_299 (by decide) (pc1 := 308) (by decide) (pc2 := 302) rfl (fun q => absurd q (by decide)) ?_
              intro q299
              refine s_lload W37 at_302 rfl (pc' := 304) rfl ?_
              refine s_lneg W37 at_304 (pc' := 305) rfl ?_
              refine s_goto W37 at_305 (by decide) (pc' := 310) (by decide) ?_
              refine s_lstore W37 at_310 (l' := #[.val (.int pa), .val (.int pb), .val (.int pd), .val (.int pc), .val (.int pe), .val (.int pw), .val (.ref b1), .val (.int (Int32.ofNat f)), .val (.int (Int32.ofNat t)), .val (.int (1 : Int32)), .val (.long (-va5)), .second, .val (.int (1 : Int32)), .val (.int (Int32.ofNat (f + 1))), .val (.long va5), .second]) rfl (pc' := 312) rfl ?_
              exact tail T37 (1 : Int32) (-va5) (.val (.int (1 : Int32))) (.val (.int (Int32.ofNat (f + 1)))) (.val (.long va5)) (.second) W37 (One1.i _) (good1 (hpf.trans (pnD1t hgd (by omega) (by omega) qb hn hv hva)))
          · intro q178
            refine s_iload Wn at_181 rfl (pc' := 183) rfl ?_
            refine s_iload Wn at_183 rfl (pc' := 185) rfl ?_
            refine s_isub Wn at_185 (pc' := 186) rfl ?_
            refine s_iconst Wn at_186 (v := (1 : Int32)) (by decide) (pc' := 187) rfl ?_
            refine s_icmple Wn at_187 (by decide) (pc1 := 196) (by decide) (pc2 := 190) rfl ?_ ?_
            · intro q187
              have hn : ¬ (cs.getD (f + 1) 0 = (48 : Int32) ∧ 1 < t - f) := fun r => q187 ((subN hft (by omega)).mpr r.2)
              refine s_aload Wn at_196 rfl rfl (pc' := 198) rfl ?_
              refine s_iload Wn at_198 rfl (pc' := 200) rfl ?_
              refine s_iload Wn at_200 rfl (pc' := 202) rfl ?_
              refine s_lconst Wn at_202 (v := (0 : Int64)) (by decide) (pc' := 203) rfl ?_
              refine gStatic Wn (w_112 hw) (w_113 hw) (w_3 hw) (w_114 hw) (by decide) pd_16 (ct_acc hw hEL [] b1 k1 (Int32.ofNat (f + 1)) (Int32.ofNat t) (6 : Int32) (0 : Int64) cs (f + 1) t h18 h6 tb tt (by omega) Vc) (by simp) at_203 (pc' := 206) rfl rfl (argsL := [(.ref b1), (.int (Int32.ofNat (f + 1))), (.int (Int32.ofNat t)), (.long (0 : Int64))]) rfl rfl (rest := []) rfl (wt := 0) (Nat.le_of_eq rfl) (by decide) (by decide) (by decide) (by decide) ?_
              rintro v38 T38 h38 W38 z38 ⟨rfl, rfl⟩
              show Go p e below _ T38 (mkF m 206 #[.val (.int pa), .val (.int pb), .val (.int pd), .val (.int pc), .val (.int pe), .val (.int pw), .val (.ref b1), .val (.int (Int32.ofNat f)), .val (.int (Int32.ofNat t)), .unset, .val (.long (0 : Int64)), .second, .val (.int (1 : Int32)), .val (.int (Int32.ofNat (f + 1))), .unset, .unset] [(.long (accF cs t (f + 1) (0 : Int64)))])
              obtain ⟨va0, hva0⟩ : ∃ q : Int64, q = (accF cs t (f + 1) (0 : Int64)) := ⟨_, rfl⟩
              rw [← hva0]
              refine s_lstore W38 at_206 (l' := #[.val (.int pa), .val (.int pb), .val (.int pd), .val (.int pc), .val (.int pe), .val (.int pw), .val (.ref b1), .val (.int (Int32.ofNat f)), .val (.int (Int32.ofNat t)), .unset, .val (.long (0 : Int64)), .second, .val (.int (1 : Int32)), .val (.int (Int32.ofNat (f + 1))), .val (.long va0), .second]) rfl (pc' := 208) rfl ?_
              refine s_aload W38 at_208 rfl rfl (pc' := 210) rfl ?_
              refine s_iload W38 at_210 rfl (pc' := 212) rfl ?_
              refine s_iconst W38 at_212 (v := (1 : Int32)) (by decide) (pc' := 213) rfl ?_
              refine s_iadd W38 at_213 (pc' := 214) rfl ?_
              refine s_iload W38 at_214 rfl (pc' := 216) rfl ?_
              refine s_lload W38 at_216 rfl (pc' := 218) rfl ?_
              refine gStatic W38 (w_112 hw) (w_113 hw) (w_3 hw) (w_114 hw) (by decide) pd_16 (ct_acc hw hEL [] b1 k1 ((Int32.ofNat (f + 1)) + (1 : Int32)) (Int32.ofNat t) (6 : Int32) va0 cs ((f + 1) + 1) t h18 h6 (addN (b := (f + 1)) (by omega) ⟨1, by decide⟩) tt (by omega) Vc) (by simp) at_218 (pc' := 221) rfl rfl (argsL := [(.ref b1), (.int ((Int32.ofNat (f + 1)) + (1 : Int32))), (.int (Int32.ofNat t)), (.long va0)]) rfl rfl (rest := []) rfl (wt := 0) (Nat.le_of_eq rfl) (by decide) (by decide) (by decide) (by decide) ?_
              rintro v39 T39 h39 W39 z39 ⟨rfl, rfl⟩
              show Go p e below _ T39 (mkF m 221 #[.val (.int pa), .val (.int pb), .val (.int pd), .val (.int pc), .val (.int pe), .val (.int pw), .val (.ref b1), .val (.int (Int32.ofNat f)), .val (.int (Int32.ofNat t)), .unset, .val (.long (0 : Int64)), .second, .val (.int (1 : Int32)), .val (.int (Int32.ofNat (f + 1))), .val (.long va0), .second] [(.long (accF cs t ((f + 1) + 1) va0))])
              obtain ⟨va1, hva1⟩ : ∃ q : Int64, q = (accF cs t ((f + 1) + 1) va0) := ⟨_, rfl⟩
              rw [← hva1]
              refine s_lstore W39 at_221 (l' := #[.val (.int pa), .val (.int pb), .val (.int pd), .val (.int pc), .val (.int pe), .val (.int pw), .val (.ref b1), .val (.int (Int32.ofNat f)), .val (.int (Int32.ofNat t)), .unset, .val (.long (0 : Int64)), .second, .val (.int (1 : Int32)), .val (.int (Int32.ofNat (f + 1))), .val (.long va1), .second]) rfl (pc' := 223) rfl ?_
              refine s_aload W39 at_223 rfl rfl (pc' := 225) rfl ?_
              refine s_iload W39 at_225 rfl (pc' := 227) rfl ?_
              refine s_iconst W39 at_227 (v := (2 : Int32)) (by decide) (pc' := 228) rfl ?_
              refine s_iadd W39 at_228 (pc' := 229) rfl ?_
              refine s_iload W39 at_229 rfl (pc' := 231) rfl ?_
              refine s_lload W39 at_231 rfl (pc' := 233) rfl ?_
              refine gStatic W39 (w_112 hw) (w_113 hw) (w_3 hw) (w_114 hw) (by decide) pd_16 (ct_acc hw hEL [] b1 k1 ((Int32.ofNat (f + 1)) + (2 : Int32)) (Int32.ofNat t) (6 : Int32) va1 cs ((f + 1) + 2) t h18 h6 (addN (b := (f + 1)) (by omega) ⟨2, by decide⟩) tt (by omega) Vc) (by simp) at_233 (pc' := 236) rfl rfl (argsL := [(.ref b1), (.int ((Int32.ofNat (f + 1)) + (2 : Int32))), (.int (Int32.ofNat t)), (.long va1)]) rfl rfl (rest := []) rfl (wt := 0) (Nat.le_of_eq rfl) (by decide) (by decide) (by decide) (by decide) ?_
              rintro v40 T40 h40 W40 z40 ⟨rfl, rfl⟩
              show Go p e below _ T40 (mkF m 236 #[.val (.int pa), .val (.int pb), .val (.int pd), .val (.int pc), .val (.int pe), .val (.int pw), .val (.ref b1), .val (.int (Int32.ofNat f)), .val (.int (Int32.ofNat t)), .unset, .val (.long (0 : Int64)), .second, .val (.int (1 : Int32)), .val (.int (Int32.ofNat (f + 1))), .val (.long va1), .second] [(.long (accF cs t ((f + 1) + 2) va1))])
              obtain ⟨va2, hva2⟩ : ∃ q : Int64, q = (accF cs t ((f + 1) + 2) va1) := ⟨_, rfl⟩
              rw [← hva2]
              refine s_lstore W40 at_236 (l' := #[.val (.int pa), .val (.int pb), .val (.int pd), .val (.int pc), .val (.int pe), .val (.int pw), .val (.ref b1), .val (.int (Int32.ofNat f)), .val (.int (Int32.ofNat t)), .unset, .val (.long (0 : Int64)), .second, .val (.int (1 : Int32)), .val (.int (Int32.ofNat (f + 1))), .val (.long va2), .second]) rfl (pc' := 238) rfl ?_
              refine s_aload W40 at_238 rfl rfl (pc' := 240) rfl ?_
              refine s_iload W40 at_240 rfl (pc' := 242) rfl ?_
              refine s_iconst W40 at_242 (v := (3 : Int32)) (by decide) (pc' := 243) rfl ?_
              refine s_iadd W40 at_243 (pc' := 244) rfl ?_
              refine s_iload W40 at_244 rfl (pc' := 246) rfl ?_
              refine s_lload W40 at_246 rfl (pc' := 248) rfl ?_
              refine gStatic W40 (w_112 hw) (w_113 hw) (w_3 hw) (w_114 hw) (by decide) pd_16 (ct_acc hw hEL [] b1 k1 ((Int32.ofNat (f + 1)) + (3 : Int32)) (Int32.ofNat t) (6 : Int32) va2 cs ((f + 1) + 3) t h18 h6 (addN (b := (f + 1)) (by omega) ⟨3, by decide⟩) tt (by omega) Vc) (by simp) at_248 (pc' := 251) rfl rfl (argsL := [(.ref b1), (.int ((Int32.ofNat (f + 1)) + (3 : Int32))), (.int (Int32.ofNat t)), (.long va2)]) rfl rfl (rest := []) rfl (wt := 0) (Nat.le_of_eq rfl) (by decide) (by decide) (by decide) (by decide) ?_
              rintro v41 T41 h41 W41 z41 ⟨rfl, rfl⟩
              show Go p e below _ T41 (mkF m 251 #[.val (.int pa), .val (.int pb), .val (.int pd), .val (.int pc), .val (.int pe), .val (.int pw), .val (.ref b1), .val (.int (Int32.ofNat f)), .val (.int (Int32.ofNat t)), .unset, .val (.long (0 : Int64)), .second, .val (.int (1 : Int32)), .val (.int (Int32.ofNat (f + 1))), .val (.long va2), .second] [(.long (accF cs t ((f + 1) + 3) va2))])
              obtain ⟨va3, hva3⟩ : ∃ q : Int64, q = (accF cs t ((f + 1) + 3) va2) := ⟨_, rfl⟩
              rw [← hva3]
              refine s_lstore W41 at_251 (l' := #[.val (.int pa), .val (.int pb), .val (.int pd), .val (.int pc), .val (.int pe), .val (.int pw), .val (.ref b1), .val (.int (Int32.ofNat f)), .val (.int (Int32.ofNat t)), .unset, .val (.long (0 : Int64)), .second, .val (.int (1 : Int32)), .val (.int (Int32.ofNat (f + 1))), .val (.long va3), .second]) rfl (pc' := 253) rfl ?_
              refine s_aload W41 at_253 rfl rfl (pc' := 255) rfl ?_
              refine s_iload W41 at_255 rfl (pc' := 257) rfl ?_
              refine s_iconst W41 at_257 (v := (4 : Int32)) (by decide) (pc' := 258) rfl ?_
              refine s_iadd W41 at_258 (pc' := 259) rfl ?_
              refine s_iload W41 at_259 rfl (pc' := 261) rfl ?_
              refine s_lload W41 at_261 rfl (pc' := 263) rfl ?_
              refine gStatic W41 (w_112 hw) (w_113 hw) (w_3 hw) (w_114 hw) (by decide) pd_16 (ct_acc hw hEL [] b1 k1 ((Int32.ofNat (f + 1)) + (4 : Int32)) (Int32.ofNat t) (6 : Int32) va3 cs ((f + 1) + 4) t h18 h6 (addN (b := (f + 1)) (by omega) ⟨4, by decide⟩) tt (by omega) Vc) (by simp) at_263 (pc' := 266) rfl rfl (argsL := [(.ref b1), (.int ((Int32.ofNat (f + 1)) + (4 : Int32))), (.int (Int32.ofNat t)), (.long va3)]) rfl rfl (rest := []) rfl (wt := 0) (Nat.le_of_eq rfl) (by decide) (by decide) (by decide) (by decide) ?_
              rintro v42 T42 h42 W42 z42 ⟨rfl, rfl⟩
              show Go p e below _ T42 (mkF m 266 #[.val (.int pa), .val (.int pb), .val (.int pd), .val (.int pc), .val (.int pe), .val (.int pw), .val (.ref b1), .val (.int (Int32.ofNat f)), .val (.int (Int32.ofNat t)), .unset, .val (.long (0 : Int64)), .second, .val (.int (1 : Int32)), .val (.int (Int32.ofNat (f + 1))), .val (.long va3), .second] [(.long (accF cs t ((f + 1) + 4) va3))])
              obtain ⟨va4, hva4⟩ : ∃ q : Int64, q = (accF cs t ((f + 1) + 4) va3) := ⟨_, rfl⟩
              rw [← hva4]
              refine s_lstore W42 at_266 (l' := #[.val (.int pa), .val (.int pb), .val (.int pd), .val (.int pc), .val (.int pe), .val (.int pw), .val (.ref b1), .val (.int (Int32.ofNat f)), .val (.int (Int32.ofNat t)), .unset, .val (.long (0 : Int64)), .second, .val (.int (1 : Int32)), .val (.int (Int32.ofNat (f + 1))), .val (.long va4), .second]) rfl (pc' := 268) rfl ?_
              refine s_aload W42 at_268 rfl rfl (pc' := 270) rfl ?_
              refine s_iload W42 at_270 rfl (pc' := 272) rfl ?_
              refine s_iconst W42 at_272 (v := (5 : Int32)) (by decide) (pc' := 273) rfl ?_
              refine s_iadd W42 at_273 (pc' := 274) rfl ?_
              refine s_iload W42 at_274 rfl (pc' := 276) rfl ?_
              refine s_lload W42 at_276 rfl (pc' := 278) rfl ?_
              refine gStatic W42 (w_112 hw) (w_113 hw) (w_3 hw) (w_114 hw) (by decide) pd_16 (ct_acc hw hEL [] b1 k1 ((Int32.ofNat (f + 1)) + (5 : Int32)) (Int32.ofNat t) (6 : Int32) va4 cs ((f + 1) + 5) t h18 h6 (addN (b := (f + 1)) (by omega) ⟨5, by decide⟩) tt (by omega) Vc) (by simp) at_278 (pc' := 281) rfl rfl (argsL := [(.ref b1), (.int ((Int32.ofNat (f + 1)) + (5 : Int32))), (.int (Int32.ofNat t)), (.long va4)]) rfl rfl (rest := []) rfl (wt := 0) (Nat.le_of_eq rfl) (by decide) (by decide) (by decide) (by decide) ?_
              rintro v43 T43 h43 W43 z43 ⟨rfl, rfl⟩
              show Go p e below _ T43 (mkF m 281 #[.val (.int pa), .val (.int pb), .val (.int pd), .val (.int pc), .val (.int pe), .val (.int pw), .val (.ref b1), .val (.int (Int32.ofNat f)), .val (.int (Int32.ofNat t)), .unset, .val (.long (0 : Int64)), .second, .val (.int (1 : Int32)), .val (.int (Int32.ofNat (f + 1))), .val (.long va4), .second] [(.long (accF cs t ((f + 1) + 5) va4))])
              obtain ⟨va5, hva5⟩ : ∃ q : Int64, q = (accF cs t ((f + 1) + 5) va4) := ⟨_, rfl⟩
              rw [← hva5]
              have hva : va5 = accN cs t 6 (f + 1) 0 := accN6 hva0 hva1 hva2 hva3 hva4 hva5
              clear hva0 hva1 hva2 hva3 hva4 hva5
              refine s_lstore W43 at_281 (l' := #[.val (.int pa), .val (.int pb), .val (.int pd), .val (.int pc), .val (.int pe), .val (.int pw), .val (.ref b1), .val (.int (Int32.ofNat f)), .val (.int (Int32.ofNat t)), .unset, .val (.long (0 : Int64)), .second, .val (.int (1 : Int32)), .val (.int (Int32.ofNat (f + 1))), .val (.long va5), .second]) rfl (pc' := 283) rfl ?_
              refine s_lload W43 at_283 rfl (pc' := 285) rfl ?_
              refine s_lconst W43 at_285 (v := (0 : Int64)) (by decide) (pc' := 286) rfl ?_
              refine s_lcmp W43 at_286 (pc' := 287) rfl ?_
              refine s_iflt W43 at_287 (by decide) (pc1 := 294) (by decide) (pc2 := 290) rfl ?_ ?_
              · intro q287
                have hv : accN cs t 6 (f + 1) 0 < 0 := ltE64 hva ((lw_lt _ _).mp q287)
                refine s_iconst W43 at_294 (v := (0 : Int32)) (by decide) (pc' := 295) rfl ?_
                refine s_istore W43 at_295 (l' := #[.val (.int pa), .val (.int pb), .val (.int pd), .val (.int pc), .val (.int pe), .val (.int pw), .val (.ref b1), .val (.int (Int32.ofNat f)), .val (.int (Int32.ofNat t)), .val (.int (0 : Int32)), .val (.long (0 : Int64)), .second, .val (.int (1 : Int32)), .val (.int (Int32.ofNat (f + 1))), .val (.long va5), .second]) rfl (pc' := 297) rfl ?_
                refine s_iload W43 at_297 rfl (pc' := 299) rfl ?_
                refine s_ifeq W43 at_299 (by decide) (pc1 := 308) (by decide) (pc2 := 302) rfl (fun q => absurd q (by decide)) ?_
                intro q299
                refine s_lload W43 at_302 rfl (pc' := 304) rfl ?_
                refine s_lneg W43 at_304 (pc' := 305) rfl ?_
                refine s_goto W43 at_305 (by decide) (pc' := 310) (by decide) ?_
                refine s_lstore W43 at_310 (l' := #[.val (.int pa), .val (.int pb), .val (.int pd), .val (.int pc), .val (.int pe), .val (.int pw), .val (.ref b1), .val (.int (Int32.ofNat f)), .val (.int (Int32.ofNat t)), .val (.int (0 : Int32)), .val (.long (-va5)), .second, .val (.int (1 : Int32)), .val (.int (Int32.ofNat (f + 1))), .val (.long va5), .second]) rfl (pc' := 312) rfl ?_
                exact tail T43 (0 : Int32) (-va5) (.val (.int (1 : Int32))) (.val (.int (Int32.ofNat (f + 1)))) (.val (.long va5)) (.second) W43 (One1.i _) (good0 (hpf.trans (pnD0 hgd (by omega) (by omega) qb hn hv)))
              · intro q287
                have hv : ¬ accN cs t 6 (f + 1) 0 < 0 := nltE64 hva (fun r => q287 ((lw_lt _ _).mpr r))
                refine s_iconst W43 at_290 (v := (1 : Int32)) (by decide) (pc' := 291) rfl ?_
                refine s_goto W43 at_291 (by decide) (pc' := 295) (by decide) ?_
                refine s_istore W43 at_295 (l' := #[.val (.int pa), .val (.int pb), .val (.int pd), .val (.int pc), .val (.int pe), .val (.int pw), .val (.ref b1), .val (.int (Int32.ofNat f)), .val (.int (Int32.ofNat t)), .val (.int (1 : Int32)), .val (.long (0 : Int64)), .second, .val (.int (1 : Int32)), .val (.int (Int32.ofNat (f + 1))), .val (.long va5), .second]) rfl (pc' := 297) rfl ?_
                refine s_iload W43 at_297 rfl (pc' := 299) rfl ?_
                refine s_ifeq W43 at_299 (by decide) (pc1 := 308) (by decide) (pc2 := 302) rfl (fun q => absurd q (by decide)) ?_
                intro q299
                refine s_lload W43 at_302 rfl (pc' := 304) rfl ?_
                refine s_lneg W43 at_304 (pc' := 305) rfl ?_
                refine s_goto W43 at_305 (by decide) (pc' := 310) (by decide) ?_
                refine s_lstore W43 at_310 (l' := #[.val (.int pa), .val (.int pb), .val (.int pd), .val (.int pc), .val (.int pe), .val (.int pw), .val (.ref b1), .val (.int (Int32.ofNat f)), .val (.int (Int32.ofNat t)), .val (.int (1 : Int32)), .val (.long (-va5)), .second, .val (.int (1 : Int32)), .val (.int (Int32.ofNat (f + 1))), .val (.long va5), .second]) rfl (pc' := 312) rfl ?_
                exact tail T43 (1 : Int32) (-va5) (.val (.int (1 : Int32))) (.val (.int (Int32.ofNat (f + 1)))) (.val (.long va5)) (.second) W43 (One1.i _) (good1 (hpf.trans (pnD1t hgd (by omega) (by omega) qb hn hv hva)))
            · intro q187
              refine s_iconst Wn at_190 (v := (0 : Int32)) (by decide) (pc' := 191) rfl ?_
              refine s_istore Wn at_191 (l' := #[.val (.int pa), .val (.int pb), .val (.int pd), .val (.int pc), .val (.int pe), .val (.int pw), .val (.ref b1), .val (.int (Int32.ofNat f)), .val (.int (Int32.ofNat t)), .val (.int (0 : Int32)), .val (.long (0 : Int64)), .second, .val (.int (1 : Int32)), .val (.int (Int32.ofNat (f + 1))), .unset, .unset]) rfl (pc' := 193) rfl ?_
              refine s_goto Wn at_193 (by decide) (pc' := 312) (by decide) ?_
              exact tail T18 (0 : Int32) (0 : Int64) (.val (.int (1 : Int32))) (.val (.int (Int32.ofNat (f + 1)))) (.unset) (.unset) Wn (One1.i _) (good0 (hpf.trans (pnC qb ⟨q178, (subN hft (by omega)).mp q187⟩)))
        · intro q162
          refine s_iconst Wn at_165 (v := (0 : Int32)) (by decide) (pc' := 166) rfl ?_
          refine s_istore Wn at_166 (l' := #[.val (.int pa), .val (.int pb), .val (.int pd), .val (.int pc), .val (.int pe), .val (.int pw), .val (.ref b1), .val (.int (Int32.ofNat f)), .val (.int (Int32.ofNat t)), .val (.int (0 : Int32)), .val (.long (0 : Int64)), .second, .val (.int (1 : Int32)), .val (.int (Int32.ofNat (f + 1))), .unset, .unset]) rfl (pc' := 168) rfl ?_
          refine s_goto Wn at_168 (by decide) (pc' := 312) (by decide) ?_
          exact tail T18 (0 : Int32) (0 : Int64) (.val (.int (1 : Int32))) (.val (.int (Int32.ofNat (f + 1)))) (.unset) (.unset) Wn (One1.i _) (good0 (hpf.trans (pnB ((eqN (by omega) (by omega)).mp q162))))
    · intro q116
      have qe := (eqN (by omega) (by omega)).mp q116
      refine s_iconst Wn at_119 (v := (0 : Int32)) (by decide) (pc' := 120) rfl ?_
      refine s_istore Wn at_120 (l' := #[.val (.int pa), .val (.int pb), .val (.int pd), .val (.int pc), .val (.int pe), .val (.int pw), .val (.ref b1), .val (.int (Int32.ofNat f)), .val (.int (Int32.ofNat t)), .val (.int (0 : Int32)), .val (.long (0 : Int64)), .second, .unset, .unset, .unset, .unset]) rfl (pc' := 122) rfl ?_
      refine s_goto Wn at_122 (by decide) (pc' := 312) (by decide) ?_
      exact tail T18 (0 : Int32) (0 : Int64) (.unset) (.unset) (.unset) (.unset) Wn One1.u (good0 (pfE qe))
  · intro q7
    refine s_iloadN W0 at_10 rfl (pc' := 11) rfl ?_
    refine s_iloadN W0 at_11 rfl (pc' := 12) rfl ?_
    refine s_iloadN W0 at_12 rfl (pc' := 13) rfl ?_
    refine s_iload W0 at_13 rfl (pc' := 15) rfl ?_
    refine gStatic W0 (w_78 hw) (w_79 hw) (w_3 hw) (w_80 hw) (by decide) pd_17 (ct_big hw hEL [] pa pb pd pw ccs fo eo h0 SCS hccs SFO rfo SEM GEM) (by simp) at_15 (pc' := 18) rfl rfl (argsL := [(.int pa), (.int pb), (.int pd), (.int pw)]) rfl rfl (rest := []) rfl (wt := 0) (Nat.le_of_eq rfl) (by decide) (by decide) (by decide) (by decide) ?_
    rintro v44 T44 h44 W44 z44 rfl
    show Go p e below _ T44 (mkF m 18 #[.val (.int pa), .val (.int pb), .val (.int pd), .val (.int pc), .val (.int pe), .val (.int pw), .unset, .unset, .unset, .unset, .unset, .unset, .unset, .unset, .unset, .unset] [(.int (1 : Int32))])
    exact gRetN W44 hret (by simp) at_18 (by decide) (by decide) rfl
set_option maxRecDepth 65536 in
set_option maxHeartbeats 40000000 in
theorem comes_1 {Post : Tables → Env → Array Value → State → Outcome → State → Prop} (hpost : ∀ tb e args s v u, (limb_1_1.after args s (.returned v) u = true ∧ limb_1_2.after args s (.returned v) u = true ∧ True) → Jvm.D.FramedW s (.returned v) u (Jvm.fieldLocs frame_1_writes args s ++ Jvm.arrayLocs frame_1_arrays args s ++ Jvm.staticLocs frame_1_statics s) 24 1216 → Post tb e args s (.returned v) u) :
    ArmFor flags0 classFile x code maxLocals ret World_1 tables_1 room_1 Calls_1 rest_1 Pre_1 Post := by
  intro l hfl _ _ p e ha hc hk s m args below hf hA hF happ hP
  obtain ⟨hcalls, hrest, hpre⟩ := hP
  obtain ⟨-, -, -, hnamed, -, -, -, hat⟩ := (Spec.applies_iff hf).mp happ
  obtain ⟨hg, hn⟩ := and_e (Cond.before_iff.mp (show (Jvm.Cond.and given_1 narrow_1).before args s = true from hpre))
  obtain ⟨h1, g0⟩ := and_e hg
  obtain ⟨a0, g1⟩ := and_e g0
  obtain ⟨a1, g2⟩ := and_e g1
  obtain ⟨a2, g3⟩ := and_e g2
  obtain ⟨a3, g4⟩ := and_e g3
  obtain ⟨a4, g5⟩ := and_e g4
  have a5 := g5
  obtain ⟨u0, u1, u2, u3, u4, u5, rfl⟩ : ∃ u0 u1 u2 u3 u4 u5 : Value, args = #[u0, u1, u2, u3, u4, u5] := by
    have hs : args.size = 6 := by simpa [Cond.value, given_1] using h1
    obtain ⟨L⟩ := args
    match L, hs with
    | [u0, u1, u2, u3, u4, u5], _ => exact ⟨u0, u1, u2, u3, u4, u5, rfl⟩
  have hw := fun d (hd : d ∈ tables_1) => atoms_spec (ws := Jvm.Cond.code x code maxLocals ret :: tables_1) hat d (List.mem_cons_of_mem _ hd)
  obtain ⟨hsets, hown0⟩ := atoms_of _ (rest_1_c_eq ▸ (show rest_1_c.before _ s = true from hrest))
  have hfit : Fit s := fun {y c} hc i hi => by
    obtain ⟨ha, rfl⟩ := Array.getElem?_eq_some_iff.mp hc
    have q := List.all_eq_true.mp ((Array.all_eq_true_iff_forall_mem.mp hF) _ (Array.getElem_mem ha)) i (List.mem_range.mpr hi)
    simpa [Array.getElem?_eq_getElem hi] using q
  obtain ⟨pa, e_pa⟩ := is_v a0
  obtain rfl : u0 = (.int pa) := Option.some.inj e_pa
  obtain ⟨pb, e_pb⟩ := is_v a1
  obtain rfl : u1 = (.int pb) := Option.some.inj e_pb
  obtain ⟨pd, e_pd⟩ := is_v a2
  obtain rfl : u2 = (.int pd) := Option.some.inj e_pd
  obtain ⟨pc, e_pc⟩ := is_v a3
  obtain rfl : u3 = (.int pc) := Option.some.inj e_pc
  obtain ⟨pe, e_pe⟩ := is_v a4
  obtain rfl : u4 = (.int pe) := Option.some.inj e_pe
  obtain ⟨pw, e_pw⟩ := is_v a5
  obtain rfl : u5 = (.int pw) := Option.some.inj e_pw
  have ncs := not_v (Cond.before_iff.mp (hsets _ (List.mem_of_getElem? (i := 2) rfl)))
  obtain ⟨ccs, ecs⟩ := is_v (Cond.before_iff.mp (hsets _ (List.mem_of_getElem? (i := 1) rfl)))
  have SCS : Sta s s.heap "java/lang/String" "COMPACT_STRINGS" "Z" (.int ccs) := Sta.start ecs (Or.inl (hsets _ (List.mem_of_getElem? (i := 0) rfl)))
  have hccs : ¬ (ccs = (0 : Int32)) := gotF (Cond.eq_ints ecs (Term.int_eval (0))) ncs
  obtain ⟨fo, efo, rfo⟩ := isR_v (Cond.before_iff.mp (hsets _ (List.mem_of_getElem? (i := 8) rfl)))
  have SFO : Sta s s.heap "jdk/internal/util/Preconditions" "SIOOBE_FORMATTER" "Ljava/util/function/BiFunction;" fo := Sta.start efo (Or.inl (hsets _ (List.mem_of_getElem? (i := 7) rfl)))
  have hxe := Cond.before_iff.mp (hsets _ (List.mem_of_getElem? (i := 11) rfl))
  obtain ⟨eo, eeo⟩ := exa_v hxe
  have Eeo := Exa.start eeo hxe
  have SEM : Sta s s.heap "java/util/OptionalLong" "EMPTY" "Ljava/util/OptionalLong;" (.ref eo) := Sta.start eeo (Or.inl (hsets _ (List.mem_of_getElem? (i := 10) rfl)))
  have hfe := Cond.before_iff.mp (hsets _ (List.mem_of_getElem? (i := 12) rfl))
  obtain ⟨x1, y1, ex1, ey1, kx1, -⟩ := cmp_v (Or.inl hfe)
  have ey1' : y1 = .int 0 := (Option.some.inj ey1).symm
  subst ey1'
  obtain ⟨z1, rfl⟩ : ∃ z, x1 = .int z := by cases x1 <;> first | exact ⟨_, rfl⟩ | (simp [Kin, Value.isRef] at kx1)
  have z10 : z1 = 0 := gotT (Cond.eq_ints ex1 ey1) hfe
  subst z10
  have Fem := Fld.start ((fld_at eeo).symm.trans ex1)
  have GEM : OLg s s.heap eo none := ⟨Eeo, Fem⟩
  have hEL : EW s #[(.int pa), (.int pb), (.int pd), (.int pc), (.int pe), (.int pw)] EL0 := (EW.cons (w_5 hw) (by decide +kernel) EW.nil)
  have hCH : CHv s EL0 s.vm s.heap := CHv.start hEL (fun p hp => hcalls.1 p hp) (hsets _ (List.mem_of_getElem? (i := 2) rfl)) (w_8 hw) (w_7 hw)
  obtain ⟨n, o, h1, h2, h3, v, L, rfl, hQ, N, hC, hwd, hOl, hq⟩ := ct_law (l := l) (n0 := s.heap.size) hw hEL tables_1 pa pb pd pc pe pw ccs fo eo s.heap SCS hccs SFO rfo SEM GEM p e ha hc hk s m _ below hf ((Spec.applies_iff_loose hf).mp happ).1 ⟨rfl, State.Warmed39.refl s, rfl, hCH, Old.start s, fun x hx => by cases hx⟩ (fun q => by cases q)
  obtain rfl : v = some (.int 1) := hQ
  refine ⟨n, _, h1, h2, h3, hpost _ _ _ _ _ _ ⟨Cond.after_iff.mpr rfl, Cond.after_iff.mpr (eq_i res_at (Term.int_eval (1)) rfl), trivial⟩ ⟨hq.1, hq.2.1, hq.2.2.1, (hq.2.2.2.sift fun y hy => Or.inr (N y hy)).mono (by decide) (by decide)⟩⟩
theorem main_1_1 : Claimed_1_1 := comes_1 fun _ _ _ _ _ _ h hF => ⟨h.1, hF⟩
theorem main_1_2 : Claimed_1_2 := comes_1 fun _ _ _ _ _ _ h hF => ⟨h.2.1, hF⟩
end Jvm.Pilot.@@N@@
namespace Jvm.Pilot.@@N@@
open Jvm Jvm.ClassFile Sem Op Lib Jvm.Free Jvm.Stand Jvm.Pilot.@@N@@.Jvm.D
/-! MADE BY PROGRAM (witnessworld.py) out of the Statement's table words and the real class files: 21 classes; the members and pool entries that the words name. The judged class is class 1, her method 1. -/
namespace start1
open Jvm.ClassFile
def u (s : String) : CpInfo := .utf8 (stringToUtf16 s)
/-- a pool by its gaps: so many unusable entries, then the entry; so many at the end -/
def gap : Nat → List CpInfo → List CpInfo
  | 0, r => r
  | n + 1, r => .unusable :: gap n r
def poolList (es : List (Nat × CpInfo)) (last : Nat) : List CpInfo := es.foldr (fun e r => gap e.1 (e.2 :: r)) (gap last [])
def pool (es : List (Nat × CpInfo)) (last : Nat) : Array CpInfo := ⟨poolList es last⟩
def fileOf (pool : Array CpInfo) (this : Nat) (attrs : Array Attribute := #[]) (ms : Array MethodInfo := #[]) (fl : Nat := 33) (sup : Nat := 0) (ifs : Array Nat := #[]) (fds : Array FieldInfo := #[]) : ClassFile where
  minorVersion := 0
  majorVersion := 65
  constantPool := pool
  accessFlags := fl
  thisClass := this
  superClass := sup
  interfaces := ifs
  fields := fds
  methods := ms
  attributes := attrs
def plain (name : String) (sup : Option ClassId) : Class where
  name := name
  kind := .ordinary
  loader := none
  accessFlags := 33
  super := sup
  interfaces := #[]
  cf := none
  fields := #[]
  methods := #[]
  instanceTypes := #[]
  staticTypes := #[]
  resolved := #[]
  callSites := []
  init := .initialized
  statics := none
  mirror := none

def pool0 : Array CpInfo := pool [(5, u "<init>"), (0, u "()V"), (1, .class_ 10), (1, u "java/lang/Object")] 113

def k0c0 : Code := { maxStack := 0, maxLocals := 1, code := object_method_1_code, exceptionTable := #[], attributes := #[] }
def k0m0 : Method := { name := "<init>", desc := "()V", sig := { parameters := [], returnType := none }, accessFlags := 1, code := some k0c0 }
/-- java/lang/Object -/
def k0 : Class := { plain "java/lang/Object" none with
  accessFlags := 33
  interfaces := #[]
  cf := some (fileOf pool0 8 #[] #[{ accessFlags := 1, nameIndex := 5, descriptorIndex := 6, attributes := #[] }] 33 0 #[] #[])
  fields := #[]
  methods := #[k0m0]
  instanceTypes := #[]
  staticTypes := #[]
  resolved := Array.replicate 124 none
  statics := none }

def pool1 : Array CpInfo := pool [(2, .class_ 4), (1, u "java/lang/Object"), (0, u "<init>"), (0, u "()V"), (0, .methodref 8 9), (0, .class_ 10), (0, .nameAndType 11 12), (0, u "com/example/lazuline/lazuline/PlainDecimalParsePinLaw"), (0, u "bigCase"), (0, u "(IIII)Z"), (0, .methodref 8 14), (0, .nameAndType 15 16), (0, u "pick"), (0, u "(I)C"), (0, .methodref 8 18), (0, .nameAndType 19 20), (0, u "acc"), (0, u "([CIIJ)J"), (0, .class_ 22), (0, u "java/lang/String"), (0, .methodref 21 24), (0, .nameAndType 5 25), (0, u "([C)V"), (0, .methodref 27 28), (0, .class_ 29), (0, .nameAndType 30 31), (0, u "com/example/lazuline/lazuline/PlainDecimal"), (0, u "parse"), (0, u "(Ljava/lang/CharSequence;II)Ljava/util/OptionalLong;"), (0, .methodref 8 33), (0, .nameAndType 34 35), (0, u "same"), (0, u "(Ljava/util/OptionalLong;ZJ)Z"), (0, .integer 2147483647), (0, .long 10), (1, .long 223372036854775800), (1, .long 2233720368547758000), (1, .long 7), (1, .long 9223372036854775800), (1, .long 8), (1, .long 9223372036854775816), (1, .methodref 52 53), (0, .class_ 54), (0, .nameAndType 55 56), (0, u "java/util/OptionalLong"), (0, u "isPresent"), (0, u "()Z"), (0, .methodref 52 58), (0, .nameAndType 59 60), (0, u "getAsLong"), (0, u "()J"), (0, .long 18446744073709551615), (1, .string 64), (0, u "-0123456789/:+.-"), (0, .methodref 21 66), (0, .nameAndType 67 16), (0, u "charAt"), (2, u "law"), (0, u "(IIIIII)Z")] 5

def k1m0 : Method := { name := "<init>", desc := "()V", sig := { parameters := [], returnType := none }, accessFlags := 2, code := none }
def k1c1 : Code := { maxStack := 5, maxLocals := 16, code := code, exceptionTable := #[], attributes := #[] }
def k1m1 : Method := { name := "law", desc := "(IIIIII)Z", sig := { parameters := [.int, .int, .int, .int, .int, .int], returnType := some .boolean }, accessFlags := 9, code := some k1c1 }
def k1c2 : Code := { maxStack := 6, maxLocals := 16, code := method_3_code, exceptionTable := #[], attributes := #[] }
def k1m2 : Method := { name := "bigCase", desc := "(IIII)Z", sig := { parameters := [.int, .int, .int, .int], returnType := some .boolean }, accessFlags := 10, code := some k1c2 }
def k1c3 : Code := { maxStack := 4, maxLocals := 4, code := method_4_code, exceptionTable := #[], attributes := #[] }
def k1m3 : Method := { name := "same", desc := "(Ljava/util/OptionalLong;ZJ)Z", sig := { parameters := [(.object "java/util/OptionalLong"), .boolean, .long], returnType := some .boolean }, accessFlags := 10, code := some k1c3 }
def k1c4 : Code := { maxStack := 4, maxLocals := 6, code := method_5_code, exceptionTable := #[], attributes := #[] }
def k1m4 : Method := { name := "acc", desc := "([CIIJ)J", sig := { parameters := [(.array .char), .int, .int, .long], returnType := some .long }, accessFlags := 10, code := some k1c4 }
def k1c5 : Code := { maxStack := 2, maxLocals := 2, code := method_6_code, exceptionTable := #[], attributes := #[] }
def k1m5 : Method := { name := "pick", desc := "(I)C", sig := { parameters := [.int], returnType := some .char }, accessFlags := 10, code := some k1c5 }
/-- com/example/lazuline/lazuline/PlainDecimalParsePinLaw -/
def k1 : Class := { plain "com/example/lazuline/lazuline/PlainDecimalParsePinLaw" (some 0) with
  accessFlags := 49
  interfaces := #[]
  cf := some (fileOf pool1 8 #[] #[{ accessFlags := 2, nameIndex := 5, descriptorIndex := 6, attributes := #[] }, { accessFlags := 9, nameIndex := 70, descriptorIndex := 71, attributes := #[] }, { accessFlags := 10, nameIndex := 11, descriptorIndex := 12, attributes := #[] }, { accessFlags := 10, nameIndex := 34, descriptorIndex := 35, attributes := #[] }, { accessFlags := 10, nameIndex := 19, descriptorIndex := 20, attributes := #[] }, { accessFlags := 10, nameIndex := 15, descriptorIndex := 16, attributes := #[] }] 49 2 #[] #[])
  fields := #[]
  methods := #[k1m0, k1m1, k1m2, k1m3, k1m4, k1m5]
  instanceTypes := #[]
  staticTypes := #[]
  resolved := Array.replicate 77 none
  statics := none }

def pool2 : Array CpInfo := pool [(1, .class_ 2), (0, u "java/io/Serializable"), (0, .class_ 4), (0, u "java/lang/Object")] 2

/-- java/io/Serializable -/
def k2 : Class := { plain "java/io/Serializable" (some 0) with
  accessFlags := 1537
  interfaces := #[]
  cf := some (fileOf pool2 1 #[] #[] 1537 3 #[] #[])
  fields := #[]
  methods := #[]
  instanceTypes := #[]
  staticTypes := #[]
  resolved := Array.replicate 7 none
  statics := none }

def pool3 : Array CpInfo := pool [(1, .class_ 2), (0, u "java/lang/Comparable"), (0, .class_ 4), (0, u "java/lang/Object")] 7

/-- java/lang/Comparable -/
def k3 : Class := { plain "java/lang/Comparable" (some 0) with
  accessFlags := 1537
  interfaces := #[]
  cf := some (fileOf pool3 1 #[] #[] 1537 3 #[] #[])
  fields := #[]
  methods := #[]
  instanceTypes := #[]
  staticTypes := #[]
  resolved := Array.replicate 12 none
  statics := none }

def pool4 : Array CpInfo := pool [(2, .class_ 4), (1, u "java/lang/CharSequence"), (40, u "charAt"), (0, u "(I)C"), (0, .class_ 48), (0, u "java/lang/CharSequence$1CodePointIterator"), (10, .class_ 60), (0, u "java/lang/CharSequence$1CharIterator"), (5, .class_ 67), (0, u "java/lang/Object")] 63

def k4m0 : Method := { name := "charAt", desc := "(I)C", sig := { parameters := [.int], returnType := some .char }, accessFlags := 1025, code := none }
/-- java/lang/CharSequence -/
def k4 : Class := { plain "java/lang/CharSequence" (some 0) with
  accessFlags := 1537
  interfaces := #[]
  cf := some (fileOf pool4 2 #[.nestMembers #[47, 59]] #[{ accessFlags := 1025, nameIndex := 45, descriptorIndex := 46, attributes := #[] }] 1537 66 #[] #[])
  fields := #[]
  methods := #[k4m0]
  instanceTypes := #[]
  staticTypes := #[]
  resolved := Array.replicate 131 none
  statics := none }

def pool5 : Array CpInfo := pool [(1, .class_ 2), (0, u "java/lang/constant/Constable"), (0, .class_ 4), (0, u "java/lang/Object")] 6

/-- java/lang/constant/Constable -/
def k5 : Class := { plain "java/lang/constant/Constable" (some 0) with
  accessFlags := 1537
  interfaces := #[]
  cf := some (fileOf pool5 1 #[] #[] 1537 3 #[] #[])
  fields := #[]
  methods := #[]
  instanceTypes := #[]
  staticTypes := #[]
  resolved := Array.replicate 11 none
  statics := none }

def pool6 : Array CpInfo := pool [(1, .class_ 2), (0, u "java/lang/constant/ConstantDesc"), (0, .class_ 4), (0, u "java/lang/Object")] 32

/-- java/lang/constant/ConstantDesc -/
def k6 : Class := { plain "java/lang/constant/ConstantDesc" (some 0) with
  accessFlags := 1537
  interfaces := #[]
  cf := some (fileOf pool6 1 #[] #[] 1537 3 #[] #[])
  fields := #[]
  methods := #[]
  instanceTypes := #[]
  staticTypes := #[]
  resolved := Array.replicate 37 none
  statics := none }

def pool7 : Array CpInfo := pool [(1, .methodref 2 3), (0, .class_ 4), (0, .nameAndType 5 6), (0, u "java/lang/Object"), (0, u "<init>"), (0, u "()V"), (2, .fieldref 10 11), (0, .class_ 12), (0, .nameAndType 13 14), (0, u "java/lang/String"), (0, u "value"), (0, u "[B"), (0, .fieldref 10 16), (0, .nameAndType 17 18), (0, u "coder"), (0, u "B"), (2, u "hash"), (0, u "I"), (2, u "hashIsZero"), (0, u "Z"), (0, .methodref 10 28), (0, .nameAndType 5 29), (0, u "([CIILjava/lang/Void;)V"), (8, .fieldref 10 39), (0, .nameAndType 40 26), (0, u "COMPACT_STRINGS"), (1, .class_ 44), (1, u "java/lang/StringUTF16"), (0, u "compress"), (1, .methodref 42 48), (0, .nameAndType 49 50), (0, u "coderFromArrayLen"), (0, u "([BI)B"), (56, .class_ 109), (1, u "java/lang/StringLatin1"), (32, u "()Z"), (34, .methodref 42 178), (0, .nameAndType 45 179), (0, u "([CII)[B"), (183, u "([BI)C"), (27, u "(II)V"), (35, u "(I)C"), (64, .methodref 10 493), (0, .nameAndType 494 142), (0, u "isLatin1"), (0, .methodref 107 496), (0, .nameAndType 497 363), (0, u "charAt"), (3, u "checkIndex"), (73, .class_ 576), (0, u "java/lang/CharSequence"), (22, u "CASE_INSENSITIVE_ORDER"), (0, u "Ljava/util/Comparator;"), (409, u "([C)V"), (42, .fieldref 1054 1055), (0, .class_ 1056), (0, .nameAndType 1057 1058), (0, u "jdk/internal/util/Preconditions"), (0, u "SIOOBE_FORMATTER"), (0, u "Ljava/util/function/BiFunction;"), (0, .methodref 1054 1060), (0, .nameAndType 501 1061), (0, u "(IILjava/util/function/BiFunction;)I"), (39, u "serialPersistentFields"), (0, u "[Ljava/io/ObjectStreamField;"), (0, .class_ 1104), (0, u "java/lang/String$CaseInsensitiveComparator"), (1, .class_ 1107), (0, u "java/io/Serializable"), (0, .class_ 1109), (0, u "java/lang/Comparable"), (0, .class_ 1111), (0, u "java/lang/constant/Constable"), (0, .class_ 1113), (0, u "java/lang/constant/ConstantDesc"), (2, u "serialVersionUID"), (0, u "J"), (3, u "REPL"), (0, u "C"), (2, u "LATIN1"), (1, u "UTF16")] 323

def k7m0 : Method := { name := "<init>", desc := "()V", sig := { parameters := [], returnType := none }, accessFlags := 1, code := none }
def k7c1 : Code := { maxStack := 5, maxLocals := 2, code := jdk_42_method_3_code, exceptionTable := #[], attributes := #[] }
def k7m1 : Method := { name := "<init>", desc := "([C)V", sig := { parameters := [(.array .char)], returnType := none }, accessFlags := 1, code := some k7c1 }
def k7c2 : Code := { maxStack := 2, maxLocals := 2, code := jdk_42_method_56_code, exceptionTable := #[], attributes := #[] }
def k7m2 : Method := { name := "charAt", desc := "(I)C", sig := { parameters := [.int], returnType := some .char }, accessFlags := 1, code := some k7c2 }
def k7c3 : Code := { maxStack := 4, maxLocals := 6, code := jdk_42_method_149_code, exceptionTable := #[], attributes := #[] }
def k7m3 : Method := { name := "<init>", desc := "([CIILjava/lang/Void;)V", sig := { parameters := [(.array .char), .int, .int, (.object "java/lang/Void")], returnType := none }, accessFlags := 2, code := some k7c3 }
def k7c4 : Code := { maxStack := 1, maxLocals := 1, code := jdk_42_method_154_code, exceptionTable := #[], attributes := #[] }
def k7m4 : Method := { name := "isLatin1", desc := "()Z", sig := { parameters := [], returnType := some .boolean }, accessFlags := 0, code := some k7c4 }
def k7c5 : Code := { maxStack := 3, maxLocals := 2, code := jdk_42_method_155_code, exceptionTable := #[], attributes := #[] }
def k7m5 : Method := { name := "checkIndex", desc := "(II)V", sig := { parameters := [.int, .int], returnType := none }, accessFlags := 8, code := some k7c5 }
/-- java/lang/String -/
def k7 : Class := { plain "java/lang/String" (some 0) with
  accessFlags := 49
  interfaces := #[2, 3, 4, 5, 6]
  cf := some (fileOf pool7 10 #[.nestMembers #[1103]] #[{ accessFlags := 1, nameIndex := 5, descriptorIndex := 6, attributes := #[] }, { accessFlags := 1, nameIndex := 5, descriptorIndex := 1010, attributes := #[] }, { accessFlags := 1, nameIndex := 497, descriptorIndex := 427, attributes := #[] }, { accessFlags := 2, nameIndex := 5, descriptorIndex := 29, attributes := #[] }, { accessFlags := 0, nameIndex := 494, descriptorIndex := 142, attributes := #[] }, { accessFlags := 8, nameIndex := 501, descriptorIndex := 391, attributes := #[] }] 49 2 #[1106, 1108, 575, 1110, 1112] #[{ accessFlags := 18, nameIndex := 13, descriptorIndex := 14, attributes := #[] }, { accessFlags := 18, nameIndex := 17, descriptorIndex := 18, attributes := #[] }, { accessFlags := 2, nameIndex := 21, descriptorIndex := 22, attributes := #[] }, { accessFlags := 2, nameIndex := 25, descriptorIndex := 26, attributes := #[] }, { accessFlags := 26, nameIndex := 1116, descriptorIndex := 1117, attributes := #[] }, { accessFlags := 24, nameIndex := 40, descriptorIndex := 26, attributes := #[] }, { accessFlags := 26, nameIndex := 1101, descriptorIndex := 1102, attributes := #[] }, { accessFlags := 26, nameIndex := 1121, descriptorIndex := 1122, attributes := #[] }, { accessFlags := 25, nameIndex := 599, descriptorIndex := 600, attributes := #[] }, { accessFlags := 24, nameIndex := 1125, descriptorIndex := 18, attributes := #[] }, { accessFlags := 24, nameIndex := 1127, descriptorIndex := 18, attributes := #[] }])
  fields := #[{ name := "value", type := (.array .byte), accessFlags := 18, slot := 0, constantValue := 0 }, { name := "coder", type := .byte, accessFlags := 18, slot := 1, constantValue := 0 }, { name := "hash", type := .int, accessFlags := 2, slot := 2, constantValue := 0 }, { name := "hashIsZero", type := .boolean, accessFlags := 2, slot := 3, constantValue := 0 }, { name := "serialVersionUID", type := .long, accessFlags := 26, slot := 0, constantValue := 0 }, { name := "COMPACT_STRINGS", type := .boolean, accessFlags := 24, slot := 1, constantValue := 0 }, { name := "serialPersistentFields", type := (.array (.object "java/io/ObjectStreamField")), accessFlags := 26, slot := 2, constantValue := 0 }, { name := "REPL", type := .char, accessFlags := 26, slot := 3, constantValue := 0 }, { name := "CASE_INSENSITIVE_ORDER", type := (.object "java/util/Comparator"), accessFlags := 25, slot := 4, constantValue := 0 }, { name := "LATIN1", type := .byte, accessFlags := 24, slot := 5, constantValue := 0 }, { name := "UTF16", type := .byte, accessFlags := 24, slot := 6, constantValue := 0 }]
  methods := #[k7m0, k7m1, k7m2, k7m3, k7m4, k7m5]
  instanceTypes := #[(.array .byte), .byte, .int, .boolean]
  staticTypes := #[.long, .boolean, (.array (.object "java/io/ObjectStreamField")), .char, (.object "java/util/Comparator"), .byte, .byte]
  resolved := Array.replicate 1451 none
  statics := some 0 }

def pool8 : Array CpInfo := pool [(1, .class_ 2), (0, u "java/lang/String"), (1, .class_ 6), (1, u "java/lang/Object"), (0, u "<init>"), (0, u "()V"), (0, .methodref 1 10), (0, .nameAndType 11 12), (0, u "checkIndex"), (0, u "(II)V"), (1, .class_ 16), (1, u "java/lang/StringLatin1"), (36, u "([BI)C"), (67, u "$assertionsDisabled"), (0, u "Z"), (98, .class_ 223), (1, u "java/lang/StringLatin1$LinesSpliterator"), (28, u "charAt"), (137, .class_ 391), (0, u "java/lang/StringLatin1$CharsSpliterator")] 3

def k8m0 : Method := { name := "<init>", desc := "()V", sig := { parameters := [], returnType := none }, accessFlags := 0, code := none }
def k8c1 : Code := { maxStack := 2, maxLocals := 2, code := jdk_43_method_2_code, exceptionTable := #[], attributes := #[] }
def k8m1 : Method := { name := "charAt", desc := "([BI)C", sig := { parameters := [(.array .byte), .int], returnType := some .char }, accessFlags := 9, code := some k8c1 }
/-- java/lang/StringLatin1 -/
def k8 : Class := { plain "java/lang/StringLatin1" (some 0) with
  accessFlags := 48
  interfaces := #[]
  cf := some (fileOf pool8 14 #[.nestMembers #[390, 221]] #[{ accessFlags := 0, nameIndex := 7, descriptorIndex := 8, attributes := #[] }, { accessFlags := 9, nameIndex := 252, descriptorIndex := 53, attributes := #[] }] 48 4 #[] #[{ accessFlags := 4120, nameIndex := 121, descriptorIndex := 122, attributes := #[] }])
  fields := #[{ name := "$assertionsDisabled", type := .boolean, accessFlags := 4120, slot := 0, constantValue := 0 }]
  methods := #[k8m0, k8m1]
  instanceTypes := #[]
  staticTypes := #[.boolean]
  resolved := Array.replicate 395 none
  statics := none }

def pool9 : Array CpInfo := pool [(2, .class_ 4), (1, u "java/lang/Object"), (0, u "<init>"), (0, u "()V"), (17, .class_ 26), (1, u "jdk/internal/util/Preconditions"), (6, u "checkIndex"), (21, .class_ 56), (0, u "jdk/internal/util/Preconditions$4"), (57, .class_ 115), (0, u "jdk/internal/util/Preconditions$1"), (7, u "SIOOBE_FORMATTER"), (0, u "Ljava/util/function/BiFunction;"), (0, .class_ 126), (0, u "jdk/internal/util/Preconditions$2"), (3, u "AIOOBE_FORMATTER"), (0, .class_ 132), (0, u "jdk/internal/util/Preconditions$3"), (3, u "IOOBE_FORMATTER"), (41, u "(IILjava/util/function/BiFunction;)I")] 15

def k9m0 : Method := { name := "<init>", desc := "()V", sig := { parameters := [], returnType := none }, accessFlags := 1, code := none }
def k9c1 : Code := { maxStack := 3, maxLocals := 3, code := jdk_41_method_11_code, exceptionTable := #[], attributes := #[] }
def k9m1 : Method := { name := "checkIndex", desc := "(IILjava/util/function/BiFunction;)I", sig := { parameters := [.int, .int, (.object "java/util/function/BiFunction")], returnType := some .int }, accessFlags := 9, code := some k9c1 }
/-- jdk/internal/util/Preconditions -/
def k9 : Class := { plain "jdk/internal/util/Preconditions" (some 0) with
  accessFlags := 33
  interfaces := #[]
  cf := some (fileOf pool9 24 #[.nestMembers #[55, 131, 125, 114]] #[{ accessFlags := 1, nameIndex := 5, descriptorIndex := 6, attributes := #[] }, { accessFlags := 9, nameIndex := 33, descriptorIndex := 178, attributes := #[] }] 33 2 #[] #[{ accessFlags := 25, nameIndex := 123, descriptorIndex := 124, attributes := #[] }, { accessFlags := 25, nameIndex := 130, descriptorIndex := 124, attributes := #[] }, { accessFlags := 25, nameIndex := 136, descriptorIndex := 124, attributes := #[] }])
  fields := #[{ name := "SIOOBE_FORMATTER", type := (.object "java/util/function/BiFunction"), accessFlags := 25, slot := 0, constantValue := 0 }, { name := "AIOOBE_FORMATTER", type := (.object "java/util/function/BiFunction"), accessFlags := 25, slot := 1, constantValue := 0 }, { name := "IOOBE_FORMATTER", type := (.object "java/util/function/BiFunction"), accessFlags := 25, slot := 2, constantValue := 0 }]
  methods := #[k9m0, k9m1]
  instanceTypes := #[]
  staticTypes := #[(.object "java/util/function/BiFunction"), (.object "java/util/function/BiFunction"), (.object "java/util/function/BiFunction")]
  resolved := Array.replicate 194 none
  statics := some 1 }

def pool10 : Array CpInfo := pool [(6, .class_ 8), (1, u "java/lang/Object"), (0, u "<init>"), (0, u "()V"), (1, .class_ 14), (1, u "java/lang/StringUTF16"), (31, u "$assertionsDisabled"), (0, u "Z"), (13, u "HI_BYTE_SHIFT"), (0, u "I"), (2, u "LO_BYTE_SHIFT"), (49, .methodref 12 116), (0, .nameAndType 117 118), (0, u "compress"), (0, u "([CI[BII)I"), (3, u "([CII)[B"), (138, u "coderFromArrayLen"), (0, u "([BI)B"), (106, .class_ 371), (1, u "java/lang/StringUTF16$LinesSpliterator"), (58, u "MAX_LENGTH"), (196, .class_ 628), (0, u "java/lang/StringUTF16$CodePointsSpliterator"), (0, .class_ 630), (0, u "java/lang/StringUTF16$CharsSpliterator")] 4

def k10m0 : Method := { name := "<init>", desc := "()V", sig := { parameters := [], returnType := none }, accessFlags := 0, code := none }
def k10c1 : Code := { maxStack := 2, maxLocals := 2, code := jdk_52_method_15_code, exceptionTable := #[], attributes := #[] }
def k10m1 : Method := { name := "coderFromArrayLen", desc := "([BI)B", sig := { parameters := [(.array .byte), .int], returnType := some .byte }, accessFlags := 8, code := some k10c1 }
def k10c2 : Code := { maxStack := 5, maxLocals := 6, code := jdk_52_method_16_code, exceptionTable := #[], attributes := #[] }
def k10m2 : Method := { name := "compress", desc := "([CII)[B", sig := { parameters := [(.array .char), .int, .int], returnType := some (.array .byte) }, accessFlags := 9, code := some k10c2 }
def k10c3 : Code := { maxStack := 3, maxLocals := 7, code := jdk_52_method_21_code, exceptionTable := #[], attributes := #[] }
def k10m3 : Method := { name := "compress", desc := "([CI[BII)I", sig := { parameters := [(.array .char), .int, (.array .byte), .int, .int], returnType := some .int }, accessFlags := 9, code := some k10c3 }
/-- java/lang/StringUTF16 -/
def k10 : Class := { plain "java/lang/StringUTF16" (some 0) with
  accessFlags := 48
  interfaces := #[]
  cf := some (fileOf pool10 12 #[.nestMembers #[627, 629, 369]] #[{ accessFlags := 0, nameIndex := 9, descriptorIndex := 10, attributes := #[] }, { accessFlags := 8, nameIndex := 261, descriptorIndex := 262, attributes := #[] }, { accessFlags := 9, nameIndex := 117, descriptorIndex := 122, attributes := #[] }, { accessFlags := 9, nameIndex := 117, descriptorIndex := 118, attributes := #[] }] 48 6 #[] #[{ accessFlags := 26, nameIndex := 61, descriptorIndex := 62, attributes := #[] }, { accessFlags := 26, nameIndex := 65, descriptorIndex := 62, attributes := #[] }, { accessFlags := 24, nameIndex := 430, descriptorIndex := 62, attributes := #[] }, { accessFlags := 4120, nameIndex := 46, descriptorIndex := 47, attributes := #[] }])
  fields := #[{ name := "HI_BYTE_SHIFT", type := .int, accessFlags := 26, slot := 0, constantValue := 0 }, { name := "LO_BYTE_SHIFT", type := .int, accessFlags := 26, slot := 1, constantValue := 0 }, { name := "MAX_LENGTH", type := .int, accessFlags := 24, slot := 2, constantValue := 0 }, { name := "$assertionsDisabled", type := .boolean, accessFlags := 4120, slot := 3, constantValue := 0 }]
  methods := #[k10m0, k10m1, k10m2, k10m3]
  instanceTypes := #[]
  staticTypes := #[.int, .int, .int, .boolean]
  resolved := Array.replicate 635 none
  statics := none }

def pool11 : Array CpInfo := pool [(2, .class_ 4), (1, u "java/lang/Object"), (0, u "<init>"), (0, u "()V"), (7, .class_ 16), (1, u "com/example/lazuline/lazuline/PlainDecimal"), (0, u "parse"), (0, u "(Ljava/lang/CharSequence;II)Ljava/util/OptionalLong;"), (0, .interfaceMethodref 20 21), (0, .class_ 22), (0, .nameAndType 23 24), (0, u "java/lang/CharSequence"), (0, u "charAt"), (0, u "(I)C"), (0, .methodref 26 27), (0, .class_ 28), (0, .nameAndType 29 30), (0, u "java/util/OptionalLong"), (0, u "empty"), (0, u "()Ljava/util/OptionalLong;"), (2, .long 9223372036854775808), (1, .long 9223372036854775809), (1, .long 10), (1, .methodref 26 40), (0, .nameAndType 41 42), (0, u "of"), (0, u "(J)Ljava/util/OptionalLong;")] 6

def k11m0 : Method := { name := "<init>", desc := "()V", sig := { parameters := [], returnType := none }, accessFlags := 2, code := none }
def k11c1 : Code := { maxStack := 6, maxLocals := 11, code := prog_27_method_3_code, exceptionTable := #[], attributes := #[] }
def k11m1 : Method := { name := "parse", desc := "(Ljava/lang/CharSequence;II)Ljava/util/OptionalLong;", sig := { parameters := [(.object "java/lang/CharSequence"), .int, .int], returnType := some (.object "java/util/OptionalLong") }, accessFlags := 8, code := some k11c1 }
/-- com/example/lazuline/lazuline/PlainDecimal -/
def k11 : Class := { plain "com/example/lazuline/lazuline/PlainDecimal" (some 0) with
  accessFlags := 48
  interfaces := #[]
  cf := some (fileOf pool11 14 #[] #[{ accessFlags := 2, nameIndex := 5, descriptorIndex := 6, attributes := #[] }, { accessFlags := 8, nameIndex := 17, descriptorIndex := 18, attributes := #[] }] 48 2 #[] #[])
  fields := #[]
  methods := #[k11m0, k11m1]
  instanceTypes := #[]
  staticTypes := #[]
  resolved := Array.replicate 49 none
  statics := none }

def pool12 : Array CpInfo := pool [(1, .methodref 2 3), (0, .class_ 4), (0, .nameAndType 5 6), (0, u "java/lang/Object"), (0, u "<init>"), (0, u "()V"), (0, .fieldref 8 9), (0, .class_ 10), (0, .nameAndType 11 12), (0, u "java/util/OptionalLong"), (0, u "isPresent"), (0, u "Z"), (0, .fieldref 8 14), (0, .nameAndType 15 16), (0, u "value"), (0, u "J"), (0, .fieldref 8 18), (0, .nameAndType 19 20), (0, u "EMPTY"), (0, u "Ljava/util/OptionalLong;"), (0, .methodref 8 22), (0, .nameAndType 5 23), (0, u "(J)V"), (21, u "of"), (3, u "empty"), (5, u "getAsLong"), (0, u "()J"), (39, u "()Ljava/util/OptionalLong;"), (0, u "(J)Ljava/util/OptionalLong;"), (1, u "()Z")] 38

def k12m0 : Method := { name := "<init>", desc := "()V", sig := { parameters := [], returnType := none }, accessFlags := 2, code := none }
def k12c1 : Code := { maxStack := 1, maxLocals := 0, code := jdk_2650_method_2_code, exceptionTable := #[], attributes := #[] }
def k12m1 : Method := { name := "empty", desc := "()Ljava/util/OptionalLong;", sig := { parameters := [], returnType := some (.object "java/util/OptionalLong") }, accessFlags := 9, code := some k12c1 }
def k12c2 : Code := { maxStack := 3, maxLocals := 3, code := jdk_2650_method_3_code, exceptionTable := #[], attributes := #[] }
def k12m2 : Method := { name := "<init>", desc := "(J)V", sig := { parameters := [.long], returnType := none }, accessFlags := 2, code := some k12c2 }
def k12c3 : Code := { maxStack := 4, maxLocals := 2, code := jdk_2650_method_4_code, exceptionTable := #[], attributes := #[] }
def k12m3 : Method := { name := "of", desc := "(J)Ljava/util/OptionalLong;", sig := { parameters := [.long], returnType := some (.object "java/util/OptionalLong") }, accessFlags := 9, code := some k12c3 }
def k12c4 : Code := { maxStack := 3, maxLocals := 1, code := jdk_2650_method_5_code, exceptionTable := #[], attributes := #[] }
def k12m4 : Method := { name := "getAsLong", desc := "()J", sig := { parameters := [], returnType := some .long }, accessFlags := 1, code := some k12c4 }
def k12c5 : Code := { maxStack := 1, maxLocals := 1, code := jdk_2650_method_6_code, exceptionTable := #[], attributes := #[] }
def k12m5 : Method := { name := "isPresent", desc := "()Z", sig := { parameters := [], returnType := some .boolean }, accessFlags := 1, code := some k12c5 }
/-- java/util/OptionalLong -/
def k12 : Class := { plain "java/util/OptionalLong" (some 0) with
  accessFlags := 49
  interfaces := #[]
  cf := some (fileOf pool12 8 #[] #[{ accessFlags := 2, nameIndex := 5, descriptorIndex := 6, attributes := #[] }, { accessFlags := 9, nameIndex := 49, descriptorIndex := 96, attributes := #[] }, { accessFlags := 2, nameIndex := 5, descriptorIndex := 23, attributes := #[] }, { accessFlags := 9, nameIndex := 45, descriptorIndex := 97, attributes := #[] }, { accessFlags := 1, nameIndex := 55, descriptorIndex := 56, attributes := #[] }, { accessFlags := 1, nameIndex := 11, descriptorIndex := 99, attributes := #[] }] 49 2 #[] #[{ accessFlags := 26, nameIndex := 19, descriptorIndex := 20, attributes := #[] }, { accessFlags := 18, nameIndex := 11, descriptorIndex := 12, attributes := #[] }, { accessFlags := 18, nameIndex := 15, descriptorIndex := 16, attributes := #[] }])
  fields := #[{ name := "EMPTY", type := (.object "java/util/OptionalLong"), accessFlags := 26, slot := 0, constantValue := 0 }, { name := "isPresent", type := .boolean, accessFlags := 18, slot := 0, constantValue := 0 }, { name := "value", type := .long, accessFlags := 18, slot := 1, constantValue := 0 }]
  methods := #[k12m0, k12m1, k12m2, k12m3, k12m4, k12m5]
  instanceTypes := #[.boolean, .long]
  staticTypes := #[(.object "java/util/OptionalLong")]
  resolved := Array.replicate 138 none
  statics := some 2 }

def pool13 : Array CpInfo := pool [(9, u "<init>"), (6, .class_ 18), (1, u "java/lang/Object"), (0, u "()V"), (1, .class_ 23), (1, u "jdk/internal/util/ArraysSupport"), (0, u "LOG2_ARRAY_LONG_INDEX_SCALE"), (0, u "I"), (2, u "U"), (0, u "Ljdk/internal/misc/Unsafe;"), (8, u "BIG_ENDIAN"), (0, u "Z"), (8, u "LOG2_BYTE_BIT_SIZE"), (4, u "LOG2_ARRAY_INT_INDEX_SCALE"), (54, u "JLA"), (0, u "Ljdk/internal/access/JavaLangAccess;"), (11, u "LOG2_ARRAY_BOOLEAN_INDEX_SCALE"), (9, u "LOG2_ARRAY_BYTE_INDEX_SCALE"), (5, u "LOG2_ARRAY_CHAR_INDEX_SCALE"), (5, u "LOG2_ARRAY_SHORT_INDEX_SCALE"), (18, u "LOG2_ARRAY_FLOAT_INDEX_SCALE"), (24, u "LOG2_ARRAY_DOUBLE_INDEX_SCALE"), (89, u "T_BOOLEAN"), (2, u "T_CHAR"), (1, u "T_FLOAT"), (1, u "T_DOUBLE"), (1, u "T_BYTE"), (1, u "T_SHORT"), (1, u "T_INT"), (1, u "T_LONG"), (1, u "SOFT_MAX_ARRAY_LENGTH")] 83

def k13m0 : Method := { name := "<init>", desc := "()V", sig := { parameters := [], returnType := none }, accessFlags := 2, code := none }
/-- jdk/internal/util/ArraysSupport -/
def k13 : Class := { plain "jdk/internal/util/ArraysSupport" (some 0) with
  accessFlags := 33
  interfaces := #[]
  cf := some (fileOf pool13 21 #[] #[{ accessFlags := 2, nameIndex := 9, descriptorIndex := 19, attributes := #[] }] 33 16 #[] #[{ accessFlags := 24, nameIndex := 28, descriptorIndex := 29, attributes := #[] }, { accessFlags := 26, nameIndex := 38, descriptorIndex := 39, attributes := #[] }, { accessFlags := 25, nameIndex := 121, descriptorIndex := 25, attributes := #[] }, { accessFlags := 25, nameIndex := 131, descriptorIndex := 25, attributes := #[] }, { accessFlags := 25, nameIndex := 137, descriptorIndex := 25, attributes := #[] }, { accessFlags := 25, nameIndex := 143, descriptorIndex := 25, attributes := #[] }, { accessFlags := 25, nameIndex := 53, descriptorIndex := 25, attributes := #[] }, { accessFlags := 25, nameIndex := 24, descriptorIndex := 25, attributes := #[] }, { accessFlags := 25, nameIndex := 162, descriptorIndex := 25, attributes := #[] }, { accessFlags := 25, nameIndex := 187, descriptorIndex := 25, attributes := #[] }, { accessFlags := 26, nameIndex := 48, descriptorIndex := 25, attributes := #[] }, { accessFlags := 25, nameIndex := 277, descriptorIndex := 25, attributes := #[] }, { accessFlags := 25, nameIndex := 280, descriptorIndex := 25, attributes := #[] }, { accessFlags := 25, nameIndex := 282, descriptorIndex := 25, attributes := #[] }, { accessFlags := 25, nameIndex := 284, descriptorIndex := 25, attributes := #[] }, { accessFlags := 25, nameIndex := 286, descriptorIndex := 25, attributes := #[] }, { accessFlags := 25, nameIndex := 288, descriptorIndex := 25, attributes := #[] }, { accessFlags := 25, nameIndex := 290, descriptorIndex := 25, attributes := #[] }, { accessFlags := 25, nameIndex := 292, descriptorIndex := 25, attributes := #[] }, { accessFlags := 26, nameIndex := 108, descriptorIndex := 109, attributes := #[] }, { accessFlags := 25, nameIndex := 294, descriptorIndex := 25, attributes := #[] }])
  fields := #[{ name := "U", type := (.object "jdk/internal/misc/Unsafe"), accessFlags := 24, slot := 0, constantValue := 0 }, { name := "BIG_ENDIAN", type := .boolean, accessFlags := 26, slot := 1, constantValue := 0 }, { name := "LOG2_ARRAY_BOOLEAN_INDEX_SCALE", type := .int, accessFlags := 25, slot := 2, constantValue := 0 }, { name := "LOG2_ARRAY_BYTE_INDEX_SCALE", type := .int, accessFlags := 25, slot := 3, constantValue := 0 }, { name := "LOG2_ARRAY_CHAR_INDEX_SCALE", type := .int, accessFlags := 25, slot := 4, constantValue := 0 }, { name := "LOG2_ARRAY_SHORT_INDEX_SCALE", type := .int, accessFlags := 25, slot := 5, constantValue := 0 }, { name := "LOG2_ARRAY_INT_INDEX_SCALE", type := .int, accessFlags := 25, slot := 6, constantValue := 0 }, { name := "LOG2_ARRAY_LONG_INDEX_SCALE", type := .int, accessFlags := 25, slot := 7, constantValue := 0 }, { name := "LOG2_ARRAY_FLOAT_INDEX_SCALE", type := .int, accessFlags := 25, slot := 8, constantValue := 0 }, { name := "LOG2_ARRAY_DOUBLE_INDEX_SCALE", type := .int, accessFlags := 25, slot := 9, constantValue := 0 }, { name := "LOG2_BYTE_BIT_SIZE", type := .int, accessFlags := 26, slot := 10, constantValue := 0 }, { name := "T_BOOLEAN", type := .int, accessFlags := 25, slot := 11, constantValue := 0 }, { name := "T_CHAR", type := .int, accessFlags := 25, slot := 12, constantValue := 0 }, { name := "T_FLOAT", type := .int, accessFlags := 25, slot := 13, constantValue := 0 }, { name := "T_DOUBLE", type := .int, accessFlags := 25, slot := 14, constantValue := 0 }, { name := "T_BYTE", type := .int, accessFlags := 25, slot := 15, constantValue := 0 }, { name := "T_SHORT", type := .int, accessFlags := 25, slot := 16, constantValue := 0 }, { name := "T_INT", type := .int, accessFlags := 25, slot := 17, constantValue := 0 }, { name := "T_LONG", type := .int, accessFlags := 25, slot := 18, constantValue := 0 }, { name := "JLA", type := (.object "jdk/internal/access/JavaLangAccess"), accessFlags := 26, slot := 19, constantValue := 0 }, { name := "SOFT_MAX_ARRAY_LENGTH", type := .int, accessFlags := 25, slot := 20, constantValue := 0 }]
  methods := #[k13m0]
  instanceTypes := #[]
  staticTypes := #[(.object "jdk/internal/misc/Unsafe"), .boolean, .int, .int, .int, .int, .int, .int, .int, .int, .int, .int, .int, .int, .int, .int, .int, .int, .int, (.object "jdk/internal/access/JavaLangAccess"), .int]
  resolved := Array.replicate 378 none
  statics := none }

def pool14 : Array CpInfo := pool [(1, u "java/lang/Cloneable"), (0, .class_ 1), (0, u "java/lang/Object"), (0, .class_ 3)] 3

/-- java/lang/Cloneable -/
def k14 : Class := { plain "java/lang/Cloneable" (some 0) with
  accessFlags := 1537
  interfaces := #[]
  cf := some (fileOf pool14 2 #[] #[] 1537 4 #[] #[])
  fields := #[]
  methods := #[]
  instanceTypes := #[]
  staticTypes := #[]
  resolved := Array.replicate 8 none
  statics := none }

/-- the primitive byte -/
def k15 : Class := { plain "byte" none with kind := .primitive 'B', accessFlags := 0x411 }
/-- [B -/
def k16 : Class := { plain "[B" (some 0) with kind := .array 15 .byte, interfaces := #[14, 2], accessFlags := 1041 }

/-- the primitive char -/
def k17 : Class := { plain "char" none with kind := .primitive 'C', accessFlags := 0x411 }
/-- [C -/
def k18 : Class := { plain "[C" (some 0) with kind := .array 17 .char, interfaces := #[14, 2], accessFlags := 1041 }

/-- the primitive int -/
def k19 : Class := { plain "int" none with kind := .primitive 'I', accessFlags := 0x411 }
/-- [I -/
def k20 : Class := { plain "[I" (some 0) with kind := .array 19 .int, interfaces := #[14, 2], accessFlags := 1041 }

def heap : Heap := #[{ cls := 7, slots := #[.long 0, .int 1, .null, .int 0, .null, .int 0, .int 0], vm := .statics 7 },
  { cls := 9, slots := #[.null, .null, .null], vm := .statics 9 },
  { cls := 12, slots := #[.ref 3], vm := .statics 12 },
  { cls := 12, slots := #[.int 0, .long 0], vm := .none }]
def classes : Array Class := #[k0, k1, k2, k3, k4, k5, k6, k7, k8, k9, k10, k11, k12, k13, k14, k15, k16, k17, k18, k19, k20]
def interned : List (Array UInt16 × Addr) := []
def slotsUsed : Nat := 13
def theMethod : MethodId := ⟨1, 1⟩
def args0 : Array Value := #[.int 5, .int 7, .int 9, .int 2, .int 0, .int 3]
def aboutOver (below : List Frame) : State where
  vm := { classes := classes, interned := interned.toArray }
  heap := heap
  slotsUsed := slotsUsed
  threads := #[{ frames := .invoking theMethod args0 :: below }]
def below0 : List Frame := [.native { method := ⟨0, 0⟩, args := #[] }]
def about1 : State := aboutOver below0
def p0 : Program := .bare "" "" ""
def e0 : Env := launch0.env 0 0 0
theorem w_frames : about1.frames = Frame.invoking theMethod args0 :: below0 := rfl
set_option maxRecDepth 65536 in
theorem w_args : argsFit about1.vm theMethod args0 = true := by decide +kernel
set_option maxRecDepth 65536 in
theorem w_heap : heapFits about1 = true := by decide +kernel
set_option maxRecDepth 65536 in
theorem w_runnable : about1.curStatus? = some .runnable := by decide +kernel
set_option maxRecDepth 65536 in
theorem w_alone : about1.alone = true := by decide +kernel
set_option maxRecDepth 65536 in
theorem w_named : about1.methodNamed? x = some theMethod := by decide +kernel
set_option maxRecDepth 65536 in
theorem w_hears : about1.hears theMethod below0 = true := by decide +kernel
set_option maxRecDepth 65536 in
theorem w_ripe : about1.ripe theMethod args0 below0 = true := by decide +kernel
theorem w_running : about1.status = .running := rfl
set_option maxRecDepth 65536 in
theorem w_room : about1.hasRoom e0.platform room_1 = true :=
  launch0.hasRoom_least _ room_1 (by decide +kernel) (by decide +kernel) (by decide +kernel) (by decide +kernel) (by decide +kernel) (by decide +kernel)
theorem allAtoms_all (ts : List Jvm.Cond) (a : Array Jvm.Value) (st : Jvm.State) : (allAtoms ts).before a st = ts.all (fun c => c.before a st) := by
  induction ts with
  | nil => rfl
  | cons c t ih =>
    show (Jvm.Cond.and c (allAtoms t)).before a st = _
    rw [Jvm.Cond.before_and, ih, List.all_cons]
def words1 : List Jvm.Cond := Jvm.Cond.code x code maxLocals ret :: tables_1
/-- a 'code' word, met by the world's own term for the bytes: nothing is compared byte by byte -/
theorem code_word {y : MethodName} {bytes : ByteArray} {mx : Nat} {rt : Option FieldType} {a : Array Value} {s : State} {m : MethodId} {meth : Method} {c : Code} (h1 : s.methodNamed? y = some m) (h2 : s.vm.method? m = some meth) (h3 : meth.code = some c) (h4 : c.code = bytes)
    (h5 : (c.maxLocals == mx && c.exceptionTable.isEmpty && decide (c.maxStack ≤ mostOperands) && decide (meth.sig.returnType = rt) && !meth.locks && decide (parseMethodDescriptor y.desc = some meth.sig)) = true) : (Jvm.Cond.code y bytes mx rt).before a s = true := by
  simp only [Bool.and_eq_true, beq_iff_eq, Bool.not_eq_true', decide_eq_true_eq] at h5
  obtain ⟨⟨⟨⟨⟨g1, g2⟩, g3⟩, g4⟩, g5⟩, g6⟩ := h5
  simp [Cond.before, Cond.holds, Cond.value, h1, h2, h3, h4, g1, g2, g3, g4, g5, g6]
def isCode : Jvm.Cond → Bool
  | .code _ _ _ _ => true
  | _ => false
theorem all_split {L : List Jvm.Cond} {P : Jvm.Cond → Bool} (h1 : L.all (fun c => isCode c || P c) = true) (h2 : ∀ c ∈ L.filter isCode, P c = true) : L.all P = true := by
  refine List.all_eq_true.mpr fun c hc => ?_
  have h := List.all_eq_true.mp h1 c hc
  rcases Bool.eq_false_or_eq_true (isCode c) with hi | hi
  · exact h2 c (List.mem_filter.mpr ⟨hc, hi⟩)
  · simpa [hi] using h
set_option maxRecDepth 65536 in
theorem w_c0 : (Jvm.Cond.code x code maxLocals ret).before args0 about1 = true := code_word (m := ⟨1, 1⟩) (meth := k1m1) (c := k1c1) (by decide +kernel) rfl rfl rfl (by decide +kernel)
set_option maxRecDepth 65536 in
theorem w_c1 : (Jvm.Cond.code ({ cls := "com/example/lazuline/lazuline/PlainDecimalParsePinLaw", name := "pick", desc := "(I)C" } : Jvm.MethodName) method_6_code (2 : Nat) (Option.some Jvm.ClassFile.FieldType.char)).before args0 about1 = true := code_word (m := ⟨1, 5⟩) (meth := k1m5) (c := k1c5) (by decide +kernel) rfl rfl rfl (by decide +kernel)
set_option maxRecDepth 65536 in
theorem w_c2 : (Jvm.Cond.code ({ cls := "java/lang/String", name := "charAt", desc := "(I)C" } : Jvm.MethodName) jdk_42_method_56_code (2 : Nat) (Option.some Jvm.ClassFile.FieldType.char)).before args0 about1 = true := code_word (m := ⟨7, 2⟩) (meth := k7m2) (c := k7c2) (by decide +kernel) rfl rfl rfl (by decide +kernel)
set_option maxRecDepth 65536 in
theorem w_c3 : (Jvm.Cond.code ({ cls := "java/lang/String", name := "isLatin1", desc := "()Z" } : Jvm.MethodName) jdk_42_method_154_code (1 : Nat) (Option.some Jvm.ClassFile.FieldType.boolean)).before args0 about1 = true := code_word (m := ⟨7, 4⟩) (meth := k7m4) (c := k7c4) (by decide +kernel) rfl rfl rfl (by decide +kernel)
set_option maxRecDepth 65536 in
theorem w_c4 : (Jvm.Cond.code ({ cls := "java/lang/StringLatin1", name := "charAt", desc := "([BI)C" } : Jvm.MethodName) jdk_43_method_2_code (2 : Nat) (Option.some Jvm.ClassFile.FieldType.char)).before args0 about1 = true := code_word (m := ⟨8, 1⟩) (meth := k8m1) (c := k8c1) (by decide +kernel) rfl rfl rfl (by decide +kernel)
set_option maxRecDepth 65536 in
theorem w_c5 : (Jvm.Cond.code ({ cls := "java/lang/String", name := "checkIndex", desc := "(II)V" } : Jvm.MethodName) jdk_42_method_155_code (2 : Nat) (Option.none : Option Jvm.ClassFile.FieldType)).before args0 about1 = true := code_word (m := ⟨7, 5⟩) (meth := k7m5) (c := k7c5) (by decide +kernel) rfl rfl rfl (by decide +kernel)
set_option maxRecDepth 65536 in
theorem w_c6 : (Jvm.Cond.code ({ cls := "jdk/internal/util/Preconditions", name := "checkIndex", desc := "(IILjava/util/function/BiFunction;)I" } : Jvm.MethodName) jdk_41_method_11_code (3 : Nat) (Option.some Jvm.ClassFile.FieldType.int)).before args0 about1 = true := code_word (m := ⟨9, 1⟩) (meth := k9m1) (c := k9c1) (by decide +kernel) rfl rfl rfl (by decide +kernel)
set_option maxRecDepth 65536 in
theorem w_c7 : (Jvm.Cond.code ({ cls := "java/lang/String", name := "<init>", desc := "([C)V" } : Jvm.MethodName) jdk_42_method_3_code (2 : Nat) (Option.none : Option Jvm.ClassFile.FieldType)).before args0 about1 = true := code_word (m := ⟨7, 1⟩) (meth := k7m1) (c := k7c1) (by decide +kernel) rfl rfl rfl (by decide +kernel)
set_option maxRecDepth 65536 in
theorem w_c8 : (Jvm.Cond.code ({ cls := "java/lang/String", name := "<init>", desc := "([CIILjava/lang/Void;)V" } : Jvm.MethodName) jdk_42_method_149_code (6 : Nat) (Option.none : Option Jvm.ClassFile.FieldType)).before args0 about1 = true := code_word (m := ⟨7, 3⟩) (meth := k7m3) (c := k7c3) (by decide +kernel) rfl rfl rfl (by decide +kernel)
set_option maxRecDepth 65536 in
theorem w_c9 : (Jvm.Cond.code ({ cls := "java/lang/Object", name := "<init>", desc := "()V" } : Jvm.MethodName) object_method_1_code (1 : Nat) (Option.none : Option Jvm.ClassFile.FieldType)).before args0 about1 = true := code_word (m := ⟨0, 0⟩) (meth := k0m0) (c := k0c0) (by decide +kernel) rfl rfl rfl (by decide +kernel)
set_option maxRecDepth 65536 in
theorem w_c10 : (Jvm.Cond.code ({ cls := "java/lang/StringUTF16", name := "compress", desc := "([CII)[B" } : Jvm.MethodName) jdk_52_method_16_code (6 : Nat) (Option.some (Jvm.ClassFile.FieldType.array Jvm.ClassFile.FieldType.byte))).before args0 about1 = true := code_word (m := ⟨10, 2⟩) (meth := k10m2) (c := k10c2) (by decide +kernel) rfl rfl rfl (by decide +kernel)
set_option maxRecDepth 65536 in
theorem w_c11 : (Jvm.Cond.code ({ cls := "java/lang/StringUTF16", name := "compress", desc := "([CI[BII)I" } : Jvm.MethodName) jdk_52_method_21_code (7 : Nat) (Option.some Jvm.ClassFile.FieldType.int)).before args0 about1 = true := code_word (m := ⟨10, 3⟩) (meth := k10m3) (c := k10c3) (by decide +kernel) rfl rfl rfl (by decide +kernel)
set_option maxRecDepth 65536 in
theorem w_c12 : (Jvm.Cond.code ({ cls := "java/lang/StringUTF16", name := "coderFromArrayLen", desc := "([BI)B" } : Jvm.MethodName) jdk_52_method_15_code (2 : Nat) (Option.some Jvm.ClassFile.FieldType.byte)).before args0 about1 = true := code_word (m := ⟨10, 1⟩) (meth := k10m1) (c := k10c1) (by decide +kernel) rfl rfl rfl (by decide +kernel)
set_option maxRecDepth 65536 in
theorem w_c13 : (Jvm.Cond.code ({ cls := "com/example/lazuline/lazuline/PlainDecimal", name := "parse", desc := "(Ljava/lang/CharSequence;II)Ljava/util/OptionalLong;" } : Jvm.MethodName) prog_27_method_3_code (11 : Nat) (Option.some (Jvm.ClassFile.FieldType.object "java/util/OptionalLong"))).before args0 about1 = true := code_word (m := ⟨11, 1⟩) (meth := k11m1) (c := k11c1) (by decide +kernel) rfl rfl rfl (by decide +kernel)
set_option maxRecDepth 65536 in
theorem w_c14 : (Jvm.Cond.code ({ cls := "java/util/OptionalLong", name := "empty", desc := "()Ljava/util/OptionalLong;" } : Jvm.MethodName) jdk_2650_method_2_code (0 : Nat) (Option.some (Jvm.ClassFile.FieldType.object "java/util/OptionalLong"))).before args0 about1 = true := code_word (m := ⟨12, 1⟩) (meth := k12m1) (c := k12c1) (by decide +kernel) rfl rfl rfl (by decide +kernel)
set_option maxRecDepth 65536 in
theorem w_c15 : (Jvm.Cond.code ({ cls := "com/example/lazuline/lazuline/PlainDecimalParsePinLaw", name := "same", desc := "(Ljava/util/OptionalLong;ZJ)Z" } : Jvm.MethodName) method_4_code (4 : Nat) (Option.some Jvm.ClassFile.FieldType.boolean)).before args0 about1 = true := code_word (m := ⟨1, 3⟩) (meth := k1m3) (c := k1c3) (by decide +kernel) rfl rfl rfl (by decide +kernel)
set_option maxRecDepth 65536 in
theorem w_c16 : (Jvm.Cond.code ({ cls := "java/util/OptionalLong", name := "isPresent", desc := "()Z" } : Jvm.MethodName) jdk_2650_method_6_code (1 : Nat) (Option.some Jvm.ClassFile.FieldType.boolean)).before args0 about1 = true := code_word (m := ⟨12, 5⟩) (meth := k12m5) (c := k12c5) (by decide +kernel) rfl rfl rfl (by decide +kernel)
set_option maxRecDepth 65536 in
theorem w_c17 : (Jvm.Cond.code ({ cls := "com/example/lazuline/lazuline/PlainDecimalParsePinLaw", name := "bigCase", desc := "(IIII)Z" } : Jvm.MethodName) method_3_code (16 : Nat) (Option.some Jvm.ClassFile.FieldType.boolean)).before args0 about1 = true := code_word (m := ⟨1, 2⟩) (meth := k1m2) (c := k1c2) (by decide +kernel) rfl rfl rfl (by decide +kernel)
set_option maxRecDepth 65536 in
theorem w_c18 : (Jvm.Cond.code ({ cls := "java/util/OptionalLong", name := "of", desc := "(J)Ljava/util/OptionalLong;" } : Jvm.MethodName) jdk_2650_method_4_code (2 : Nat) (Option.some (Jvm.ClassFile.FieldType.object "java/util/OptionalLong"))).before args0 about1 = true := code_word (m := ⟨12, 3⟩) (meth := k12m3) (c := k12c3) (by decide +kernel) rfl rfl rfl (by decide +kernel)
set_option maxRecDepth 65536 in
theorem w_c19 : (Jvm.Cond.code ({ cls := "java/util/OptionalLong", name := "<init>", desc := "(J)V" } : Jvm.MethodName) jdk_2650_method_3_code (3 : Nat) (Option.none : Option Jvm.ClassFile.FieldType)).before args0 about1 = true := code_word (m := ⟨12, 2⟩) (meth := k12m2) (c := k12c2) (by decide +kernel) rfl rfl rfl (by decide +kernel)
set_option maxRecDepth 65536 in
theorem w_c20 : (Jvm.Cond.code ({ cls := "java/util/OptionalLong", name := "getAsLong", desc := "()J" } : Jvm.MethodName) jdk_2650_method_5_code (1 : Nat) (Option.some Jvm.ClassFile.FieldType.long)).before args0 about1 = true := code_word (m := ⟨12, 4⟩) (meth := k12m4) (c := k12c4) (by decide +kernel) rfl rfl rfl (by decide +kernel)
set_option maxRecDepth 65536 in
theorem w_c21 : (Jvm.Cond.code ({ cls := "com/example/lazuline/lazuline/PlainDecimalParsePinLaw", name := "acc", desc := "([CIIJ)J" } : Jvm.MethodName) method_5_code (6 : Nat) (Option.some Jvm.ClassFile.FieldType.long)).before args0 about1 = true := code_word (m := ⟨1, 4⟩) (meth := k1m4) (c := k1c4) (by decide +kernel) rfl rfl rfl (by decide +kernel)
def codes1 : List Jvm.Cond := [Jvm.Cond.code x code maxLocals ret, Jvm.Cond.code ({ cls := "com/example/lazuline/lazuline/PlainDecimalParsePinLaw", name := "pick", desc := "(I)C" } : Jvm.MethodName) method_6_code (2 : Nat) (Option.some Jvm.ClassFile.FieldType.char), Jvm.Cond.code ({ cls := "java/lang/String", name := "charAt", desc := "(I)C" } : Jvm.MethodName) jdk_42_method_56_code (2 : Nat) (Option.some Jvm.ClassFile.FieldType.char), Jvm.Cond.code ({ cls := "java/lang/String", name := "isLatin1", desc := "()Z" } : Jvm.MethodName) jdk_42_method_154_code (1 : Nat) (Option.some Jvm.ClassFile.FieldType.boolean), Jvm.Cond.code ({ cls := "java/lang/StringLatin1", name := "charAt", desc := "([BI)C" } : Jvm.MethodName) jdk_43_method_2_code (2 : Nat) (Option.some Jvm.ClassFile.FieldType.char), Jvm.Cond.code ({ cls := "java/lang/String", name := "checkIndex", desc := "(II)V" } : Jvm.MethodName) jdk_42_method_155_code (2 : Nat) (Option.none : Option Jvm.ClassFile.FieldType), Jvm.Cond.code ({ cls := "jdk/internal/util/Preconditions", name := "checkIndex", desc := "(IILjava/util/function/BiFunction;)I" } : Jvm.MethodName) jdk_41_method_11_code (3 : Nat) (Option.some Jvm.ClassFile.FieldType.int), Jvm.Cond.code ({ cls := "java/lang/String", name := "<init>", desc := "([C)V" } : Jvm.MethodName) jdk_42_method_3_code (2 : Nat) (Option.none : Option Jvm.ClassFile.FieldType), Jvm.Cond.code ({ cls := "java/lang/String", name := "<init>", desc := "([CIILjava/lang/Void;)V" } : Jvm.MethodName) jdk_42_method_149_code (6 : Nat) (Option.none : Option Jvm.ClassFile.FieldType), Jvm.Cond.code ({ cls := "java/lang/Object", name := "<init>", desc := "()V" } : Jvm.MethodName) object_method_1_code (1 : Nat) (Option.none : Option Jvm.ClassFile.FieldType), Jvm.Cond.code ({ cls := "java/lang/StringUTF16", name := "compress", desc := "([CII)[B" } : Jvm.MethodName) jdk_52_method_16_code (6 : Nat) (Option.some (Jvm.ClassFile.FieldType.array Jvm.ClassFile.FieldType.byte)), Jvm.Cond.code ({ cls := "java/lang/StringUTF16", name := "compress", desc := "([CI[BII)I" } : Jvm.MethodName) jdk_52_method_21_code (7 : Nat) (Option.some Jvm.ClassFile.FieldType.int), Jvm.Cond.code ({ cls := "java/lang/StringUTF16", name := "coderFromArrayLen", desc := "([BI)B" } : Jvm.MethodName) jdk_52_method_15_code (2 : Nat) (Option.some Jvm.ClassFile.FieldType.byte), Jvm.Cond.code ({ cls := "com/example/lazuline/lazuline/PlainDecimal", name := "parse", desc := "(Ljava/lang/CharSequence;II)Ljava/util/OptionalLong;" } : Jvm.MethodName) prog_27_method_3_code (11 : Nat) (Option.some (Jvm.ClassFile.FieldType.object "java/util/OptionalLong")), Jvm.Cond.code ({ cls := "java/util/OptionalLong", name := "empty", desc := "()Ljava/util/OptionalLong;" } : Jvm.MethodName) jdk_2650_method_2_code (0 : Nat) (Option.some (Jvm.ClassFile.FieldType.object "java/util/OptionalLong")), Jvm.Cond.code ({ cls := "com/example/lazuline/lazuline/PlainDecimalParsePinLaw", name := "same", desc := "(Ljava/util/OptionalLong;ZJ)Z" } : Jvm.MethodName) method_4_code (4 : Nat) (Option.some Jvm.ClassFile.FieldType.boolean), Jvm.Cond.code ({ cls := "java/util/OptionalLong", name := "isPresent", desc := "()Z" } : Jvm.MethodName) jdk_2650_method_6_code (1 : Nat) (Option.some Jvm.ClassFile.FieldType.boolean), Jvm.Cond.code ({ cls := "com/example/lazuline/lazuline/PlainDecimalParsePinLaw", name := "bigCase", desc := "(IIII)Z" } : Jvm.MethodName) method_3_code (16 : Nat) (Option.some Jvm.ClassFile.FieldType.boolean), Jvm.Cond.code ({ cls := "java/util/OptionalLong", name := "of", desc := "(J)Ljava/util/OptionalLong;" } : Jvm.MethodName) jdk_2650_method_4_code (2 : Nat) (Option.some (Jvm.ClassFile.FieldType.object "java/util/OptionalLong")), Jvm.Cond.code ({ cls := "java/util/OptionalLong", name := "<init>", desc := "(J)V" } : Jvm.MethodName) jdk_2650_method_3_code (3 : Nat) (Option.none : Option Jvm.ClassFile.FieldType), Jvm.Cond.code ({ cls := "java/util/OptionalLong", name := "getAsLong", desc := "()J" } : Jvm.MethodName) jdk_2650_method_5_code (1 : Nat) (Option.some Jvm.ClassFile.FieldType.long), Jvm.Cond.code ({ cls := "com/example/lazuline/lazuline/PlainDecimalParsePinLaw", name := "acc", desc := "([CIIJ)J" } : Jvm.MethodName) method_5_code (6 : Nat) (Option.some Jvm.ClassFile.FieldType.long)]
set_option maxRecDepth 65536 in
theorem codes_eq : words1.filter isCode = codes1 := rfl
theorem w_codes : ∀ c ∈ words1.filter isCode, c.before args0 about1 = true := by
  rw [codes_eq]
  intro c hc
  simp only [codes1, List.mem_cons, List.not_mem_nil, or_false] at hc
  rcases hc with rfl | rfl | rfl | rfl | rfl | rfl | rfl | rfl | rfl | rfl | rfl | rfl | rfl | rfl | rfl | rfl | rfl | rfl | rfl | rfl | rfl | rfl
  · exact w_c0
  · exact w_c1
  · exact w_c2
  · exact w_c3
  · exact w_c4
  · exact w_c5
  · exact w_c6
  · exact w_c7
  · exact w_c8
  · exact w_c9
  · exact w_c10
  · exact w_c11
  · exact w_c12
  · exact w_c13
  · exact w_c14
  · exact w_c15
  · exact w_c16
  · exact w_c17
  · exact w_c18
  · exact w_c19
  · exact w_c20
  · exact w_c21
set_option maxRecDepth 65536 in
theorem w_t1 : (words1.take 24).all (fun c => isCode c || c.before args0 about1) = true := by decide +kernel
set_option maxRecDepth 65536 in
theorem w_t2 : ((words1.drop 24).take 24).all (fun c => isCode c || c.before args0 about1) = true := by decide +kernel
set_option maxRecDepth 65536 in
theorem w_t3 : (((words1.drop 24).drop 24).take 24).all (fun c => isCode c || c.before args0 about1) = true := by decide +kernel
set_option maxRecDepth 65536 in
theorem w_t4 : ((((words1.drop 24).drop 24).drop 24).take 24).all (fun c => isCode c || c.before args0 about1) = true := by decide +kernel
set_option maxRecDepth 65536 in
theorem w_t5 : (((((words1.drop 24).drop 24).drop 24).drop 24).take 24).all (fun c => isCode c || c.before args0 about1) = true := by decide +kernel
set_option maxRecDepth 65536 in
theorem w_t6 : (((((words1.drop 24).drop 24).drop 24).drop 24).drop 24).all (fun c => isCode c || c.before args0 about1) = true := by decide +kernel
theorem w_tables : (allAtoms (Jvm.Cond.code x code maxLocals ret :: tables_1)).before args0 about1 = true := by
  rw [allAtoms_all]
  show words1.all (fun c => c.before args0 about1) = true
  refine all_split ?_ w_codes
  rw [← List.take_append_drop 24 words1, List.all_append, w_t1, ← List.take_append_drop 24 (words1.drop 24), List.all_append, w_t2, ← List.take_append_drop 24 ((words1.drop 24).drop 24), List.all_append, w_t3, ← List.take_append_drop 24 (((words1.drop 24).drop 24).drop 24), List.all_append, w_t4, ← List.take_append_drop 24 ((((words1.drop 24).drop 24).drop 24).drop 24), List.all_append, w_t5, w_t6]
  rfl
set_option maxRecDepth 65536 in
theorem w_rest : rest_1_c.before args0 about1 = true := by decide +kernel
set_option maxRecDepth 65536 in
theorem w_case : (Jvm.Cond.and given_1 narrow_1).before args0 about1 = true := by decide +kernel
set_option maxRecDepth 65536 in
theorem w_consts : constsHeld consts_1 about1 := Jvm.Lit.constsHeldB_iff.mp (by decide +kernel)
theorem w_applies : (headSpec (Jvm.Cond.code x code maxLocals ret :: tables_1) room_1).applies x e0.platform about1 = true :=
  (Spec.applies_iff w_frames).mpr ⟨w_running, w_runnable, w_alone, w_named, w_hears, w_ripe, w_room, w_tables⟩
theorem atStart : AtStart classFile x code maxLocals ret World_1 tables_1 room_1 Calls_1 rest_1 Pre_1 launch0 p0 e0 about1 theMethod args0 below0 :=
  ⟨lists_1, trivial, launch0.admits_env _ _ _, launch0.least_env, fairChoices_fair.cas, fairChoices_fair.clock, w_frames, w_args, w_heap, w_applies, ⟨w_consts, trivial⟩, w_rest, w_case⟩
end start1
theorem witness_1 : WitnessClaimed_1 := ⟨start1.p0, start1.e0, start1.about1, start1.theMethod, start1.args0, start1.below0, start1.atStart⟩
end Jvm.Pilot.@@N@@
