import JvmDerived
import JvmDerived.Pilot.@@N@@Statement
import JvmDerived.Pilot.@@N@@Code
set_option linter.unusedVariables false
set_option linter.unusedSimpArgs false
namespace Jvm.RoadKit
open Sem ClassFile Op Lib Jvm.Stand Jvm.Free Jvm.LawKit
section New
variable {p : Program} {l : Launch} {e : Env} {R : Room} {s : State} {m : MethodId} {args : Array Value} {below : List Frame} {meth : Method} {c : Code} {T : State} {locs : List Loc} {cells slots : Nat}
theorem retI (X : Stand p l e R s m args below meth c T locs cells slots) (hx : p.tables.exec = Jvm.exec) {pc : Nat} {Ls : Array Slot} {z : Int32} {rest : List Value} (hret : meth.sig.returnType = some .int) (hd : decode c.code pc = .ok (.ireturn, 1)) {fs : List Frame}
    (hl : ∀ (f : JFrame) (acts : List Action), f.method = m → f.locked = none → f.entered = [] → (doReturn e (T.setTop f) acts (some (.int z))).1 = T.setFrames fs) : Steps p.tables e below (T.setTop (mkF m pc Ls (.int z :: rest))) (T.setFrames fs) := by
  have hm' : T.vm.method? m = some meth := X.method'
  have hn : narrow .int (.int z) = .int z := rfl
  show Steps p.tables e below (T.setTop { method := m, pc := pc, locals := Ls, stack := _ :: rest, locked := none }) _
  jvm_step X.here [X.here.top, hx, hd, hm', hret, hn]
  first | (intro acts; rw [hl _ acts rfl rfl rfl]) | rw [hl _ _ rfl rfl rfl]
  exact Steps.refl _
end New
end Jvm.RoadKit
namespace Jvm.Pilot.@@N@@
open Jvm Jvm.ClassFile Sem Op Lib Jvm.Free Jvm.Stand Jvm.LawKit Jvm.RoadKit Bundle Jvm.Pilot.@@N@@.Jvm.D
section OwnLayer
variable {p : Program} {l : Launch} {e : Env} {R : Room} {s : State} {m : MethodId} {args : Array Value} {below : List Frame} {meth : Method} {c : Code} {Z : State} {a0 : Array Value} {EL : List (String × Nat)} {n0 : Nat} {kn wd : Bool} {own : String} {bytes : ByteArray} {ml : Nat} {ws : List Addr} {T : State} {h : Heap} {k n : Nat} {Φ : Outcome → State → Prop} {pc pc' : Nat} {Ls : Array Slot} {st rest : List Value}
theorem known_vm {vm0 : Vm} (hW : s.Warmed39 vm0) (q : s.vm.MethodsKnown ∧ s.vm.FramesKnown below) : vm0.MethodsKnown ∧ vm0.FramesKnown below := ⟨Vm.MethodsKnown.alikeC hW.alike q.1, Vm.FramesKnown.alikeC hW.alike q.2⟩
/-- where a walk stands: all that its steps ask -/
def Wk (p : Program) (l : Launch) (e : Env) (R : Room) (s : State) (m : MethodId) (args : Array Value) (below : List Frame) (meth : Method) (c : Code) (Z : State) (a0 : Array Value) (EL : List (String × Nat)) (n0 : Nat) (kn wd : Bool) (own : String) (bytes : ByteArray) (ml : Nat) (ws : List Addr) (T : State) (h : Heap) (k n : Nat) : Prop :=
  (p.tables.exec = Jvm.exec ∧ c.code = bytes ∧ c.maxLocals = ml ∧ Z.vm.findClass own = some m.cls ∧ EW Z a0 EL ∧ meth.locks = false ∧ (kn = true → s.vm.MethodsKnown ∧ s.vm.FramesKnown below)) ∧
  ∃ (vm0 : Vm) (k0 : Nat) (locs : List Loc), Stand p l e R (s.setVm vm0) m args below meth c T locs k n ∧ T.heap = h ∧ s.Since vm0 k0 ∧ k0 ≤ h.size ∧ Z.Warmed39 vm0 ∧ CHr Z EL s.vm s.heap vm0 h ∧ (∀ x ∈ ws, x < h.size ∧ Safe Z EL vm0 h x) ∧ Fr n0 locs ∧ (wd = false → s.WarmedH vm0) ∧ Old Z n0 h
/-- from this frame the method comes to its end, and Φ holds there -/
def Go (p : Program) (e : Env) (below : List Frame) (Φ : Outcome → State → Prop) (T : State) (f : JFrame) : Prop := ∃ s₂ o, Steps p.tables e below (T.setTop f) s₂ ∧ s₂.status = .running ∧ Ended s₂ below o ∧ Φ o s₂
/-- what a contract promises -/
def Po (s : State) (Z : State) (EL : List (String × Nat)) (n0 : Nat) (wd : Bool) (rc rs : Nat) (Q : Option Value → Heap → Prop) (o : Outcome) (t : State) : Prop :=
  ∃ v L, o = .returned v ∧ Q v t.heap ∧ Fr n0 L ∧ CHr Z EL s.vm s.heap t.vm t.heap ∧ (wd = false → s.WarmedH t.vm) ∧ Old Z n0 t.heap ∧ ReturnedEndW s o t L rc rs
/-- a contract: the method y, called with these arguments at this heap -/
def Ct (l : Launch) (Z : State) (a0 : Array Value) (EL : List (String × Nat)) (n0 : Nat) (kn wd : Bool) (y : MethodName) (bytes : ByteArray) (ml : Nat) (ret : Option FieldType) (cs : List Jvm.Cond) (rm : Room) (ws : List Addr) (as' : Array Value) (h : Heap) (Q : Option Value → Heap → Prop) : Prop :=
  MetFree l y (head1 (Jvm.Cond.code y bytes ml ret :: cs) rm) (fun a U => a = as' ∧ Z.Warmed39 U.vm ∧ U.heap = h ∧ CHv Z EL U.vm h ∧ Old Z n0 h ∧ ∀ x ∈ ws, x < h.size ∧ Safe Z EL U.vm h x) (fun _ _ bl s _ => kn = true → s.vm.MethodsKnown ∧ s.vm.FramesKnown bl) (fun _ U o U' => Po U Z EL n0 wd rm.cells rm.slots Q o U')
theorem Go.back {f f' : JFrame} {T' : State} (hs : ∀ t, Steps p.tables e below (T'.setTop f') t → Steps p.tables e below (T.setTop f) t) (G : Go p e below Φ T' f') : Go p e below Φ T f := by
  obtain ⟨s₂, o, h1, h2⟩ := G
  exact ⟨s₂, o, hs _ h1, h2⟩
/-- a plain step -/
theorem g1 {f f' : JFrame} (W : Wk p l e R s m args below meth c Z a0 EL n0 kn wd own bytes ml ws T h k n) (hs : ∀ t, At T m c below → p.tables.exec = Jvm.exec → c.code = bytes → Steps p.tables e below (T.setTop f') t → Steps p.tables e below (T.setTop f) t) (G : Go p e below Φ T f') : Go p e below Φ T f := by
  obtain ⟨⟨hx, hb, -⟩, vm0, k0, locs, X, -⟩ := W
  exact G.back fun t => hs t X.here hx hb
/-- a step that reads the heap -/
theorem g2 {f f' : JFrame} (W : Wk p l e R s m args below meth c Z a0 EL n0 kn wd own bytes ml ws T h k n) (hs : ∀ (vm0 : Vm) (locs : List Loc), Stand p l e R (s.setVm vm0) m args below meth c T locs k n → p.tables.exec = Jvm.exec → c.code = bytes → Z.Warmed39 vm0 → T.heap = h → vm0.findClass own = some m.cls → ∀ t, Steps p.tables e below (T.setTop f') t → Steps p.tables e below (T.setTop f) t) (G : Go p e below Φ T f') : Go p e below Φ T f := by
  obtain ⟨⟨hx, hb, -, hO, -⟩, vm0, k0, locs, X, eT, -, -, hZ, -⟩ := W
  exact G.back (hs vm0 locs X hx hb hZ eT ((hZ.alike.findClass own _).trans hO))
/-- a step after which the state is another, the heap the same -/
theorem g3 {f f' : JFrame} (W : Wk p l e R s m args below meth c Z a0 EL n0 kn wd own bytes ml ws T h k n) (hs : ∀ (vm0 : Vm) (locs : List Loc), Stand p l e R (s.setVm vm0) m args below meth c T locs k n → p.tables.exec = Jvm.exec → c.code = bytes → c.maxLocals = ml → Z.Warmed39 vm0 → T.heap = h → vm0.findClass own = some m.cls → ∃ T', Stand p l e R (s.setVm vm0) m args below meth c T' locs k n ∧ T'.heap = h ∧ ∀ t, Steps p.tables e below (T'.setTop f') t → Steps p.tables e below (T.setTop f) t)
    (G : ∀ T', Wk p l e R s m args below meth c Z a0 EL n0 kn wd own bytes ml ws T' h k n → Go p e below Φ T' f') : Go p e below Φ T f := by
  obtain ⟨⟨hx, hb, hml, hO, hrest⟩, vm0, k0, locs, X, eT, hS, hk, hZ, hr⟩ := W
  obtain ⟨T', X', e', q⟩ := hs vm0 locs X hx hb hml hZ eT ((hZ.alike.findClass own _).trans hO)
  exact (G T' ⟨⟨hx, hb, hml, hO, hrest⟩, vm0, k0, locs, X', e', hS, hk, hZ, hr⟩).back q
/-- the object may be written: it is no booked constant's -/
def Sf (Z : State) (EL : List (String × Nat)) (ws : List Addr) (h : Heap) (a : Addr) : Prop := a ∈ ws ∨ EL = [] ∨ (∃ C, Exa Z h a C ∧ C ≠ "java/lang/String" ∧ C ≠ "[B") ∨ (∃ cl ty, Arr Z h a cl ty ∧ ty ≠ .byte)
theorem Sf.safe {a : Addr} {vm0 : Vm} (hZ : Z.Warmed39 vm0) (hs : ∀ x ∈ ws, x < h.size ∧ Safe Z EL vm0 h x) (q : Sf Z EL ws h a) : Safe Z EL vm0 h a := by
  rcases q with q | rfl | ⟨C, E, h1, h2⟩ | ⟨cl, ty, A, ht⟩
  · exact (hs a q).2
  · intro B
    obtain ⟨p, hp, -⟩ := B
    cases hp
  · exact Safe.exa hZ.alike E h1 h2
  · exact Safe.arr hZ.alike A ht
/-- a step that writes one place -/
theorem g4 {f f' : JFrame} {a : Addr} {sl : Nat} {v : Value} (W : Wk p l e R s m args below meth c Z a0 EL n0 kn wd own bytes ml ws T h k n) (hn : n0 ≤ a) (hsf : Sf Z EL ws h a)
    (hs : ∀ (vm0 : Vm) (locs : List Loc), Stand p l e R (s.setVm vm0) m args below meth c T locs k n → p.tables.exec = Jvm.exec → c.code = bytes → Z.Warmed39 vm0 → T.heap = h → vm0.findClass own = some m.cls → ∃ T' h', Stand p l e R (s.setVm vm0) m args below meth c T' (locs ++ [⟨a, sl⟩]) k n ∧ T'.heap = h' ∧ Wr h h' a sl v ∧ ∀ t, Steps p.tables e below (T'.setTop f') t → Steps p.tables e below (T.setTop f) t)
    (G : ∀ T' h', Wk p l e R s m args below meth c Z a0 EL n0 kn wd own bytes ml ws T' h' k n → Wr h h' a sl v → Go p e below Φ T' f') : Go p e below Φ T f := by
  obtain ⟨⟨hx, hb, hml, hO, hrest⟩, vm0, k0, locs, X, eT, hS, hk, hZ, hC, hws, hF, hwd, hOl⟩ := W
  obtain ⟨T', h', X', e', Wr', q⟩ := hs vm0 locs X hx hb hZ eT ((hZ.alike.findClass own _).trans hO)
  have sa := hsf.safe hZ hws
  exact (G T' h' ⟨⟨hx, hb, hml, hO, hrest⟩, vm0, k0, _, X', e', hS, by rw [Wr'.size]; exact hk, hZ, hC.trans (CHr.wr Wr' sa hC.1), fun x hx' => ⟨by rw [Wr'.size]; exact (hws x hx').1, Safe.wr Wr' sa hC.1 (hws x hx').2⟩, Fr.snoc X' hF hn, hwd, hOl.wr Wr' hn⟩ Wr').back q
/-- a step that makes one cell -/
theorem g5 {f : JFrame} {f' : Addr → JFrame} {nc : Nat} {P : Heap → Addr → Prop} (W : Wk p l e R s m args below meth c Z a0 EL n0 kn wd own bytes ml ws T h k n) (hlt : ∀ h', P h' h.size → h.size < h'.size)
    (hs : ∀ (vm0 : Vm) (locs : List Loc), Stand p l e R (s.setVm vm0) m args below meth c T locs k n → p.tables.exec = Jvm.exec → c.code = bytes → Z.Warmed39 vm0 → T.heap = h → vm0.findClass own = some m.cls → ∃ T' h', Stand p l e R (s.setVm vm0) m args below meth c T' locs (k + 1) (n + nc) ∧ T'.heap = h' ∧ Ext h h' ∧ P h' h.size ∧ ∀ t, Steps p.tables e below (T'.setTop (f' h.size)) t → Steps p.tables e below (T.setTop f) t)
    (G : ∀ T' h' a, a = h.size → Wk p l e R s m args below meth c Z a0 EL n0 kn wd own bytes ml (a :: ws) T' h' (k + 1) (n + nc) → Ext h h' → P h' a → Go p e below Φ T' (f' a)) : Go p e below Φ T f := by
  obtain ⟨⟨hx, hb, hml, hO, hrest⟩, vm0, k0, locs, X, eT, hS, hk, hZ, hC, hws, hF, hwd, hOl⟩ := W
  obtain ⟨T', h', X', e', E, P', q⟩ := hs vm0 locs X hx hb hZ eT ((hZ.alike.findClass own _).trans hO)
  refine (G T' h' h.size rfl ⟨⟨hx, hb, hml, hO, hrest⟩, vm0, k0, _, X', e', hS, Nat.le_trans hk E.1, hZ, hC.trans (CHr.ext E hC.1), fun x hx' => ?_, hF, hwd, hOl.ext E⟩ E P').back q
  rcases List.mem_cons.mp hx' with rfl | hx'
  · exact ⟨hlt h' P', Safe.ext E hC.1 (Safe.new (Nat.le_refl _))⟩
  · exact ⟨Nat.lt_of_lt_of_le (hws x hx').1 E.1, Safe.ext E hC.1 (hws x hx').2⟩
theorem Wk.size0 (W : Wk p l e R s m args below meth c Z a0 EL n0 kn wd own bytes ml ws T h k n) : s.heap.size ≤ h.size := by
  obtain ⟨-, vm0, k0, locs, X, eT, hS, hk, hZ, hC, -⟩ := W
  exact hC.2.1
theorem Wk.old (W : Wk p l e R s m args below meth c Z a0 EL n0 kn wd own bytes ml ws T h k n) : Old Z n0 h := by
  obtain ⟨-, vm0, k0, locs, X, eT, hS, hk, hZ, hC, hws, hF, hwd, hOl⟩ := W
  exact hOl
theorem Wk.lt {a : Addr} (W : Wk p l e R s m args below meth c Z a0 EL n0 kn wd own bytes ml ws T h k n) (q : a ∈ ws) : a < h.size := by
  obtain ⟨-, vm0, k0, locs, X, eT, hS, hk, hZ, hC, hws, -⟩ := W
  exact (hws a q).1
theorem Wk.n0le (W : Wk p l e R s m args below meth c Z a0 EL n0 kn wd own bytes ml ws T h k n) : n0 ≤ h.size := W.old.1 ▸ W.old.2.1
theorem Wk.less {ws' : List Addr} (W : Wk p l e R s m args below meth c Z a0 EL n0 kn wd own bytes ml ws T h k n) (hq : ∀ x ∈ ws', x ∈ ws) : Wk p l e R s m args below meth c Z a0 EL n0 kn wd own bytes ml ws' T h k n := by
  obtain ⟨h1, vm0, k0, locs, X, eT, hS, hk, hZ, hC, hws, hF, hwd⟩ := W
  exact ⟨h1, vm0, k0, locs, X, eT, hS, hk, hZ, hC, fun x hx => hws x (hq x hx), hF, hwd⟩
theorem Wk.up {k' n' : Nat} (W : Wk p l e R s m args below meth c Z a0 EL n0 kn wd own bytes ml ws T h k n) (hk' : k ≤ k') (hn' : n ≤ n') : Wk p l e R s m args below meth c Z a0 EL n0 kn wd own bytes ml ws T h k' n' := by
  obtain ⟨h1, vm0, k0, locs, X, r⟩ := W
  exact ⟨h1, vm0, k0, locs, X.more hk' hn', r⟩
/-- getfield -/
theorem gGetF {R0 O nm d host : String} {index : Nat} {a : Addr} {v : Value} (W : Wk p l e R s m args below meth c Z a0 EL n0 kn wd own bytes ml ws T h k n) (w : (Jvm.Cond.fieldLink own index R0 nm d).before a0 Z = true ∨ (Jvm.Cond.fieldLinkNest own index R0 nm d host).before a0 Z = true) (via : Via Z R0 O nm d) (F : Fld Z h a O nm d v)
    (hd : decode bytes pc = .ok (.getfield index, 3)) (hp : pc + 3 = pc') (G : ∀ T', Wk p l e R s m args below meth c Z a0 EL n0 kn wd own bytes ml ws T' h k n → Go p e below Φ T' (mkF m pc' Ls (v :: rest))) : Go p e below Φ T (mkF m pc Ls (.ref a :: rest)) := by
  subst hp
  exact g3 W (fun vm0 locs X hx hb' _ hZ eT hO => getF X hx hZ hO w via eT F (g := mkF m pc Ls (.ref a :: rest)) rfl rfl (hb hb' hd)) G
/-- getstatic -/
theorem gGetS {R0 O nm d host : String} {index : Nat} {v : Value} (W : Wk p l e R s m args below meth c Z a0 EL n0 kn wd own bytes ml ws T h k n) (w : (Jvm.Cond.fieldLink own index R0 nm d).before a0 Z = true ∨ (Jvm.Cond.fieldLinkNest own index R0 nm d host).before a0 Z = true) (via : Via Z R0 O nm d) (F : Sta Z h O nm d v)
    (hd : decode bytes pc = .ok (.getstatic index, 3)) (hp : pc + 3 = pc') (G : ∀ T', Wk p l e R s m args below meth c Z a0 EL n0 kn wd own bytes ml ws T' h k n → Go p e below Φ T' (mkF m pc' Ls (v :: st))) : Go p e below Φ T (mkF m pc Ls st) := by
  subst hp
  exact g3 W (fun vm0 locs X hx hb' _ hZ eT hO => getS2 X hx hZ hO w via eT F (g := mkF m pc Ls st) rfl (hb hb' hd)) G
/-- checkcast of an object -/
theorem gCast {K : String} {index : Nat} {a : Addr} (W : Wk p l e R s m args below meth c Z a0 EL n0 kn wd own bytes ml ws T h k n) (w : (Jvm.Cond.classLink own index K).before a0 Z = true) (F : Ins Z h a K true)
    (hd : decode bytes pc = .ok (.checkcast index, 3)) (hp : pc + 3 = pc') (G : ∀ T', Wk p l e R s m args below meth c Z a0 EL n0 kn wd own bytes ml ws T' h k n → Go p e below Φ T' (mkF m pc' Ls (.ref a :: rest))) : Go p e below Φ T (mkF m pc Ls (.ref a :: rest)) := by
  subst hp
  exact g3 W (fun vm0 locs X hx hb' _ hZ eT hO => castY X hx hZ hO w eT F (g := mkF m pc Ls (.ref a :: rest)) rfl rfl (hb hb' hd)) G
/-- instanceof, yes -/
theorem gInsY {K : String} {index : Nat} {a : Addr} (W : Wk p l e R s m args below meth c Z a0 EL n0 kn wd own bytes ml ws T h k n) (w : (Jvm.Cond.classLink own index K).before a0 Z = true) (F : Ins Z h a K true)
    (hd : decode bytes pc = .ok (.instanceof index, 3)) (hp : pc + 3 = pc') (G : ∀ T', Wk p l e R s m args below meth c Z a0 EL n0 kn wd own bytes ml ws T' h k n → Go p e below Φ T' (mkF m pc' Ls (.int 1 :: rest))) : Go p e below Φ T (mkF m pc Ls (.ref a :: rest)) := by
  subst hp
  exact g3 W (fun vm0 locs X hx hb' _ hZ eT hO => instY X hx hZ hO w eT F (g := mkF m pc Ls (.ref a :: rest)) rfl rfl (hb hb' hd)) G
/-- putfield -/
theorem gPutF {R0 O nm d host C : String} {index kk : Nat} {ty : FieldType} {a : Addr} {v old : Value} (W : Wk p l e R s m args below meth c Z a0 EL n0 kn wd own bytes ml ws T h k n) (hn : n0 ≤ a) (hsf : Sf Z EL ws h a) (w : (Jvm.Cond.fieldLink own index R0 nm d).before a0 Z = true ∨ (Jvm.Cond.fieldLinkNest own index R0 nm d host).before a0 Z = true) (via : Via Z R0 O nm d) (F : Fld Z h a O nm d old) (E : Exa Z h a C)
    (L : (Jvm.Cond.lays C O nm d).before a0 Z = true ∨ ((Jvm.Cond.laysFinal C O nm d).before a0 Z = true ∧ own = O ∧ meth.name = "<init>")) (wi : (Jvm.Cond.instantiable C kk).before a0 Z = true) (hty : parseFieldDescriptor d = some ty) (hnr : narrow ty v = v) (hf : fits ty v = true)
    (hd : decode bytes pc = .ok (.putfield index, 3)) (hp : pc + 3 = pc') (G : ∀ T' h', Wk p l e R s m args below meth c Z a0 EL n0 kn wd own bytes ml ws T' h' k n → Wr h h' a (Jvm.RoadKit.slotOf Z O nm d) v → Go p e below Φ T' (mkF m pc' Ls rest)) : Go p e below Φ T (mkF m pc Ls (v :: .ref a :: rest)) := by
  subst hp
  exact g4 W hn hsf (fun vm0 locs X hx hb' hZ eT hO => putF X hx hZ hO w via eT F E L wi hty hnr hf (g := mkF m pc Ls (v :: .ref a :: rest)) rfl rfl (hb hb' hd)) G
theorem gPutFN {R0 O nm d C : String} {index kk : Nat} {ty : FieldType} {a : Addr} {v v' old : Value} (W : Wk p l e R s m args below meth c Z a0 EL n0 kn wd own bytes ml ws T h k n) (hn : n0 ≤ a) (hsf : Sf Z EL ws h a) (w : (Jvm.Cond.fieldLink own index R0 nm d).before a0 Z = true) (via : Via Z R0 O nm d) (F : Fld Z h a O nm d old) (E : Exa Z h a C)
    (L : (Jvm.Cond.lays C O nm d).before a0 Z = true ∨ ((Jvm.Cond.laysFinal C O nm d).before a0 Z = true ∧ own = O ∧ meth.name = "<init>")) (wi : (Jvm.Cond.instantiable C kk).before a0 Z = true) (hty : parseFieldDescriptor d = some ty) (hnr : narrow ty v = v') (hf : fits ty v' = true)
    (hd : decode bytes pc = .ok (.putfield index, 3)) (hp : pc + 3 = pc') (G : ∀ T' h', Wk p l e R s m args below meth c Z a0 EL n0 kn wd own bytes ml ws T' h' k n → Wr h h' a (Jvm.RoadKit.slotOf Z O nm d) v' → Go p e below Φ T' (mkF m pc' Ls rest)) : Go p e below Φ T (mkF m pc Ls (v :: .ref a :: rest)) := by
  subst hp
  exact g4 W hn hsf (fun vm0 locs X hx hb' hZ eT hO => putFN X hx hZ hO w via eT F E L wi hty hnr hf (g := mkF m pc Ls (v :: .ref a :: rest)) rfl rfl (hb hb' hd)) G
/-- new -/
theorem gNew {C : String} {index nc : Nat} (W : Wk p l e R s m args below meth c Z a0 EL n0 kn wd own bytes ml ws T h k n) (w : (Jvm.Cond.classLink own index C).before a0 Z = true) (wi : (Jvm.Cond.instantiable C nc).before a0 Z = true) (wz : (Jvm.Cond.initialized C).before a0 Z = true)
    (hd : decode bytes pc = .ok (.new index, 3)) (hp : pc + 3 = pc') (hc : k + 1 ≤ R.cells) (hl : n + nc ≤ R.slots)
    (G : ∀ T' h' a, a = h.size → Wk p l e R s m args below meth c Z a0 EL n0 kn wd own bytes ml (a :: ws) T' h' (k + 1) (n + nc) → Ext h h' → (Exa Z h' a C ∧ (∀ {O nm d : String} {ty : FieldType}, Laid Z a0 C O nm d → parseFieldDescriptor d = some ty → Fld Z h' a O nm d (defaultValue ty)) ∧ Unt h' a) → Go p e below Φ T' (mkF m pc' Ls (.ref a :: st))) : Go p e below Φ T (mkF m pc Ls st) := by
  subst hp
  refine g5 W (f' := fun a => mkF m (pc + 3) Ls (.ref a :: st)) (P := fun h' a => Exa Z h' a C ∧ (∀ {O nm d : String} {ty : FieldType}, Laid Z a0 C O nm d → parseFieldDescriptor d = some ty → Fld Z h' a O nm d (defaultValue ty)) ∧ Unt h' a) (fun h' q => q.1.lt) (fun vm0 locs X hx hb' hZ eT hO => ?_) G
  obtain ⟨T', h', X', e', E, A, D, U, q⟩ := newO X hx hZ hO w wi wz eT (g := mkF m pc Ls st) rfl (hb hb' hd) hc hl
  exact ⟨T', h', X', e', E, ⟨A, D, U⟩, q⟩
/-- newarray -/
theorem gNewP {aty : ArrayType} {z : Int32} {cap : Nat} {ad : String} (W : Wk p l e R s m args below meth c Z a0 EL n0 kn wd own bytes ml ws T h k n) (w : (Jvm.Cond.arrayClass (newarray.typeOf aty)).before a0 Z = true) (had : "[" ++ (newarray.typeOf aty).toString = ad)
    (hd : decode bytes pc = .ok (.newarray aty, 2)) (hp : pc + 2 = pc') (hz : ¬ z < 0) (hcap : z.toNatClampNeg ≤ cap) (hb8 : cap * 8 ≤ 536870912) (hc : k + 1 ≤ R.cells) (hl : n + cap ≤ R.slots)
    (G : ∀ T' h' a, a = h.size → Wk p l e R s m args below meth c Z a0 EL n0 kn wd own bytes ml (a :: ws) T' h' (k + 1) (n + cap) → Ext h h' → (∃ kA, Arv Z h' a kA (newarray.typeOf aty) z [] (defaultValue (newarray.typeOf aty)) ∧ Exa Z h' a ad) → Go p e below Φ T' (mkF m pc' Ls (.ref a :: rest))) : Go p e below Φ T (mkF m pc Ls (.int z :: rest)) := by
  subst hp
  refine g5 W (f' := fun a => mkF m (pc + 2) Ls (.ref a :: rest)) (P := fun h' a => ∃ kA, Arv Z h' a kA (newarray.typeOf aty) z [] (defaultValue (newarray.typeOf aty)) ∧ Exa Z h' a ad) (fun h' q => by obtain ⟨_, q, -⟩ := q; exact q.lt) (fun vm0 locs X hx hb' hZ eT hO => ?_) G
  obtain ⟨T', h', cA, X', e', E, A, D, q⟩ := newPE X hx hZ w eT (g := mkF m pc Ls (.int z :: rest)) rfl (hb hb' hd) rfl hz hcap hb8 hc hl had
  exact ⟨T', h', X', e', E, ⟨cA, Arv.new A hz, D⟩, q⟩
/-- anewarray -/
theorem gNewR {C : String} {index : Nat} {z : Int32} {cap : Nat} {ad : String} (W : Wk p l e R s m args below meth c Z a0 EL n0 kn wd own bytes ml ws T h k n) (w1 : (Jvm.Cond.classLink own index C).before a0 Z = true) (w2 : (Jvm.Cond.arrayOver (.object C)).before a0 Z = true) (had : "[" ++ (FieldType.object C).toString = ad)
    (hd : decode bytes pc = .ok (.anewarray index, 3)) (hp : pc + 3 = pc') (hz : ¬ z < 0) (hcap : z.toNatClampNeg ≤ cap) (hb8 : cap * 8 ≤ 536870912) (hc : k + 1 ≤ R.cells) (hl : n + cap ≤ R.slots)
    (G : ∀ T' h' a, a = h.size → Wk p l e R s m args below meth c Z a0 EL n0 kn wd own bytes ml (a :: ws) T' h' (k + 1) (n + cap) → Ext h h' → (∃ kA, Arv Z h' a kA (.object C) z [] .null ∧ Exa Z h' a ad ∧ Ovr Z kA C) → Go p e below Φ T' (mkF m pc' Ls (.ref a :: rest))) : Go p e below Φ T (mkF m pc Ls (.int z :: rest)) := by
  subst hp
  refine g5 W (f' := fun a => mkF m (pc + 3) Ls (.ref a :: rest)) (P := fun h' a => ∃ kA, Arv Z h' a kA (.object C) z [] .null ∧ Exa Z h' a ad ∧ Ovr Z kA C) (fun h' q => by obtain ⟨_, q, -⟩ := q; exact q.lt) (fun vm0 locs X hx hb' hZ eT hO => ?_) G
  obtain ⟨T', h', cA, X', e', E, A, D, O, q⟩ := newRE X hx hZ hO w1 w2 eT (g := mkF m pc Ls (.int z :: rest)) rfl (hb hb' hd) rfl hz hcap hb8 hc hl had
  exact ⟨T', h', X', e', E, ⟨cA, Arv.new A hz, D, O⟩, q⟩
/-- Object.<init> -/
theorem gInitO {index : Nat} {a : Addr} {wt : Nat} (W : Wk p l e R s m args below meth c Z a0 EL n0 kn wd own bytes ml ws T h k n) (w1 : (Jvm.Cond.methodLink own index Lib.objectInit).before a0 Z = true) (w2 : (Jvm.Cond.instanceMethod Lib.objectInit).before a0 Z = true) (w3 : (Jvm.Cond.code Lib.objectInit ⟨#[0xb1]⟩ 1 none).before a0 Z = true)
    (hd : decode bytes pc = .ok (.invokespecial index, 3)) (hp : pc + 3 = pc') (hsz : Ls.size = ml) (hf : 1 ≤ R.frames) (hW : (rest.map fun v => v.category).sum ≤ wt) (hl : wt + 12 ≤ R.locals)
    (G : ∀ T', Wk p l e R s m args below meth c Z a0 EL n0 kn wd own bytes ml ws T' h k n → Go p e below Φ T' (mkF m pc' Ls rest)) : Go p e below Φ T (mkF m pc Ls (.ref a :: rest)) := by
  subst hp
  exact g3 W (fun vm0 locs X hx hb' hml hZ eT hO => initO X hx hZ hO w1 w2 w3 eT (g := mkF m pc Ls (.ref a :: rest)) rfl (hsz.trans hml.symm) rfl (hb hb' hd) hf (W := wt) (by simpa using hW) hl) G
/-- a store into an array -/
theorem gStC {a : Addr} {kA : ClassId} {z j x : Int32} {vs : List Value} {dv : Value} (W : Wk p l e R s m args below meth c Z a0 EL n0 kn wd own bytes ml ws T h k n) (hn : n0 ≤ a) (A : Arv Z h a kA .char z vs dv) (hj : ¬ j < 0 ∧ j < z) {i : Nat} (hi : j.toNatClampNeg = i) (hv : i < vs.length)
    (hd : decode bytes pc = .ok (.castore, 1)) (hp : pc + 1 = pc') (G : ∀ T' h', Wk p l e R s m args below meth c Z a0 EL n0 kn wd own bytes ml ws T' h' k n → Keep h h' [a] → Arv Z h' a kA .char z (vs.set i (.int (nar .char x))) dv → Go p e below Φ T' (mkF m pc' Ls rest)) : Go p e below Φ T (mkF m pc Ls (.int x :: .int j :: .ref a :: rest)) := by
  subst hp
  obtain ⟨cl, Ar, q1, S, q3, H, Gf⟩ := A
  exact g4 W hn (Or.inr (Or.inr (Or.inr ⟨cl, .char, Ar, by decide⟩))) (fun vm0 locs X hx hb' hZ eT hO => stC X hx hZ eT Ar (j := j) (x := x) (inb_of S hj) (g := mkF m pc Ls (.int x :: .int j :: .ref a :: rest)) rfl rfl (hb hb' hd))
    (fun T' h' W' w => G T' h' W' (Keep.of_wr w) (Arv.set Ar q1 S q3 H Gf (fits_nar_char x) w i hi hv))
theorem gStB {a : Addr} {kA : ClassId} {z j x : Int32} {vs : List Value} {dv : Value} (W : Wk p l e R s m args below meth c Z a0 EL n0 kn wd own bytes ml ws T h k n) (hn : n0 ≤ a) (hsf : a ∈ ws) (A : Arv Z h a kA .byte z vs dv) (hj : ¬ j < 0 ∧ j < z) {i : Nat} (hi : j.toNatClampNeg = i) (hv : i < vs.length)
    (hd : decode bytes pc = .ok (.bastore, 1)) (hp : pc + 1 = pc') (G : ∀ T' h', Wk p l e R s m args below meth c Z a0 EL n0 kn wd own bytes ml ws T' h' k n → Keep h h' [a] → Arv Z h' a kA .byte z (vs.set i (.int x.toInt8.toInt32)) dv → Go p e below Φ T' (mkF m pc' Ls rest)) : Go p e below Φ T (mkF m pc Ls (.int x :: .int j :: .ref a :: rest)) := by
  subst hp
  obtain ⟨cl, Ar, q1, S, q3, H, Gf⟩ := A
  exact g4 W hn (Or.inl hsf) (fun vm0 locs X hx hb' hZ eT hO => stB X hx hZ eT Ar (j := j) (x := x) (inb_of S hj) (g := mkF m pc Ls (.int x :: .int j :: .ref a :: rest)) rfl rfl (hb hb' hd))
    (fun T' h' W' w => G T' h' W' (Keep.of_wr w) (Arv.set Ar q1 S q3 H Gf (fits_nar_byte x) w i hi hv))
theorem gStI {a : Addr} {kA : ClassId} {z j x : Int32} {vs : List Value} {dv : Value} (W : Wk p l e R s m args below meth c Z a0 EL n0 kn wd own bytes ml ws T h k n) (hn : n0 ≤ a) (A : Arv Z h a kA .int z vs dv) (hj : ¬ j < 0 ∧ j < z) {i : Nat} (hi : j.toNatClampNeg = i) (hv : i < vs.length)
    (hd : decode bytes pc = .ok (.iastore, 1)) (hp : pc + 1 = pc') (G : ∀ T' h', Wk p l e R s m args below meth c Z a0 EL n0 kn wd own bytes ml ws T' h' k n → Keep h h' [a] → Arv Z h' a kA .int z (vs.set i (.int x)) dv → Go p e below Φ T' (mkF m pc' Ls rest)) : Go p e below Φ T (mkF m pc Ls (.int x :: .int j :: .ref a :: rest)) := by
  subst hp
  obtain ⟨cl, Ar, q1, S, q3, H, Gf⟩ := A
  exact g4 W hn (Or.inr (Or.inr (Or.inr ⟨cl, .int, Ar, by decide⟩))) (fun vm0 locs X hx hb' hZ eT hO => stI X hx hZ eT Ar (j := j) (x := x) (inb_of S hj) (g := mkF m pc Ls (.int x :: .int j :: .ref a :: rest)) rfl rfl (hb hb' hd))
    (fun T' h' W' w => G T' h' W' (Keep.of_wr w) (Arv.set Ar q1 S q3 H Gf rfl w i hi hv))
theorem gStJ {a : Addr} {kA : ClassId} {z j : Int32} {x : Int64} {vs : List Value} {dv : Value} (W : Wk p l e R s m args below meth c Z a0 EL n0 kn wd own bytes ml ws T h k n) (hn : n0 ≤ a) (A : Arv Z h a kA .long z vs dv) (hj : ¬ j < 0 ∧ j < z) {i : Nat} (hi : j.toNatClampNeg = i) (hv : i < vs.length)
    (hd : decode bytes pc = .ok (.lastore, 1)) (hp : pc + 1 = pc') (G : ∀ T' h', Wk p l e R s m args below meth c Z a0 EL n0 kn wd own bytes ml ws T' h' k n → Keep h h' [a] → Arv Z h' a kA .long z (vs.set i (.long x)) dv → Go p e below Φ T' (mkF m pc' Ls rest)) : Go p e below Φ T (mkF m pc Ls (.long x :: .int j :: .ref a :: rest)) := by
  subst hp
  obtain ⟨cl, Ar, q1, S, q3, H, Gf⟩ := A
  exact g4 W hn (Or.inr (Or.inr (Or.inr ⟨cl, .long, Ar, by decide⟩))) (fun vm0 locs X hx hb' hZ eT hO => stJ X hx hZ eT Ar (j := j) (x := x) (inb_of S hj) (g := mkF m pc Ls (.long x :: .int j :: .ref a :: rest)) rfl rfl (hb hb' hd))
    (fun T' h' W' w => G T' h' W' (Keep.of_wr w) (Arv.set Ar q1 S q3 H Gf rfl w i hi hv))
/-- what an array holds at a place -/
theorem Arv.look {a : Addr} {kA : ClassId} {ty : FieldType} {z j : Int32} {vs : List Value} {dv v : Value} (A : Arv Z h a kA ty z vs dv) (hj : ¬ j < 0 ∧ j < z) (hv : vs.getD j.toNatClampNeg dv = v) : ∃ cl : Cell, Arr Z h a cl ty ∧ ¬ (j < 0 ∨ cl.slots.size ≤ j.toNatClampNeg) ∧ cl.slots[j.toNatClampNeg]? = some v := by
  obtain ⟨cl, Ar, q1, S, q3, H, Gf⟩ := A
  exact ⟨cl, Ar, inb_of S hj, H.at (inb_of S hj) hv⟩
theorem gLdC {a : Addr} {kA : ClassId} {z j : Int32} {vs : List Value} {dv v : Value} (W : Wk p l e R s m args below meth c Z a0 EL n0 kn wd own bytes ml ws T h k n) (A : Arv Z h a kA .char z vs dv) (hj : ¬ j < 0 ∧ j < z) (hv : vs.getD j.toNatClampNeg dv = v)
    (hd : decode bytes pc = .ok (.caload, 1)) (hp : pc + 1 = pc') (G : Go p e below Φ T (mkF m pc' Ls (v :: rest))) : Go p e below Φ T (mkF m pc Ls (.int j :: .ref a :: rest)) := by
  subst hp
  obtain ⟨cl, Ar, i1, i2⟩ := Arv.look A hj hv
  exact g2 W (fun vm0 locs X hx hb' hZ eT hO t q => X.caload hx (by rw [eT]; exact Ar.1) (State.isArrayOf_alike hZ.alike Ar.2.1) Ar.2.2 i1 i2 (g := mkF m pc Ls (.int j :: .ref a :: rest)) rfl rfl (hb hb' hd) t q) G
theorem gLdB {a : Addr} {kA : ClassId} {z j : Int32} {vs : List Value} {dv v : Value} (W : Wk p l e R s m args below meth c Z a0 EL n0 kn wd own bytes ml ws T h k n) (A : Arv Z h a kA .byte z vs dv) (hj : ¬ j < 0 ∧ j < z) (hv : vs.getD j.toNatClampNeg dv = v)
    (hd : decode bytes pc = .ok (.baload, 1)) (hp : pc + 1 = pc') (G : Go p e below Φ T (mkF m pc' Ls (v :: rest))) : Go p e below Φ T (mkF m pc Ls (.int j :: .ref a :: rest)) := by
  subst hp
  obtain ⟨cl, Ar, i1, i2⟩ := Arv.look A hj hv
  exact g2 W (fun vm0 locs X hx hb' hZ eT hO t q => X.baloadBytes hx (by rw [eT]; exact Ar.1) (State.isArrayOf_alike hZ.alike Ar.2.1) Ar.2.2 i1 i2 (g := mkF m pc Ls (.int j :: .ref a :: rest)) rfl rfl (hb hb' hd) t q) G
theorem gLdI {a : Addr} {kA : ClassId} {z j : Int32} {vs : List Value} {dv v : Value} (W : Wk p l e R s m args below meth c Z a0 EL n0 kn wd own bytes ml ws T h k n) (A : Arv Z h a kA .int z vs dv) (hj : ¬ j < 0 ∧ j < z) (hv : vs.getD j.toNatClampNeg dv = v)
    (hd : decode bytes pc = .ok (.iaload, 1)) (hp : pc + 1 = pc') (G : Go p e below Φ T (mkF m pc' Ls (v :: rest))) : Go p e below Φ T (mkF m pc Ls (.int j :: .ref a :: rest)) := by
  subst hp
  obtain ⟨cl, Ar, i1, i2⟩ := Arv.look A hj hv
  exact g2 W (fun vm0 locs X hx hb' hZ eT hO t q => X.iaload hx (by rw [eT]; exact Ar.1) (State.isArrayOf_alike hZ.alike Ar.2.1) Ar.2.2 i1 i2 (g := mkF m pc Ls (.int j :: .ref a :: rest)) rfl rfl (hb hb' hd) t q) G
theorem gLdJ {a : Addr} {kA : ClassId} {z j : Int32} {vs : List Value} {dv v : Value} (W : Wk p l e R s m args below meth c Z a0 EL n0 kn wd own bytes ml ws T h k n) (A : Arv Z h a kA .long z vs dv) (hj : ¬ j < 0 ∧ j < z) (hv : vs.getD j.toNatClampNeg dv = v)
    (hd : decode bytes pc = .ok (.laload, 1)) (hp : pc + 1 = pc') (G : Go p e below Φ T (mkF m pc' Ls (v :: rest))) : Go p e below Φ T (mkF m pc Ls (.int j :: .ref a :: rest)) := by
  subst hp
  obtain ⟨cl, Ar, i1, i2⟩ := Arv.look A hj hv
  exact g2 W (fun vm0 locs X hx hb' hZ eT hO t q => X.laload hx (by rw [eT]; exact Ar.1) (State.isArrayOf_alike hZ.alike Ar.2.1) Ar.2.2 i1 i2 (g := mkF m pc Ls (.int j :: .ref a :: rest)) rfl rfl (hb hb' hd) t q) G
theorem gLdA {a : Addr} {kA : ClassId} {ty : FieldType} {z j : Int32} {vs : List Value} {dv v : Value} (W : Wk p l e R s m args below meth c Z a0 EL n0 kn wd own bytes ml ws T h k n) (A : Arv Z h a kA ty z vs dv) (hty : ty.isReference = true) (hj : ¬ j < 0 ∧ j < z) (hv : vs.getD j.toNatClampNeg dv = v)
    (hd : decode bytes pc = .ok (.aaload, 1)) (hp : pc + 1 = pc') (G : Go p e below Φ T (mkF m pc' Ls (v :: rest))) : Go p e below Φ T (mkF m pc Ls (.int j :: .ref a :: rest)) := by
  subst hp
  obtain ⟨cl, Ar, i1, i2⟩ := Arv.look A hj hv
  exact g2 W (fun vm0 locs X hx hb' hZ eT hO t q => X.aaload hx (by rw [eT]; exact Ar.1) (State.isArrayOf_alike hZ.alike Ar.2.1) hty Ar.2.2 i1 i2 (g := mkF m pc Ls (.int j :: .ref a :: rest)) rfl rfl (hb hb' hd) t q) G
theorem gLen {a : Addr} {kA : ClassId} {ty : FieldType} {z : Int32} {vs : List Value} {dv : Value} (W : Wk p l e R s m args below meth c Z a0 EL n0 kn wd own bytes ml ws T h k n) (A : Arv Z h a kA ty z vs dv)
    (hd : decode bytes pc = .ok (.arraylength, 1)) (hp : pc + 1 = pc') (G : Go p e below Φ T (mkF m pc' Ls (.int z :: rest))) : Go p e below Φ T (mkF m pc Ls (.ref a :: rest)) := by
  subst hp
  obtain ⟨cl, Ar, q1, S, q3, H, Gf⟩ := A
  refine g2 W (fun vm0 locs X hx hb' hZ eT hO t q => X.arraylength hx (by rw [eT]; exact Ar.1) (State.isArrayOf_alike hZ.alike Ar.2.1) (g := mkF m pc Ls (.ref a :: rest)) rfl rfl (hb hb' hd) t ?_) G
  rw [len_of S q3]
  exact q
/-- ldc of a String constant that may be read -/
theorem gLdcS {index : Nat} {text : String} {vs : List Value} {z : Int32} {nn : Nat} (W : Wk p l e R s m args below meth c Z a0 EL n0 kn true own bytes ml ws T h k n) (w : (Jvm.Cond.stringLink own index text).before a0 Z = true) (wS : ∀ a ∈ Bundle.stringAtoms, a.before a0 Z = true) (hmem : (own, index) ∈ EL)
    (ht : (∀ c ∈ text.toList, c.toNat < 256) ∧ text.toList.map (fun c => Value.int (Jvm.Lit.byteI c.toNat.toUInt16)) = vs) (hz : ¬ z < 0) (hlz : z.toNatClampNeg = vs.length) (hd : decode bytes pc = .ok (.ldc index, 2)) (hp : pc + 2 = pc') (hn : 4 * text.toList.length ≤ nn) (hbig : nn ≤ 536870912) (hc : k + 2 ≤ R.cells) (hl : n + (nn + 4) ≤ R.slots)
    (G : ∀ T' h' a b kB, Wk p l e R s m args below meth c Z a0 EL n0 kn true own bytes ml ws T' h' (k + 2) (n + (nn + 4)) → Ext h h' → Exa Z h' a "java/lang/String" → Fld Z h' a "java/lang/String" "coder" "B" (.int 0) → Fld Z h' a "java/lang/String" "value" "[B" (.ref b) → Arv Z h' b kB .byte z vs (.int 0) → (∀ x ∈ ws, x ≠ a ∧ x ≠ b) → Go p e below Φ T' (mkF m pc' Ls (.ref a :: st))) : Go p e below Φ T (mkF m pc Ls st) := by
  subst hp
  obtain ⟨⟨hx, hb', hml, hO, hE, hrest⟩, vm0, k0, locs, X, eT, hS, hk, hZ, hC, hws, hF, hwd, hOl⟩ := W
  obtain ⟨a, T', h', k1, b, kB, X', e', E, hS', hk', hZ', -, A, F1, F2, V, -, -, hC', -, hne, q⟩ := ldcCH X hx hZ ((hZ.alike.findClass own _).trans hO) w wS eT hS hk hE hmem hC.1 ht hz hlz (g := mkF m pc Ls st) rfl (hb hb' hd) hn hbig hc hl
  have sz : ∀ x ∈ ws, x < h'.size ∧ Safe Z EL T'.vm h' x := fun x hx' => ⟨Nat.lt_of_lt_of_le (hws x hx').1 E.1, hC'.safe (hws x hx').1 (hws x hx').2⟩
  exact (G T' h' a b kB ⟨⟨hx, hb', hml, hO, hE, hrest⟩, T'.vm, k1, locs, X', e', hS', hk', hZ', hC.trans hC', sz, hF, (fun q => by cases q), hOl.ext E⟩ E A F1 F2 V (fun x hx' => hne x (sz x hx').2)).back q
/-- the end -/
theorem gEnd {f : JFrame} {v : Option Value} {rc rs : Nat} {Q : Option Value → Heap → Prop} (W : Wk p l e R s m args below meth c Z a0 EL n0 kn wd own bytes ml ws T h k n) (hv : meth.sig.returnType = none → v = none) (hk : k ≤ rc) (hn : n ≤ rs) (hq : Q v h)
    (hs : ∀ (vm0 : Vm) (locs : List Loc) (fs : List Frame), Stand p l e R (s.setVm vm0) m args below meth c T locs k n → p.tables.exec = Jvm.exec → c.code = bytes → (∀ (f : JFrame) (acts : List Action), f.method = m → f.locked = none → f.entered = [] → (doReturn e (T.setTop f) acts v).1 = T.setFrames fs) → Steps p.tables e below (T.setTop f) (T.setFrames fs)) :
    Go p e below (Po s Z EL n0 wd rc rs Q) T f := by
  obtain ⟨⟨hx, hb', hml, hO, hE, hlk, hrest⟩, vm0, k0, locs, X, eT, hS, hk0, hZ, hC, hws, hF, hwd, hOl⟩ := W
  obtain ⟨fs, hr, hrun, hend, hret⟩ := X.leaveW hS (by rw [eT]; exact hk0) hv hlk
  refine ⟨T.setFrames fs, _, hs vm0 locs fs X hx hb' hr, hrun, hend, v, locs, rfl, by rw [show (T.setFrames fs).heap = T.heap from rfl, eT]; exact hq, hF, ?_, fun q => State.WarmedH.trans (hwd q) (show (s.setVm vm0).WarmedH T.vm from X.warmed), by rw [show (T.setFrames fs).heap = T.heap from rfl, eT]; exact hOl, hret.1, hret.2.1, hret.2.2.1, hret.2.2.2.mono hk hn⟩
  have q := hC.trans (CHv.at X hZ hE hC.1)
  rw [show (T.setFrames fs).heap = T.heap from rfl, show (T.setFrames fs).vm = T.vm from rfl, eT]
  exact q
theorem gRetN {x : Int32} {t : FieldType} {rc rs : Nat} {Q : Option Value → Heap → Prop} (W : Wk p l e R s m args below meth c Z a0 EL n0 kn wd own bytes ml ws T h k n) (hret : meth.sig.returnType = some t) (ht : t = .boolean ∨ t = .byte ∨ t = .char ∨ t = .short) (hd : decode bytes pc = .ok (.ireturn, 1)) (hk : k ≤ rc) (hn : n ≤ rs) (hq : Q (some (.int (nar t x))) h) :
    Go p e below (Po s Z EL n0 wd rc rs Q) T (mkF m pc Ls (.int x :: rest)) :=
  gEnd W (fun q => by rw [hret] at q; cases q) hk hn hq (fun vm0 locs fs X hx hb' hr => retN X hx hret ht (hb hb' hd) hr)
theorem gRetI {x : Int32} {rc rs : Nat} {Q : Option Value → Heap → Prop} (W : Wk p l e R s m args below meth c Z a0 EL n0 kn wd own bytes ml ws T h k n) (hret : meth.sig.returnType = some .int) (hd : decode bytes pc = .ok (.ireturn, 1)) (hk : k ≤ rc) (hn : n ≤ rs) (hq : Q (some (.int x)) h) :
    Go p e below (Po s Z EL n0 wd rc rs Q) T (mkF m pc Ls (.int x :: rest)) :=
  gEnd W (fun q => by rw [hret] at q; cases q) hk hn hq (fun vm0 locs fs X hx hb' hr => retI X hx hret (hb hb' hd) hr)
theorem gRetV {rc rs : Nat} {Q : Option Value → Heap → Prop} (W : Wk p l e R s m args below meth c Z a0 EL n0 kn wd own bytes ml ws T h k n) (hret : meth.sig.returnType = none) (hd : decode bytes pc = .ok (.return_, 1)) (hk : k ≤ rc) (hn : n ≤ rs) (hq : Q none h) :
    Go p e below (Po s Z EL n0 wd rc rs Q) T (mkF m pc Ls []) :=
  gEnd W (fun _ => rfl) hk hn hq (fun vm0 locs fs X hx hb' hr => X.returnOut hx hret (hb hb' hd) hr)
theorem gRetJ {x : Int64} {rc rs : Nat} {Q : Option Value → Heap → Prop} (W : Wk p l e R s m args below meth c Z a0 EL n0 kn wd own bytes ml ws T h k n) (hret : meth.sig.returnType = some .long) (hd : decode bytes pc = .ok (.lreturn, 1)) (hk : k ≤ rc) (hn : n ≤ rs) (hq : Q (some (.long x)) h) :
    Go p e below (Po s Z EL n0 wd rc rs Q) T (mkF m pc Ls (.long x :: rest)) :=
  gEnd W (fun q => by rw [hret] at q; cases q) hk hn hq (fun vm0 locs fs X hx hb' hr => by
    have hd' := hb hb' hd
    jvm_step X.here [X.here.top, hx, hd', X.method', hret, narrow]
    first | (intro acts; rw [hr _ acts rfl rfl rfl]) | rw [hr _ _ rfl rfl rfl]
    exact Steps.refl _)
theorem gRetA {v : Value} {t : FieldType} {rc rs : Nat} {Q : Option Value → Heap → Prop} (W : Wk p l e R s m args below meth c Z a0 EL n0 kn wd own bytes ml ws T h k n) (hret : meth.sig.returnType = some t) (ht : t.isReference = true) (hv : v.isRef = true) (hd : decode bytes pc = .ok (.areturn, 1)) (hk : k ≤ rc) (hn : n ≤ rs) (hq : Q (some v) h) :
    Go p e below (Po s Z EL n0 wd rc rs Q) T (mkF m pc Ls (v :: rest)) :=
  gEnd W (fun q => by rw [hret] at q; cases q) hk hn hq (fun vm0 locs fs X hx hb' hr => by
    have hd' := hb hb' hd
    jvm_step X.here [X.here.top, hx, hd', X.method', hret, ht, hv]
    first | (intro acts; rw [hr _ acts rfl rfl rfl]) | rw [hr _ _ rfl rfl rfl]
    exact Steps.refl _)
/-- a callee by its contract: what the walk's own laws ask of it -/
theorem Ct.backS {y : MethodName} {bytes' : ByteArray} {ml' : Nat} {ret' : Option FieldType} {rm : Room} {ws' : List Addr} {as' : Array Value} {Q : Option Value → Heap → Prop} {len wt : Nat} {vm0 : Vm} (C : Ct l Z a0 EL n0 kn wd y bytes' ml' ret' [] rm ws' as' h Q)
    (hZ : Z.Warmed39 vm0) (wc : (Jvm.Cond.code y bytes' ml' ret').before a0 Z = true) (wz : (Jvm.Cond.initialized y.cls).before a0 Z = true) (hf : rm.frames + 1 ≤ R.frames) (hl : wt + (ml' + 11) + rm.locals ≤ R.locals) (hEL : EW Z a0 EL) (H : CHv Z EL vm0 h) (hOl : Old Z n0 h) (hws : ∀ x ∈ ws', x < h.size ∧ Safe Z EL vm0 h x) (hkn : kn = true → vm0.MethodsKnown ∧ vm0.FramesKnown below) :
    BackS l R p e below (s.setVm vm0) args y len wt (fun A a => a = as' ∧ A.U.heap = h ∧ A.cells + rm.cells ≤ R.cells ∧ A.slots + rm.slots ≤ R.slots)
      (fun A _ v B => ∃ L, Q v B.U.heap ∧ Fr n0 L ∧ B.locs = A.locs ++ L ∧ B.cells = A.cells + rm.cells ∧ B.slots = A.slots + rm.slots ∧ CHr Z EL vm0 h B.U.vm B.U.heap ∧ (wd = false → (s.setVm vm0).WarmedH B.U.vm) ∧ Old Z n0 B.U.heap) := by
  refine BackS.of_freeWG (bytes := bytes') (maxL := ml') (ret := ret') (E := fun _ first o t L k n => k = rm.cells ∧ n = rm.slots ∧ (∃ v, o = .returned v ∧ Q v t.heap ∧ Fr n0 L) ∧ CHr Z EL first.vm first.heap t.vm t.heap ∧ (wd = false → first.WarmedH t.vm) ∧ Old Z n0 t.heap) C hf hl ?_ ?_ ?_ ?_ ?_
  · intro m meth c A a Y hp
    have hU : Z.Warmed39 A.U.vm := wtrans (s := s.setVm vm0) hZ Y.warmed
    exact ⟨by show (Jvm.Cond.and _ .tt).before a A.U = true; rw [Cond.before_and, mv hU wc]; rfl, mv hU wc, mv hU wz, hp.2.2.1, hp.2.2.2⟩
  · intro m meth c A a g mk Y hp
    have q := CHv.at Y hZ hEL H
    exact ⟨hp.1, wtrans (s := s.setVm vm0) hZ Y.warmed, hp.2.1, q.1, hOl, fun x hx => ⟨(hws x hx).1, q.safe (hws x hx).1 (hws x hx).2⟩⟩
  · intro m meth c A a g mk Y _ hg q
    exact known_frames Y hg (hkn q).1 (hkn q).2
  · intro a first o t hq
    obtain ⟨v, L, h1, h2, h3, h4, h5, h7, h6⟩ := hq
    exact ⟨L, _, _, h6, rfl, rfl, ⟨v, h1, h2, h3⟩, h4, h5, h7⟩
  · intro m meth c A a g mk v t L k n Y hp _ _ hE
    obtain ⟨e1, e2, ⟨v', e3, e4, e5⟩, e6, e7, e8⟩ := hE
    cases e3; subst e1 e2
    refine ⟨L, e4, e5, rfl, rfl, rfl, (CHv.at Y hZ hEL H).trans ?_, fun q => State.WarmedH.trans Y.warmed (show A.U.WarmedH _ from e7 q), e8⟩
    rw [← hp.2.1]; exact e6
/-- behind a call -/
theorem Wk.after {T' : State} {locs L : List Loc} {vm0 : Vm} {k0 k' n' : Nat} (hall : p.tables.exec = Jvm.exec ∧ c.code = bytes ∧ c.maxLocals = ml ∧ Z.vm.findClass own = some m.cls ∧ EW Z a0 EL ∧ meth.locks = false ∧ (kn = true → s.vm.MethodsKnown ∧ s.vm.FramesKnown below)) (hS : s.Since vm0 k0) (hk : k0 ≤ h.size) (hZ : Z.Warmed39 vm0) (hC : CHr Z EL s.vm s.heap vm0 h) (hws : ∀ x ∈ ws, x < h.size ∧ Safe Z EL vm0 h x) (hF : Fr n0 locs) (hwd : wd = false → s.WarmedH vm0)
    (X' : Stand p l e R ((s.setVm vm0).setVm T'.vm) m args below meth c T' (locs ++ L) k' n') (h2 : (s.setVm vm0).Since T'.vm T'.heap.size) (hg : h.size ≤ T'.heap.size) (hF' : Fr n0 L) (hC' : CHr Z EL vm0 h T'.vm T'.heap) (hwd' : wd = false → (s.setVm vm0).WarmedH T'.vm) (hOl : Old Z n0 T'.heap) :
    Wk p l e R s m args below meth c Z a0 EL n0 kn wd own bytes ml ws T' T'.heap k' n' :=
  ⟨hall, T'.vm, T'.heap.size, locs ++ L, X', rfl, hS.trans h2 (Nat.le_trans hk hg), Nat.le_refl _, State.Warmed39.trans (t := s.setVm vm0) hZ h2.1, hC.trans hC', fun x hx => ⟨Nat.lt_of_lt_of_le (hws x hx).1 hg, hC'.safe (hws x hx).1 (hws x hx).2⟩, hF.app hF', (fun q => State.WarmedH.trans (hwd q) (hwd' q)), hOl⟩
/-- a static call -/
theorem gStatic {index : Nat} {y : MethodName} {bytes' : ByteArray} {ml' : Nat} {ret' : Option FieldType} {rm : Room} {ws' : List Addr} {as' : Array Value} {Q : Option Value → Heap → Prop} {argsL : List Value} {wt : Nat} {ps : List FieldType} {rt : Option FieldType} (W : Wk p l e R s m args below meth c Z a0 EL n0 kn wd own bytes ml ws T h k n)
    (w1 : (Jvm.Cond.methodLink own index y).before a0 Z = true) (w2 : (Jvm.Cond.static y).before a0 Z = true) (w3 : (Jvm.Cond.initialized y.cls).before a0 Z = true) (w4 : (Jvm.Cond.code y bytes' ml' ret').before a0 Z = true) (hy : y.cls ≠ "java/lang/invoke/MethodHandle" ∧ y.cls ≠ "java/lang/invoke/VarHandle") (hdsc : parseMethodDescriptor y.desc = some ⟨ps, rt⟩)
    (C : Ct l Z a0 EL n0 kn wd y bytes' ml' ret' [] rm ws' as' h Q) (hsub : ∀ x ∈ ws', x ∈ ws) (hd : decode bytes pc = .ok (.invokestatic index, 3)) (hp : pc + 3 = pc') (hsz : Ls.size = ml) (has : argsL.toArray = as') (hlen : argsL.length = ps.length) (hst : st = argsL.reverse ++ rest) (hW : (rest.map fun v => v.category).sum ≤ wt)
    (hf : rm.frames + 1 ≤ R.frames) (hl : wt + (ml' + 11) + rm.locals ≤ R.locals) (hc : k + rm.cells ≤ R.cells) (hs : n + rm.slots ≤ R.slots)
    (G : ∀ v T' h', Wk p l e R s m args below meth c Z a0 EL n0 kn wd own bytes ml ws T' h' (k + rm.cells) (n + rm.slots) → h.size ≤ h'.size → Q v h' → Go p e below Φ T' (mkF m pc' Ls (v.toList ++ rest))) : Go p e below Φ T (mkF m pc Ls st) := by
  subst hp has
  obtain ⟨hall, vm0, k0, locs, X, eT, hS, hk, hZ, hC, hws, hF, hwd, hOl⟩ := W
  have hall' := hall
  obtain ⟨hx, hb', hml, hO, hE, hlk, hkn⟩ := hall'
  have hkn' : kn = true → vm0.MethodsKnown ∧ vm0.FramesKnown below := fun q => known_vm hS.1 (hkn q)
  obtain ⟨v, vm₁, ⟨T', L', c', n'⟩, -, X', h2, hg, ⟨L, hQ, hF', l', y', z', hC', hwd', hOl'⟩, stp⟩ := callSS X hx (y := y) ((hZ.alike.findClass own _).trans hO) (mv (s := s.setVm vm0) hZ w1) (mv (s := s.setVm vm0) hZ w2) (mv (s := s.setVm vm0) hZ w3) (mv (s := s.setVm vm0) hZ w4) hy
    (C.backS (p := p) (e := e) (R := R) (s := s) (args := args) (below := below) (wt := wt) hZ w4 w3 hf hl hE hC.1 hOl (fun x q => hws x (hsub x q)) hkn') (g := mkF m pc Ls st) rfl (hsz.trans hml.symm) (argsL := argsL) (rest := rest) (lenOf hdsc hlen) hst (by simpa using hW) (hb hb' hd) (fun _ _ => ⟨rfl, eT, hc, hs⟩)
  dsimp only [Pt.U, Pt.locs, Pt.cells, Pt.slots] at X' h2 hg l' y' z' stp hQ hC' hwd' hOl'
  subst l' y' z'
  rw [eT] at hg
  exact (G v T' T'.heap (Wk.after hall hS hk hZ hC hws hF hwd X' h2 hg hF' hC' hwd' hOl') hg hQ).back fun t q => stp.trans q
/-- a constructor -/
theorem gSpecial {index : Nat} {y : MethodName} {bytes' : ByteArray} {ml' : Nat} {rm : Room} {ws' : List Addr} {as' : Array Value} {Q : Option Value → Heap → Prop} {argsL : List Value} {a : Addr} {wt : Nat} {ps : List FieldType} {rt : Option FieldType} (W : Wk p l e R s m args below meth c Z a0 EL n0 kn wd own bytes ml ws T h k n) (hy1 : y.name = "<init>")
    (w1 : (Jvm.Cond.methodLink own index y).before a0 Z = true) (w2 : (Jvm.Cond.instanceMethod y).before a0 Z = true) (w3 : (Jvm.Cond.initialized y.cls).before a0 Z = true) (w4 : (Jvm.Cond.code y bytes' ml' none).before a0 Z = true) (hy : y.cls ≠ "java/lang/invoke/MethodHandle" ∧ y.cls ≠ "java/lang/invoke/VarHandle") (hdsc : parseMethodDescriptor y.desc = some ⟨ps, rt⟩)
    (C : Ct l Z a0 EL n0 kn wd y bytes' ml' none [] rm ws' as' h Q) (hsub : ∀ x ∈ ws', x ∈ ws) (hd : decode bytes pc = .ok (.invokespecial index, 3)) (hp : pc + 3 = pc') (hsz : Ls.size = ml) (has : (.ref a :: argsL).toArray = as') (hlen : argsL.length = ps.length) (hst : st = argsL.reverse ++ .ref a :: rest) (hW : (rest.map fun v => v.category).sum ≤ wt)
    (hf : rm.frames + 1 ≤ R.frames) (hl : wt + (ml' + 11) + rm.locals ≤ R.locals) (hc : k + rm.cells ≤ R.cells) (hs : n + rm.slots ≤ R.slots)
    (G : ∀ v T' h', Wk p l e R s m args below meth c Z a0 EL n0 kn wd own bytes ml ws T' h' (k + rm.cells) (n + rm.slots) → h.size ≤ h'.size → Q v h' → Go p e below Φ T' (mkF m pc' Ls (v.toList ++ rest))) : Go p e below Φ T (mkF m pc Ls st) := by
  subst hp has
  obtain ⟨hall, vm0, k0, locs, X, eT, hS, hk, hZ, hC, hws, hF, hwd, hOl⟩ := W
  have hall' := hall
  obtain ⟨hx, hb', hml, hO, hE, hlk, hkn⟩ := hall'
  have hkn' : kn = true → vm0.MethodsKnown ∧ vm0.FramesKnown below := fun q => known_vm hS.1 (hkn q)
  obtain ⟨v, vm₁, ⟨T', L', c', n'⟩, -, X', h2, hg, ⟨L, hQ, hF', l', y', z', hC', hwd', hOl'⟩, stp⟩ := X.specialBackS hx (y := y) hy1 ((hZ.alike.findClass own _).trans hO) (mv (s := s.setVm vm0) hZ w1) (mv (s := s.setVm vm0) hZ w2) (mv (s := s.setVm vm0) hZ w4) hy
    (C.backS (p := p) (e := e) (R := R) (s := s) (args := args) (below := below) (wt := wt) hZ w4 w3 hf hl hE hC.1 hOl (fun x q => hws x (hsub x q)) hkn') (g := mkF m pc Ls st) rfl (hsz.trans hml.symm) (Steps.refl _) (a := a) (argsL := argsL) (rest := rest) (lenOf hdsc hlen) hst (by simpa using hW) (hb hb' hd) (fun _ _ => ⟨rfl, eT, hc, hs⟩)
  dsimp only [Pt.U, Pt.locs, Pt.cells, Pt.slots] at X' h2 hg l' y' z' stp hQ hC' hwd' hOl'
  subst l' y' z'
  rw [eT] at hg
  exact (G v T' T'.heap (Wk.after hall hS hk hZ hC hws hF hwd X' h2 hg hF' hC' hwd' hOl') hg hQ).back fun t q => stp.trans q
/-- an instance method of the class that declares it -/
theorem gVirtual {index : Nat} {y z : MethodName} {C' : String} {bytes' : ByteArray} {ml' : Nat} {ret' : Option FieldType} {rm : Room} {ws' : List Addr} {as' : Array Value} {Q : Option Value → Heap → Prop} {argsL : List Value} {a : Addr} {wt : Nat} {ps : List FieldType} {rt : Option FieldType} (W : Wk p l e R s m args below meth c Z a0 EL n0 kn wd own bytes ml ws T h k n) (E : Exa Z h a C')
    (w1 : (Jvm.Cond.methodLink own index y).before a0 Z = true) (w2 : (Jvm.Cond.declares y).before a0 Z = true) (nf : ∀ s : State, Z.Warmed39 s.vm → NotFace s y) (w5 : (Jvm.Cond.selects C' y z).before a0 Z = true) (w6 : (Jvm.Cond.instanceMethod z).before a0 Z = true) (w3 : (Jvm.Cond.initialized z.cls).before a0 Z = true) (w4 : (Jvm.Cond.code z bytes' ml' ret').before a0 Z = true) (hy : y.cls ≠ "java/lang/invoke/MethodHandle" ∧ y.cls ≠ "java/lang/invoke/VarHandle") (hdsc : parseMethodDescriptor y.desc = some ⟨ps, rt⟩)
    (C : Ct l Z a0 EL n0 kn wd z bytes' ml' ret' [] rm ws' as' h Q) (hsub : ∀ x ∈ ws', x ∈ ws) (hd : decode bytes pc = .ok (.invokevirtual index, 3)) (hp : pc + 3 = pc') (hsz : Ls.size = ml) (has : (.ref a :: argsL).toArray = as') (hlen : argsL.length = ps.length) (hst : st = argsL.reverse ++ .ref a :: rest) (hW : (rest.map fun v => v.category).sum ≤ wt)
    (hf : rm.frames + 1 ≤ R.frames) (hl : wt + (ml' + 11) + rm.locals ≤ R.locals) (hc : k + rm.cells ≤ R.cells) (hs : n + rm.slots ≤ R.slots)
    (G : ∀ v T' h', Wk p l e R s m args below meth c Z a0 EL n0 kn wd own bytes ml ws T' h' (k + rm.cells) (n + rm.slots) → h.size ≤ h'.size → Q v h' → Go p e below Φ T' (mkF m pc' Ls (v.toList ++ rest))) : Go p e below Φ T (mkF m pc Ls st) := by
  subst hp has
  obtain ⟨hall, vm0, k0, locs, X, eT, hS, hk, hZ, hC, hws, hF, hwd, hOl⟩ := W
  have hall' := hall
  obtain ⟨hx, hb', hml, hO, hE, hlk, hkn⟩ := hall'
  have hkn' : kn = true → vm0.MethodsKnown ∧ vm0.FramesKnown below := fun q => known_vm hS.1 (hkn q)
  obtain ⟨cq, kq, qa, qb, qc⟩ := isOf (s := s.setVm vm0) hZ eT E
  obtain ⟨v, vm₁, ⟨T', L', c', n'⟩, -, X', h2, hg, ⟨L, hQ, hF', l', y', z', hC', hwd', hOl'⟩, stp⟩ := X.virtualBackS hx (y := y) (z := z) ((hZ.alike.findClass own _).trans hO) (mv (s := s.setVm vm0) hZ w1) (mv (s := s.setVm vm0) hZ w2) (nf (s.setVm vm0) hZ) (mv (s := s.setVm vm0) hZ w5) (mv (s := s.setVm vm0) hZ w6) hy
    (C.backS (p := p) (e := e) (R := R) (s := s) (args := args) (below := below) (wt := wt) hZ w4 w3 hf hl hE hC.1 hOl (fun x q => hws x (hsub x q)) hkn') qa qc (g := mkF m pc Ls st) rfl (hsz.trans hml.symm) (Steps.refl _) (argsL := argsL) (rest := rest) (lenOf hdsc hlen) hst (by simpa using hW) (hb hb' hd) (fun _ _ => ⟨rfl, eT, hc, hs⟩)
  dsimp only [Pt.U, Pt.locs, Pt.cells, Pt.slots] at X' h2 hg l' y' z' stp hQ hC' hwd' hOl'
  subst l' y' z'
  rw [eT] at hg
  exact (G v T' T'.heap (Wk.after hall hS hk hZ hC hws hF hwd X' h2 hg hF' hC' hwd' hOl') hg hQ).back fun t q => stp.trans q
/-- a contract out of a walk -/
theorem Ct.of {y : MethodName} {ret : Option FieldType} {cs : List Jvm.Cond} {rm : Room} {as' : Array Value} {Q : Option Value → Heap → Prop} (hpl : plainFor y = true) (hEL : EW Z a0 EL)
    (body : ∀ (p : Program) (e : Env) (s : State) (m : MethodId) (below : List Frame) (meth : Method) (c : Code) (T : State), Wk p l e rm s m as' below meth c Z a0 EL n0 kn wd y.cls bytes ml ws T h 0 0 → meth.sig.returnType = ret → meth.name = y.name → s.heap = h → Go p e below (Po s Z EL n0 wd rm.cells rm.slots Q) T (entryFrame m as' ml)) :
    Ct l Z a0 EL n0 kn wd y bytes ml ret cs rm ws as' h Q := by
  refine MetFree.of_bodySF hpl hisR ?_
  intro p e s m args below meth c s₁ Bd hml hP hK
  obtain ⟨rfl, hZ, hh, hC, hOl, hws⟩ := hP
  have hown : s.vm.findClass y.cls = some m.cls := findClass_of_methodNamed Bd.named
  have X0 := Stand.of_body Bd
  have e0 : s₁.heap = h := by rw [← hh, Bd.state]; rfl
  have hO : Z.vm.findClass y.cls = some m.cls := by rw [← hZ.alike.findClass]; exact hown
  have hst : s₁.vm = s.vm := by rw [Bd.state]; rfl
  refine body p e s m below meth c s₁ ⟨⟨Bd.exec, Bd.bytes, hml, hO, hEL, BodyLoose.notSynchronized Bd, hK⟩, s.vm, 0, [], X0, e0, (State.WarmedH.refl s).since _, Nat.zero_le _, hZ, ?_, hws, Fr.nil n0, (fun _ => State.WarmedH.refl s), hOl⟩ Bd.returns (name_of_methodNamed Bd.named Bd.method).1 hh
  rw [hh]
  exact CHr.refl hC
end OwnLayer
section OwnLayerMore
variable {p : Program} {l : Launch} {e : Env} {R : Room} {s : State} {m : MethodId} {args : Array Value} {below : List Frame} {meth : Method} {c : Code} {Z : State} {a0 : Array Value} {EL : List (String × Nat)} {n0 : Nat} {kn wd : Bool} {own : String} {bytes : ByteArray} {ml : Nat} {ws : List Addr} {T : State} {h : Heap} {k n : Nat} {Φ : Outcome → State → Prop} {pc pc' : Nat} {Ls : Array Slot} {st rest : List Value}
/-- instanceof, no -/
theorem gInsN {K C : String} {index : Nat} {a : Addr} (W : Wk p l e R s m args below meth c Z a0 EL n0 kn wd own bytes ml ws T h k n) (w : (Jvm.Cond.classLink own index K).before a0 Z = true) (E : Exa Z h a C) (F : ∃ c t, Z.vm.findClass C = some c ∧ Z.vm.findClass K = some t ∧ Z.vm.assignable c t = false)
    (hd : decode bytes pc = .ok (.instanceof index, 3)) (hp : pc + 3 = pc') (G : ∀ T', Wk p l e R s m args below meth c Z a0 EL n0 kn wd own bytes ml ws T' h k n → Go p e below Φ T' (mkF m pc' Ls (.int 0 :: rest))) : Go p e below Φ T (mkF m pc Ls (.ref a :: rest)) := by
  subst hp
  exact g3 W (fun vm0 locs X hx hb' _ hZ eT hO => instNo X hx hZ hO w eT E F (g := mkF m pc Ls (.ref a :: rest)) rfl rfl (hb hb' hd)) G
theorem noSub {C S K : String} {nK : Nat} (w : (Jvm.Cond.superclass C S).before a0 Z = true) (w0 : (Jvm.Cond.noSuperclass S).before a0 Z = true) (wk : (Jvm.Cond.instantiable K nK).before a0 Z = true) (h1 : C ≠ K) (h2 : S ≠ K) : ∃ c t, Z.vm.findClass C = some c ∧ Z.vm.findClass K = some t ∧ Z.vm.assignable c t = false := by
  obtain ⟨t, kt, g1, g2, g3, g4, -⟩ := Cond.instantiable_spec wk
  obtain ⟨cc, q0⟩ := found_sup w
  obtain ⟨pp, kc, kp, a1, a2, a3, a4, a5, a6, a7⟩ := Cond.superclass_spec q0 w
  obtain ⟨o, ko, b1, b2, b3, -⟩ := Cond.noSuperclass_spec w0
  cases a1.symm.trans b1
  cases a3.symm.trans b2
  have ne1 := ids_ne q0 g1 h1
  have ne2 := ids_ne b1 g1 h2
  have gI : kt.isInterface = false := by simp at g4; exact g4.1
  have sub : ∀ fuel, Z.vm.isSubclassAux fuel cc t = false := fun fuel => by
    cases fuel with
    | zero => rfl
    | succ f =>
      cases f with
      | zero => simp [Vm.isSubclassAux, ne1, a2, a4]
      | succ f => simp [Vm.isSubclassAux, ne1, ne2, a2, a4, b2, b3]
  refine ⟨cc, t, q0, g1, ?_⟩
  show Z.vm.assignableAux (255 + 1) cc t = false
  simp [Vm.assignableAux, ne1, a2, g2, a5, g3, gI, Vm.isSubclass, sub]
/-- a call through an interface -/
theorem gFace {index count : Nat} {y z : MethodName} {C' : String} {bytes' : ByteArray} {ml' : Nat} {ret' : Option FieldType} {rm : Room} {ws' : List Addr} {as' : Array Value} {Q : Option Value → Heap → Prop} {argsL : List Value} {a : Addr} {wt : Nat} {ps : List FieldType} {rt : Option FieldType} (W : Wk p l e R s m args below meth c Z a0 EL n0 kn wd own bytes ml ws T h k n) (E : Exa Z h a C')
    (w1 : (Jvm.Cond.methodLink own index y).before a0 Z = true) (w2 : (Jvm.Cond.declares y).before a0 Z = true) (w7 : ∀ (args : Array Value) (s : State), Z.Warmed39 s.vm → (Jvm.Cond.interfaceMethod y.cls y.cls y.name y.desc).before args s = true) (w5 : (Jvm.Cond.selects C' y z).before a0 Z = true) (w6 : (Jvm.Cond.instanceMethod z).before a0 Z = true) (w8 : (Jvm.Cond.publicMethod z).before a0 Z = true) (w9 : (Jvm.Cond.unhidden C' y.name y.desc).before a0 Z = true) (w10 : (Jvm.Cond.castable C' y.cls).before a0 Z = true) (w3 : (Jvm.Cond.initialized z.cls).before a0 Z = true) (w4 : (Jvm.Cond.code z bytes' ml' ret').before a0 Z = true) (hy : y.cls ≠ "java/lang/invoke/MethodHandle" ∧ y.cls ≠ "java/lang/invoke/VarHandle") (hdsc : parseMethodDescriptor y.desc = some ⟨ps, rt⟩)
    (C : Ct l Z a0 EL n0 kn wd z bytes' ml' ret' [] rm ws' as' h Q) (hsub : ∀ x ∈ ws', x ∈ ws) (hd : decode bytes pc = .ok (.invokeinterface index count, 5)) (hp : pc + 5 = pc') (hsz : Ls.size = ml) (has : (.ref a :: argsL).toArray = as') (hlen : argsL.length = ps.length) (hst : st = argsL.reverse ++ .ref a :: rest) (hW : (rest.map fun v => v.category).sum ≤ wt)
    (hf : rm.frames + 1 ≤ R.frames) (hl : wt + (ml' + 11) + rm.locals ≤ R.locals) (hc : k + rm.cells ≤ R.cells) (hs : n + rm.slots ≤ R.slots)
    (G : ∀ v T' h', Wk p l e R s m args below meth c Z a0 EL n0 kn wd own bytes ml ws T' h' (k + rm.cells) (n + rm.slots) → h.size ≤ h'.size → Q v h' → Go p e below Φ T' (mkF m pc' Ls (v.toList ++ rest))) : Go p e below Φ T (mkF m pc Ls st) := by
  subst hp has
  obtain ⟨hall, vm0, k0, locs, X, eT, hS, hk, hZ, hC, hws, hF, hwd, hOl⟩ := W
  have hall' := hall
  obtain ⟨hx, hb', hml, hO, hE, hlk, hkn⟩ := hall'
  have hkn' : kn = true → vm0.MethodsKnown ∧ vm0.FramesKnown below := fun q => known_vm hS.1 (hkn q)
  obtain ⟨cq, kq, qa, qb, qc⟩ := isOf (s := s.setVm vm0) hZ eT E
  obtain ⟨v, vm₁, ⟨T', L', c', n'⟩, -, X', h2, hg, ⟨L, hQ, hF', l', y', z', hC', hwd', hOl'⟩, stp⟩ := X.interfaceBackS hx (xi := y) (y := z) ((hZ.alike.findClass own _).trans hO) (mv (s := s.setVm vm0) hZ w1) (mv (s := s.setVm vm0) hZ w2) (w7 args (s.setVm vm0) hZ) (mv (s := s.setVm vm0) hZ w5) (mv (s := s.setVm vm0) hZ w6) (mv (s := s.setVm vm0) hZ w8) (mv (s := s.setVm vm0) hZ w9) (mv (s := s.setVm vm0) hZ w10) hy
    (C.backS (p := p) (e := e) (R := R) (s := s) (args := args) (below := below) (wt := wt) hZ w4 w3 hf hl hE hC.1 hOl (fun x q => hws x (hsub x q)) hkn') qa qb qc (g := mkF m pc Ls st) rfl (hsz.trans hml.symm) (Steps.refl _) (argsL := argsL) (rest := rest) (lenOf hdsc hlen) hst (by simpa using hW) (hb hb' hd) (fun _ _ => ⟨rfl, eT, hc, hs⟩)
  dsimp only [Pt.U, Pt.locs, Pt.cells, Pt.slots] at X' h2 hg l' y' z' stp hQ hC' hwd' hOl'
  subst l' y' z'
  rw [eT] at hg
  exact (G v T' T'.heap (Wk.after hall hS hk hZ hC hws hF hwd X' h2 hg hF' hC' hwd' hOl') hg hQ).back fun t q => stp.trans q
/-- an instance method that the entry's class inherits -/
theorem gVirtualUp {index : Nat} {x y : MethodName} {C' owner : String} {bytes' : ByteArray} {ml' : Nat} {ret' : Option FieldType} {rm : Room} {ws' : List Addr} {as' : Array Value} {Q : Option Value → Heap → Prop} {argsL : List Value} {a : Addr} {wt : Nat} {ps : List FieldType} {rt : Option FieldType} (W : Wk p l e R s m args below meth c Z a0 EL n0 kn wd own bytes ml ws T h k n) (E : Exa Z h a C')
    (w1 : (Jvm.Cond.methodLink own index x).before a0 Z = true) (w2 : (Jvm.Cond.sameMethod x.cls owner x.name x.desc).before a0 Z = true) (w7 : (Jvm.Cond.declares ⟨owner, x.name, x.desc⟩).before a0 Z = true) (ho : owner ≠ "java/lang/invoke/MethodHandle" ∧ owner ≠ "java/lang/invoke/VarHandle") (w5 : (Jvm.Cond.selects C' x y).before a0 Z = true) (w6 : (Jvm.Cond.instanceMethod y).before a0 Z = true) (w3 : (Jvm.Cond.initialized y.cls).before a0 Z = true) (w4 : (Jvm.Cond.code y bytes' ml' ret').before a0 Z = true) (hdsc : parseMethodDescriptor x.desc = some ⟨ps, rt⟩)
    (C : Ct l Z a0 EL n0 kn wd y bytes' ml' ret' [] rm ws' as' h Q) (hsub : ∀ x ∈ ws', x ∈ ws) (hd : decode bytes pc = .ok (.invokevirtual index, 3)) (hp : pc + 3 = pc') (hsz : Ls.size = ml) (has : (.ref a :: argsL).toArray = as') (hlen : argsL.length = ps.length) (hst : st = argsL.reverse ++ .ref a :: rest) (hW : (rest.map fun v => v.category).sum ≤ wt)
    (hf : rm.frames + 1 ≤ R.frames) (hl : wt + (ml' + 11) + rm.locals ≤ R.locals) (hc : k + rm.cells ≤ R.cells) (hs : n + rm.slots ≤ R.slots)
    (G : ∀ v T' h', Wk p l e R s m args below meth c Z a0 EL n0 kn wd own bytes ml ws T' h' (k + rm.cells) (n + rm.slots) → h.size ≤ h'.size → Q v h' → Go p e below Φ T' (mkF m pc' Ls (v.toList ++ rest))) : Go p e below Φ T (mkF m pc Ls st) := by
  subst hp has
  obtain ⟨hall, vm0, k0, locs, X, eT, hS, hk, hZ, hC, hws, hF, hwd, hOl⟩ := W
  have hall' := hall
  obtain ⟨hx, hb', hml, hO, hE, hlk, hkn⟩ := hall'
  have hkn' : kn = true → vm0.MethodsKnown ∧ vm0.FramesKnown below := fun q => known_vm hS.1 (hkn q)
  obtain ⟨cq, kq, qa, qb, qc⟩ := isOf (s := s.setVm vm0) hZ eT E
  obtain ⟨v, vm₁, ⟨T', L', c', n'⟩, -, X', h2, hg, ⟨L, hQ, hF', l', y', z', hC', hwd', hOl'⟩, stp⟩ := virtualBackUpS X hx (x := x) (y := y) (owner := owner) ((hZ.alike.findClass own _).trans hO) (mv (s := s.setVm vm0) hZ w1) (mv (s := s.setVm vm0) hZ w2) (mv (s := s.setVm vm0) hZ w7) ho (mv (s := s.setVm vm0) hZ w5) (mv (s := s.setVm vm0) hZ w6)
    (C.backS (p := p) (e := e) (R := R) (s := s) (args := args) (below := below) (wt := wt) hZ w4 w3 hf hl hE hC.1 hOl (fun x q => hws x (hsub x q)) hkn') qa qc (g := mkF m pc Ls st) rfl (hsz.trans hml.symm) (Steps.refl _) (argsL := argsL) (rest := rest) (lenOf hdsc hlen) hst (by simpa using hW) (hb hb' hd) (fun _ _ => ⟨rfl, eT, hc, hs⟩)
  dsimp only [Pt.U, Pt.locs, Pt.cells, Pt.slots] at X' h2 hg l' y' z' stp hQ hC' hwd' hOl'
  subst l' y' z'
  rw [eT] at hg
  exact (G v T' T'.heap (Wk.after hall hS hk hZ hC hws hF hwd X' h2 hg hF' hC' hwd' hOl') hg hQ).back fun t q => stp.trans q
end OwnLayerMore
section OwnSteps
variable {p : Program} {l : Launch} {e : Env} {R : Room} {s : State} {m : MethodId} {args : Array Value} {below : List Frame} {meth : Method} {c : Code} {Z : State} {a0 : Array Value} {EL : List (String × Nat)} {n0 : Nat} {kn wd : Bool} {own : String} {bytes : ByteArray} {ml : Nat} {ws : List Addr} {T : State} {h : Heap} {k n : Nat} {Φ : Outcome → State → Prop} {pc pc' : Nat} {Ls : Array Slot} {st rest : List Value}
theorem s_iloadN {j : Fin 4} {v : Int32} (W : Wk p l e R s m args below meth c Z a0 EL n0 kn wd own bytes ml ws T h k n) (hd : decode bytes pc = .ok (.iload_n j, 1)) (hl : Ls[j.val]? = some (.val (.int v))) (hp : pc + 1 = pc') (G : Go p e below Φ T (mkF m pc' Ls ((.int v) :: st))) : Go p e below Φ T (mkF m pc Ls st) := by
  subst hp
  exact g1 W (fun t ha hx hb' q => XS.iloadN ha hx rfl (hb hb' hd) hl q) G
theorem s_iload {j : Nat} {v : Int32} (W : Wk p l e R s m args below meth c Z a0 EL n0 kn wd own bytes ml ws T h k n) (hd : decode bytes pc = .ok (.iload j, 2)) (hl : Ls[j]? = some (.val (.int v))) (hp : pc + 2 = pc') (G : Go p e below Φ T (mkF m pc' Ls ((.int v) :: st))) : Go p e below Φ T (mkF m pc Ls st) := by
  subst hp
  exact g1 W (fun t ha hx hb' q => XS.iload ha hx rfl (hb hb' hd) hl q) G
theorem s_lloadN {j : Fin 4} {v : Int64} (W : Wk p l e R s m args below meth c Z a0 EL n0 kn wd own bytes ml ws T h k n) (hd : decode bytes pc = .ok (.lload_n j, 1)) (hl : Ls[j.val]? = some (.val (.long v))) (hp : pc + 1 = pc') (G : Go p e below Φ T (mkF m pc' Ls ((.long v) :: st))) : Go p e below Φ T (mkF m pc Ls st) := by
  subst hp
  exact g1 W (fun t ha hx hb' q => XS.lloadN ha hx rfl (hb hb' hd) hl q) G
theorem s_lload {j : Nat} {v : Int64} (W : Wk p l e R s m args below meth c Z a0 EL n0 kn wd own bytes ml ws T h k n) (hd : decode bytes pc = .ok (.lload j, 2)) (hl : Ls[j]? = some (.val (.long v))) (hp : pc + 2 = pc') (G : Go p e below Φ T (mkF m pc' Ls ((.long v) :: st))) : Go p e below Φ T (mkF m pc Ls st) := by
  subst hp
  exact g1 W (fun t ha hx hb' q => XS.lload ha hx rfl (hb hb' hd) hl q) G
theorem s_aloadN {j : Fin 4} {v : Value} (W : Wk p l e R s m args below meth c Z a0 EL n0 kn wd own bytes ml ws T h k n) (hd : decode bytes pc = .ok (.aload_n j, 1)) (hl : Ls[j.val]? = some (.val v)) (hv : v.isRef = true) (hp : pc + 1 = pc') (G : Go p e below Φ T (mkF m pc' Ls (v :: st))) : Go p e below Φ T (mkF m pc Ls st) := by
  subst hp
  exact g1 W (fun t ha hx hb' q => XS.aloadN ha hx rfl (hb hb' hd) hl hv q) G
theorem s_aload {j : Nat} {v : Value} (W : Wk p l e R s m args below meth c Z a0 EL n0 kn wd own bytes ml ws T h k n) (hd : decode bytes pc = .ok (.aload j, 2)) (hl : Ls[j]? = some (.val v)) (hv : v.isRef = true) (hp : pc + 2 = pc') (G : Go p e below Φ T (mkF m pc' Ls (v :: st))) : Go p e below Φ T (mkF m pc Ls st) := by
  subst hp
  exact g1 W (fun t ha hx hb' q => XS.aload ha hx rfl (hb hb' hd) hl hv q) G
theorem s_istoreN {j : Fin 4} {v : Int32} {l' : Array Slot} (W : Wk p l e R s m args below meth c Z a0 EL n0 kn wd own bytes ml ws T h k n) (hd : decode bytes pc = .ok (.istore_n j, 1)) (hl : storeLocals Ls j.val (.int v) = some l') (hp : pc + 1 = pc') (G : Go p e below Φ T (mkF m pc' l' rest)) : Go p e below Φ T (mkF m pc Ls ((.int v) :: rest)) := by
  subst hp
  exact g1 W (fun t ha hx hb' q => XS.istoreN ha hx rfl (hb hb' hd) rfl hl q) G
theorem s_istore {j : Nat} {v : Int32} {l' : Array Slot} (W : Wk p l e R s m args below meth c Z a0 EL n0 kn wd own bytes ml ws T h k n) (hd : decode bytes pc = .ok (.istore j, 2)) (hl : storeLocals Ls j (.int v) = some l') (hp : pc + 2 = pc') (G : Go p e below Φ T (mkF m pc' l' rest)) : Go p e below Φ T (mkF m pc Ls ((.int v) :: rest)) := by
  subst hp
  exact g1 W (fun t ha hx hb' q => XS.istore ha hx rfl (hb hb' hd) rfl hl q) G
theorem s_lstoreN {j : Fin 4} {v : Int64} {l' : Array Slot} (W : Wk p l e R s m args below meth c Z a0 EL n0 kn wd own bytes ml ws T h k n) (hd : decode bytes pc = .ok (.lstore_n j, 1)) (hl : storeLocals Ls j.val (.long v) = some l') (hp : pc + 1 = pc') (G : Go p e below Φ T (mkF m pc' l' rest)) : Go p e below Φ T (mkF m pc Ls ((.long v) :: rest)) := by
  subst hp
  exact g1 W (fun t ha hx hb' q => XS.lstoreN ha hx rfl (hb hb' hd) rfl hl q) G
theorem s_lstore {j : Nat} {v : Int64} {l' : Array Slot} (W : Wk p l e R s m args below meth c Z a0 EL n0 kn wd own bytes ml ws T h k n) (hd : decode bytes pc = .ok (.lstore j, 2)) (hl : storeLocals Ls j (.long v) = some l') (hp : pc + 2 = pc') (G : Go p e below Φ T (mkF m pc' l' rest)) : Go p e below Φ T (mkF m pc Ls ((.long v) :: rest)) := by
  subst hp
  exact g1 W (fun t ha hx hb' q => XS.lstore ha hx rfl (hb hb' hd) rfl hl q) G
theorem s_astoreN {j : Fin 4} {v : Value} {l' : Array Slot} (W : Wk p l e R s m args below meth c Z a0 EL n0 kn wd own bytes ml ws T h k n) (hd : decode bytes pc = .ok (.astore_n j, 1)) (hv : v.isRef = true) (hl : storeLocals Ls j.val v = some l') (hp : pc + 1 = pc') (G : Go p e below Φ T (mkF m pc' l' rest)) : Go p e below Φ T (mkF m pc Ls (v :: rest)) := by
  subst hp
  exact g1 W (fun t ha hx hb' q => XS.astoreN ha hx rfl (hb hb' hd) rfl hv hl q) G
theorem s_astore {j : Nat} {v : Value} {l' : Array Slot} (W : Wk p l e R s m args below meth c Z a0 EL n0 kn wd own bytes ml ws T h k n) (hd : decode bytes pc = .ok (.astore j, 2)) (hv : v.isRef = true) (hl : storeLocals Ls j v = some l') (hp : pc + 2 = pc') (G : Go p e below Φ T (mkF m pc' l' rest)) : Go p e below Φ T (mkF m pc Ls (v :: rest)) := by
  subst hp
  exact g1 W (fun t ha hx hb' q => XS.astore ha hx rfl (hb hb' hd) rfl hv hl q) G
theorem s_iconst {i : Int} {v : Int32} (W : Wk p l e R s m args below meth c Z a0 EL n0 kn wd own bytes ml ws T h k n) (hd : decode bytes pc = .ok (.iconst i, 1)) (hv : Int32.ofInt i = v) (hp : pc + 1 = pc') (G : Go p e below Φ T (mkF m pc' Ls (.int v :: st))) : Go p e below Φ T (mkF m pc Ls st) := by
  subst hp hv
  exact g1 W (fun t ha hx hb' q => XS.iconst ha hx rfl (hb hb' hd) q) G
theorem s_bipush {i : Int} {v : Int32} (W : Wk p l e R s m args below meth c Z a0 EL n0 kn wd own bytes ml ws T h k n) (hd : decode bytes pc = .ok (.bipush i, 2)) (hv : (Int8.ofInt i).toInt32 = v) (hp : pc + 2 = pc') (G : Go p e below Φ T (mkF m pc' Ls (.int v :: st))) : Go p e below Φ T (mkF m pc Ls st) := by
  subst hp hv
  exact g1 W (fun t ha hx hb' q => XS.bipush ha hx rfl (hb hb' hd) q) G
theorem s_sipush {i : Int} {v : Int32} (W : Wk p l e R s m args below meth c Z a0 EL n0 kn wd own bytes ml ws T h k n) (hd : decode bytes pc = .ok (.sipush i, 3)) (hv : (Int16.ofInt i).toInt32 = v) (hp : pc + 3 = pc') (G : Go p e below Φ T (mkF m pc' Ls (.int v :: st))) : Go p e below Φ T (mkF m pc Ls st) := by
  subst hp hv
  exact g1 W (fun t ha hx hb' q => XS.sipush ha hx rfl (hb hb' hd) q) G
theorem s_lconst {i : Fin 2} {v : Int64} (W : Wk p l e R s m args below meth c Z a0 EL n0 kn wd own bytes ml ws T h k n) (hd : decode bytes pc = .ok (.lconst i, 1)) (hv : Int64.ofNat i = v) (hp : pc + 1 = pc') (G : Go p e below Φ T (mkF m pc' Ls (.long v :: st))) : Go p e below Φ T (mkF m pc Ls st) := by
  subst hp hv
  exact g1 W (fun t ha hx hb' q => XS.lconst ha hx rfl (hb hb' hd) q) G
theorem s_aconst_null (W : Wk p l e R s m args below meth c Z a0 EL n0 kn wd own bytes ml ws T h k n) (hd : decode bytes pc = .ok (.aconst_null, 1)) (hp : pc + 1 = pc') (G : Go p e below Φ T (mkF m pc' Ls (.null :: st))) : Go p e below Φ T (mkF m pc Ls st) := by
  subst hp
  exact g1 W (fun t ha hx hb' q => XS.aconstNull ha hx rfl (hb hb' hd)  q) G
theorem s_iadd {x y : Int32} (W : Wk p l e R s m args below meth c Z a0 EL n0 kn wd own bytes ml ws T h k n) (hd : decode bytes pc = .ok (.iadd, 1)) (hp : pc + 1 = pc') (G : Go p e below Φ T (mkF m pc' Ls (.int (x + y) :: rest))) : Go p e below Φ T (mkF m pc Ls (.int y :: .int x :: rest)) := by
  subst hp
  exact g1 W (fun t ha hx hb' q => XS.iadd ha hx rfl (hb hb' hd) rfl q) G
theorem s_isub {x y : Int32} (W : Wk p l e R s m args below meth c Z a0 EL n0 kn wd own bytes ml ws T h k n) (hd : decode bytes pc = .ok (.isub, 1)) (hp : pc + 1 = pc') (G : Go p e below Φ T (mkF m pc' Ls (.int (x - y) :: rest))) : Go p e below Φ T (mkF m pc Ls (.int y :: .int x :: rest)) := by
  subst hp
  exact g1 W (fun t ha hx hb' q => XS.isub ha hx rfl (hb hb' hd) rfl q) G
theorem s_imul {x y : Int32} (W : Wk p l e R s m args below meth c Z a0 EL n0 kn wd own bytes ml ws T h k n) (hd : decode bytes pc = .ok (.imul, 1)) (hp : pc + 1 = pc') (G : Go p e below Φ T (mkF m pc' Ls (.int (x * y) :: rest))) : Go p e below Φ T (mkF m pc Ls (.int y :: .int x :: rest)) := by
  subst hp
  exact g1 W (fun t ha hx hb' q => XS.imul ha hx rfl (hb hb' hd) rfl q) G
theorem s_iand {x y : Int32} (W : Wk p l e R s m args below meth c Z a0 EL n0 kn wd own bytes ml ws T h k n) (hd : decode bytes pc = .ok (.iand, 1)) (hp : pc + 1 = pc') (G : Go p e below Φ T (mkF m pc' Ls (.int (x &&& y) :: rest))) : Go p e below Φ T (mkF m pc Ls (.int y :: .int x :: rest)) := by
  subst hp
  exact g1 W (fun t ha hx hb' q => XS.iand ha hx rfl (hb hb' hd) rfl q) G
theorem s_ior {x y : Int32} (W : Wk p l e R s m args below meth c Z a0 EL n0 kn wd own bytes ml ws T h k n) (hd : decode bytes pc = .ok (.ior, 1)) (hp : pc + 1 = pc') (G : Go p e below Φ T (mkF m pc' Ls (.int (x ||| y) :: rest))) : Go p e below Φ T (mkF m pc Ls (.int y :: .int x :: rest)) := by
  subst hp
  exact g1 W (fun t ha hx hb' q => XS.ior ha hx rfl (hb hb' hd) rfl q) G
theorem s_ixor {x y : Int32} (W : Wk p l e R s m args below meth c Z a0 EL n0 kn wd own bytes ml ws T h k n) (hd : decode bytes pc = .ok (.ixor, 1)) (hp : pc + 1 = pc') (G : Go p e below Φ T (mkF m pc' Ls (.int (x ^^^ y) :: rest))) : Go p e below Φ T (mkF m pc Ls (.int y :: .int x :: rest)) := by
  subst hp
  exact g1 W (fun t ha hx hb' q => XS.ixor ha hx rfl (hb hb' hd) rfl q) G
theorem s_ladd {x y : Int64} (W : Wk p l e R s m args below meth c Z a0 EL n0 kn wd own bytes ml ws T h k n) (hd : decode bytes pc = .ok (.ladd, 1)) (hp : pc + 1 = pc') (G : Go p e below Φ T (mkF m pc' Ls (.long (x + y) :: rest))) : Go p e below Φ T (mkF m pc Ls (.long y :: .long x :: rest)) := by
  subst hp
  exact g1 W (fun t ha hx hb' q => XS.ladd ha hx rfl (hb hb' hd) rfl q) G
theorem s_lsub {x y : Int64} (W : Wk p l e R s m args below meth c Z a0 EL n0 kn wd own bytes ml ws T h k n) (hd : decode bytes pc = .ok (.lsub, 1)) (hp : pc + 1 = pc') (G : Go p e below Φ T (mkF m pc' Ls (.long (x - y) :: rest))) : Go p e below Φ T (mkF m pc Ls (.long y :: .long x :: rest)) := by
  subst hp
  exact g1 W (fun t ha hx hb' q => XS.lsub ha hx rfl (hb hb' hd) rfl q) G
theorem s_lmul {x y : Int64} (W : Wk p l e R s m args below meth c Z a0 EL n0 kn wd own bytes ml ws T h k n) (hd : decode bytes pc = .ok (.lmul, 1)) (hp : pc + 1 = pc') (G : Go p e below Φ T (mkF m pc' Ls (.long (x * y) :: rest))) : Go p e below Φ T (mkF m pc Ls (.long y :: .long x :: rest)) := by
  subst hp
  exact g1 W (fun t ha hx hb' q => XS.lmul ha hx rfl (hb hb' hd) rfl q) G
theorem s_land {x y : Int64} (W : Wk p l e R s m args below meth c Z a0 EL n0 kn wd own bytes ml ws T h k n) (hd : decode bytes pc = .ok (.land, 1)) (hp : pc + 1 = pc') (G : Go p e below Φ T (mkF m pc' Ls (.long (x &&& y) :: rest))) : Go p e below Φ T (mkF m pc Ls (.long y :: .long x :: rest)) := by
  subst hp
  exact g1 W (fun t ha hx hb' q => XS.land ha hx rfl (hb hb' hd) rfl q) G
theorem s_lor {x y : Int64} (W : Wk p l e R s m args below meth c Z a0 EL n0 kn wd own bytes ml ws T h k n) (hd : decode bytes pc = .ok (.lor, 1)) (hp : pc + 1 = pc') (G : Go p e below Φ T (mkF m pc' Ls (.long (x ||| y) :: rest))) : Go p e below Φ T (mkF m pc Ls (.long y :: .long x :: rest)) := by
  subst hp
  exact g1 W (fun t ha hx hb' q => XS.lor ha hx rfl (hb hb' hd) rfl q) G
theorem s_lxor {x y : Int64} (W : Wk p l e R s m args below meth c Z a0 EL n0 kn wd own bytes ml ws T h k n) (hd : decode bytes pc = .ok (.lxor, 1)) (hp : pc + 1 = pc') (G : Go p e below Φ T (mkF m pc' Ls (.long (x ^^^ y) :: rest))) : Go p e below Φ T (mkF m pc Ls (.long y :: .long x :: rest)) := by
  subst hp
  exact g1 W (fun t ha hx hb' q => XS.lxor ha hx rfl (hb hb' hd) rfl q) G
theorem s_ishl {x y : Int32} (W : Wk p l e R s m args below meth c Z a0 EL n0 kn wd own bytes ml ws T h k n) (hd : decode bytes pc = .ok (.ishl, 1)) (hp : pc + 1 = pc') (G : Go p e below Φ T (mkF m pc' Ls (.int (x <<< (y &&& 31)) :: rest))) : Go p e below Φ T (mkF m pc Ls (.int y :: .int x :: rest)) := by
  subst hp
  exact g1 W (fun t ha hx hb' q => XS.ishl ha hx rfl (hb hb' hd) rfl q) G
theorem s_ishr {x y : Int32} (W : Wk p l e R s m args below meth c Z a0 EL n0 kn wd own bytes ml ws T h k n) (hd : decode bytes pc = .ok (.ishr, 1)) (hp : pc + 1 = pc') (G : Go p e below Φ T (mkF m pc' Ls (.int (x >>> (y &&& 31)) :: rest))) : Go p e below Φ T (mkF m pc Ls (.int y :: .int x :: rest)) := by
  subst hp
  exact g1 W (fun t ha hx hb' q => XS.ishr ha hx rfl (hb hb' hd) rfl q) G
theorem s_iushr {x y : Int32} (W : Wk p l e R s m args below meth c Z a0 EL n0 kn wd own bytes ml ws T h k n) (hd : decode bytes pc = .ok (.iushr, 1)) (hp : pc + 1 = pc') (G : Go p e below Φ T (mkF m pc' Ls (.int ((x.toUInt32 >>> (y &&& 31).toUInt32).toInt32) :: rest))) : Go p e below Φ T (mkF m pc Ls (.int y :: .int x :: rest)) := by
  subst hp
  exact g1 W (fun t ha hx hb' q => XS.iushr ha hx rfl (hb hb' hd) rfl q) G
theorem s_lshl {x : Int64} {y : Int32} (W : Wk p l e R s m args below meth c Z a0 EL n0 kn wd own bytes ml ws T h k n) (hd : decode bytes pc = .ok (.lshl, 1)) (hp : pc + 1 = pc') (G : Go p e below Φ T (mkF m pc' Ls (.long (x <<< (y &&& 0x3f).toInt64) :: rest))) : Go p e below Φ T (mkF m pc Ls (.int y :: .long x :: rest)) := by
  subst hp
  exact g1 W (fun t ha hx hb' q => XS.lshl ha hx rfl (hb hb' hd) rfl q) G
theorem s_lshr {x : Int64} {y : Int32} (W : Wk p l e R s m args below meth c Z a0 EL n0 kn wd own bytes ml ws T h k n) (hd : decode bytes pc = .ok (.lshr, 1)) (hp : pc + 1 = pc') (G : Go p e below Φ T (mkF m pc' Ls (.long (x >>> (y &&& 0x3f).toInt64) :: rest))) : Go p e below Φ T (mkF m pc Ls (.int y :: .long x :: rest)) := by
  subst hp
  exact g1 W (fun t ha hx hb' q => XS.lshr ha hx rfl (hb hb' hd) rfl q) G
theorem s_lushr {x : Int64} {y : Int32} (W : Wk p l e R s m args below meth c Z a0 EL n0 kn wd own bytes ml ws T h k n) (hd : decode bytes pc = .ok (.lushr, 1)) (hp : pc + 1 = pc') (G : Go p e below Φ T (mkF m pc' Ls (.long ((x.toUInt64 >>> (y &&& 0x3f).toInt64.toUInt64).toInt64) :: rest))) : Go p e below Φ T (mkF m pc Ls (.int y :: .long x :: rest)) := by
  subst hp
  exact g1 W (fun t ha hx hb' q => XS.lushr ha hx rfl (hb hb' hd) rfl q) G
theorem s_idiv {x y : Int32} (W : Wk p l e R s m args below meth c Z a0 EL n0 kn wd own bytes ml ws T h k n) (hd : decode bytes pc = .ok (.idiv, 1)) (hy : y ≠ 0) (hp : pc + 1 = pc') (G : Go p e below Φ T (mkF m pc' Ls (.int (x / y) :: rest))) : Go p e below Φ T (mkF m pc Ls (.int y :: .int x :: rest)) := by
  subst hp
  exact g1 W (fun t ha hx hb' q => XS.idiv ha hx rfl (hb hb' hd) rfl hy q) G
theorem s_irem {x y : Int32} (W : Wk p l e R s m args below meth c Z a0 EL n0 kn wd own bytes ml ws T h k n) (hd : decode bytes pc = .ok (.irem, 1)) (hy : y ≠ 0) (hp : pc + 1 = pc') (G : Go p e below Φ T (mkF m pc' Ls (.int (x % y) :: rest))) : Go p e below Φ T (mkF m pc Ls (.int y :: .int x :: rest)) := by
  subst hp
  exact g2 W (fun vm0 locs X hx hb' hZ eT hO t q => iremM (g := mkF m pc Ls (.int y :: .int x :: rest)) X hx rfl (hb hb' hd) rfl hy q) G
theorem s_ldiv {x y : Int64} (W : Wk p l e R s m args below meth c Z a0 EL n0 kn wd own bytes ml ws T h k n) (hd : decode bytes pc = .ok (.ldiv, 1)) (hy : y ≠ 0) (hp : pc + 1 = pc') (G : Go p e below Φ T (mkF m pc' Ls (.long (x / y) :: rest))) : Go p e below Φ T (mkF m pc Ls (.long y :: .long x :: rest)) := by
  subst hp
  exact g1 W (fun t ha hx hb' q => XS.ldiv ha hx rfl (hb hb' hd) rfl hy q) G
theorem s_ineg {x : Int32} (W : Wk p l e R s m args below meth c Z a0 EL n0 kn wd own bytes ml ws T h k n) (hd : decode bytes pc = .ok (.ineg, 1)) (hp : pc + 1 = pc') (G : Go p e below Φ T (mkF m pc' Ls (.int (-x) :: rest))) : Go p e below Φ T (mkF m pc Ls (.int x :: rest)) := by
  subst hp
  exact g1 W (fun t ha hx hb' q => XS.ineg ha hx rfl (hb hb' hd) rfl q) G
theorem s_lneg {x : Int64} (W : Wk p l e R s m args below meth c Z a0 EL n0 kn wd own bytes ml ws T h k n) (hd : decode bytes pc = .ok (.lneg, 1)) (hp : pc + 1 = pc') (G : Go p e below Φ T (mkF m pc' Ls (.long (-x) :: rest))) : Go p e below Φ T (mkF m pc Ls (.long x :: rest)) := by
  subst hp
  exact g1 W (fun t ha hx hb' q => XS.lneg ha hx rfl (hb hb' hd) rfl q) G
theorem s_i2l {x : Int32} (W : Wk p l e R s m args below meth c Z a0 EL n0 kn wd own bytes ml ws T h k n) (hd : decode bytes pc = .ok (.i2l, 1)) (hp : pc + 1 = pc') (G : Go p e below Φ T (mkF m pc' Ls (.long x.toInt64 :: rest))) : Go p e below Φ T (mkF m pc Ls (.int x :: rest)) := by
  subst hp
  exact g1 W (fun t ha hx hb' q => XS.i2l ha hx rfl (hb hb' hd) rfl q) G
theorem s_l2i {x : Int64} (W : Wk p l e R s m args below meth c Z a0 EL n0 kn wd own bytes ml ws T h k n) (hd : decode bytes pc = .ok (.l2i, 1)) (hp : pc + 1 = pc') (G : Go p e below Φ T (mkF m pc' Ls (.int x.toInt32 :: rest))) : Go p e below Φ T (mkF m pc Ls (.long x :: rest)) := by
  subst hp
  exact g1 W (fun t ha hx hb' q => XS.l2i ha hx rfl (hb hb' hd) rfl q) G
theorem s_i2b {x : Int32} (W : Wk p l e R s m args below meth c Z a0 EL n0 kn wd own bytes ml ws T h k n) (hd : decode bytes pc = .ok (.i2b, 1)) (hp : pc + 1 = pc') (G : Go p e below Φ T (mkF m pc' Ls (.int x.toInt8.toInt32 :: rest))) : Go p e below Φ T (mkF m pc Ls (.int x :: rest)) := by
  subst hp
  exact g1 W (fun t ha hx hb' q => XS.i2b ha hx rfl (hb hb' hd) rfl q) G
theorem s_i2s {x : Int32} (W : Wk p l e R s m args below meth c Z a0 EL n0 kn wd own bytes ml ws T h k n) (hd : decode bytes pc = .ok (.i2s, 1)) (hp : pc + 1 = pc') (G : Go p e below Φ T (mkF m pc' Ls (.int x.toInt16.toInt32 :: rest))) : Go p e below Φ T (mkF m pc Ls (.int x :: rest)) := by
  subst hp
  exact g1 W (fun t ha hx hb' q => XS.i2s ha hx rfl (hb hb' hd) rfl q) G
theorem s_i2c {x : Int32} (W : Wk p l e R s m args below meth c Z a0 EL n0 kn wd own bytes ml ws T h k n) (hd : decode bytes pc = .ok (.i2c, 1)) (hp : pc + 1 = pc') (G : Go p e below Φ T (mkF m pc' Ls (.int x.toUInt32.toUInt16.toUInt32.toInt32 :: rest))) : Go p e below Φ T (mkF m pc Ls (.int x :: rest)) := by
  subst hp
  exact g1 W (fun t ha hx hb' q => XS.i2c ha hx rfl (hb hb' hd) rfl q) G
theorem s_lcmp {x y : Int64} (W : Wk p l e R s m args below meth c Z a0 EL n0 kn wd own bytes ml ws T h k n) (hd : decode bytes pc = .ok (.lcmp, 1)) (hp : pc + 1 = pc') (G : Go p e below Φ T (mkF m pc' Ls (.int (lcmpW x y) :: rest))) : Go p e below Φ T (mkF m pc Ls (.long y :: .long x :: rest)) := by
  subst hp
  exact g1 W (fun t ha hx hb' q => XS.lcmp ha hx rfl (hb hb' hd) rfl q) G
theorem s_dup {v : Value} (W : Wk p l e R s m args below meth c Z a0 EL n0 kn wd own bytes ml ws T h k n) (hd : decode bytes pc = .ok (.dup, 1)) (hv : v.category = 1) (hp : pc + 1 = pc') (G : Go p e below Φ T (mkF m pc' Ls (v :: v :: rest))) : Go p e below Φ T (mkF m pc Ls (v :: rest)) := by
  subst hp
  exact g1 W (fun t ha hx hb' q => XS.dup ha hx rfl (hb hb' hd) rfl hv q) G
theorem s_pop {v : Value} (W : Wk p l e R s m args below meth c Z a0 EL n0 kn wd own bytes ml ws T h k n) (hd : decode bytes pc = .ok (.pop, 1)) (hv : v.category = 1) (hp : pc + 1 = pc') (G : Go p e below Φ T (mkF m pc' Ls rest)) : Go p e below Φ T (mkF m pc Ls (v :: rest)) := by
  subst hp
  exact g1 W (fun t ha hx hb' q => XS.pop ha hx rfl (hb hb' hd) rfl hv q) G
theorem s_dup_x1 {v w : Value} (W : Wk p l e R s m args below meth c Z a0 EL n0 kn wd own bytes ml ws T h k n) (hd : decode bytes pc = .ok (.dup_x1, 1)) (hv : v.category = 1) (hw' : w.category = 1) (hp : pc + 1 = pc') (G : Go p e below Φ T (mkF m pc' Ls (v :: w :: v :: rest))) : Go p e below Φ T (mkF m pc Ls (v :: w :: rest)) := by
  subst hp
  exact g1 W (fun t ha hx hb' q => XS.dupX1 ha hx rfl (hb hb' hd) rfl hv hw' q) G
theorem s_dup2 {v w : Value} (W : Wk p l e R s m args below meth c Z a0 EL n0 kn wd own bytes ml ws T h k n) (hd : decode bytes pc = .ok (.dup2, 1)) (hv : v.category = 1) (hw' : w.category = 1) (hp : pc + 1 = pc') (G : Go p e below Φ T (mkF m pc' Ls (v :: w :: v :: w :: rest))) : Go p e below Φ T (mkF m pc Ls (v :: w :: rest)) := by
  subst hp
  exact g1 W (fun t ha hx hb' q => XT.dup2 ha hx rfl (hb hb' hd) rfl hv hw' q) G
theorem s_dup2L {x : Int64} (W : Wk p l e R s m args below meth c Z a0 EL n0 kn wd own bytes ml ws T h k n) (hd : decode bytes pc = .ok (.dup2, 1)) (hp : pc + 1 = pc') (G : Go p e below Φ T (mkF m pc' Ls (.long x :: .long x :: rest))) : Go p e below Φ T (mkF m pc Ls (.long x :: rest)) := by
  subst hp
  exact g1 W (fun t ha hx hb' q => XT.dup2L ha hx rfl (hb hb' hd) rfl q) G
theorem s_iinc {j : Nat} {cst : Int} {x v : Int32} {l' : Array Slot} (W : Wk p l e R s m args below meth c Z a0 EL n0 kn wd own bytes ml ws T h k n) (hd : decode bytes pc = .ok (.iinc j cst, 3)) (hv : Int32.ofInt cst = v) (hl : Ls[j]? = some (.val (.int x))) (hl' : storeLocals Ls j (.int (x + v)) = some l') (hp : pc + 3 = pc') (G : Go p e below Φ T (mkF m pc' l' st)) : Go p e below Φ T (mkF m pc Ls st) := by
  subst hp hv
  exact g1 W (fun t ha hx hb' q => XS.iinc ha hx rfl (hb hb' hd) hl hl' q) G
theorem s_goto {o : Int} (W : Wk p l e R s m args below meth c Z a0 EL n0 kn wd own bytes ml ws T h k n) (hd : decode bytes pc = .ok (.goto o, 3)) (ho : 0 ≤ (pc : Int) + o) (hp : ((pc : Int) + o).toNat = pc') (G : Go p e below Φ T (mkF m pc' Ls st)) : Go p e below Φ T (mkF m pc Ls st) := by
  subst hp
  exact g1 W (fun t ha hx hb' q => XS.goto ha hx rfl rfl (hb hb' hd) ho rfl q) G
theorem s_ifeq {o : Int} {pc1 pc2 : Nat} {x : Int32} (W : Wk p l e R s m args below meth c Z a0 EL n0 kn wd own bytes ml ws T h k n) (hd : decode bytes pc = .ok (.ifCond .eq o, 3)) (ho : 0 ≤ (pc : Int) + o) (hp1 : ((pc : Int) + o).toNat = pc1) (hp2 : pc + 3 = pc2) (G1 : x = (0 : Int32) → Go p e below Φ T (mkF m pc1 Ls rest)) (G2 : ¬ x = (0 : Int32) → Go p e below Φ T (mkF m pc2 Ls rest)) : Go p e below Φ T (mkF m pc Ls (.int x :: rest)) := by
  subst hp1 hp2
  by_cases q : x = (0 : Int32)
  · exact g1 W (fun t ha hx hb' q' => XS.ifYes ha hx rfl rfl (hb hb' hd) rfl ((if0 _ _).trans (teq q).1) ho rfl q') (G1 q)
  · have q : ¬ x = (0 : Int32) := by first | exact q | exact Classical.not_not.mp q
    exact g1 W (fun t ha hx hb' q' => XS.ifNo ha hx rfl (hb hb' hd) rfl ((if0 _ _).trans (feq q).1) q') (G2 q)
theorem s_icmpeq {o : Int} {pc1 pc2 : Nat} {x y : Int32} (W : Wk p l e R s m args below meth c Z a0 EL n0 kn wd own bytes ml ws T h k n) (hd : decode bytes pc = .ok (.if_icmp .eq o, 3)) (ho : 0 ≤ (pc : Int) + o) (hp1 : ((pc : Int) + o).toNat = pc1) (hp2 : pc + 3 = pc2) (G1 : x = y → Go p e below Φ T (mkF m pc1 Ls rest)) (G2 : ¬ x = y → Go p e below Φ T (mkF m pc2 Ls rest)) : Go p e below Φ T (mkF m pc Ls (.int y :: .int x :: rest)) := by
  subst hp1 hp2
  by_cases q : x = y
  · exact g1 W (fun t ha hx hb' q' => XS.icmpYes ha hx rfl rfl (hb hb' hd) rfl (teq q).1 ho rfl q') (G1 q)
  · have q : ¬ x = y := by first | exact q | exact Classical.not_not.mp q
    exact g1 W (fun t ha hx hb' q' => XS.icmpNo ha hx rfl (hb hb' hd) rfl (feq q).1 q') (G2 q)
theorem s_ifne {o : Int} {pc1 pc2 : Nat} {x : Int32} (W : Wk p l e R s m args below meth c Z a0 EL n0 kn wd own bytes ml ws T h k n) (hd : decode bytes pc = .ok (.ifCond .ne o, 3)) (ho : 0 ≤ (pc : Int) + o) (hp1 : ((pc : Int) + o).toNat = pc1) (hp2 : pc + 3 = pc2) (G1 : ¬ x = (0 : Int32) → Go p e below Φ T (mkF m pc1 Ls rest)) (G2 : x = (0 : Int32) → Go p e below Φ T (mkF m pc2 Ls rest)) : Go p e below Φ T (mkF m pc Ls (.int x :: rest)) := by
  subst hp1 hp2
  by_cases q : ¬ x = (0 : Int32)
  · exact g1 W (fun t ha hx hb' q' => XS.ifYes ha hx rfl rfl (hb hb' hd) rfl ((if0 _ _).trans (feq q).2) ho rfl q') (G1 q)
  · have q : x = (0 : Int32) := by first | exact q | exact Classical.not_not.mp q
    exact g1 W (fun t ha hx hb' q' => XS.ifNo ha hx rfl (hb hb' hd) rfl ((if0 _ _).trans (teq q).2) q') (G2 q)
theorem s_icmpne {o : Int} {pc1 pc2 : Nat} {x y : Int32} (W : Wk p l e R s m args below meth c Z a0 EL n0 kn wd own bytes ml ws T h k n) (hd : decode bytes pc = .ok (.if_icmp .ne o, 3)) (ho : 0 ≤ (pc : Int) + o) (hp1 : ((pc : Int) + o).toNat = pc1) (hp2 : pc + 3 = pc2) (G1 : ¬ x = y → Go p e below Φ T (mkF m pc1 Ls rest)) (G2 : x = y → Go p e below Φ T (mkF m pc2 Ls rest)) : Go p e below Φ T (mkF m pc Ls (.int y :: .int x :: rest)) := by
  subst hp1 hp2
  by_cases q : ¬ x = y
  · exact g1 W (fun t ha hx hb' q' => XS.icmpYes ha hx rfl rfl (hb hb' hd) rfl (feq q).2 ho rfl q') (G1 q)
  · have q : x = y := by first | exact q | exact Classical.not_not.mp q
    exact g1 W (fun t ha hx hb' q' => XS.icmpNo ha hx rfl (hb hb' hd) rfl (teq q).2 q') (G2 q)
theorem s_iflt {o : Int} {pc1 pc2 : Nat} {x : Int32} (W : Wk p l e R s m args below meth c Z a0 EL n0 kn wd own bytes ml ws T h k n) (hd : decode bytes pc = .ok (.ifCond .lt o, 3)) (ho : 0 ≤ (pc : Int) + o) (hp1 : ((pc : Int) + o).toNat = pc1) (hp2 : pc + 3 = pc2) (G1 : x < (0 : Int32) → Go p e below Φ T (mkF m pc1 Ls rest)) (G2 : ¬ x < (0 : Int32) → Go p e below Φ T (mkF m pc2 Ls rest)) : Go p e below Φ T (mkF m pc Ls (.int x :: rest)) := by
  subst hp1 hp2
  by_cases q : x < (0 : Int32)
  · exact g1 W (fun t ha hx hb' q' => XS.ifYes ha hx rfl rfl (hb hb' hd) rfl ((if0 _ _).trans (tlt q).1) ho rfl q') (G1 q)
  · have q : ¬ x < (0 : Int32) := by first | exact q | exact Classical.not_not.mp q
    exact g1 W (fun t ha hx hb' q' => XS.ifNo ha hx rfl (hb hb' hd) rfl ((if0 _ _).trans (flt q).1) q') (G2 q)
theorem s_icmplt {o : Int} {pc1 pc2 : Nat} {x y : Int32} (W : Wk p l e R s m args below meth c Z a0 EL n0 kn wd own bytes ml ws T h k n) (hd : decode bytes pc = .ok (.if_icmp .lt o, 3)) (ho : 0 ≤ (pc : Int) + o) (hp1 : ((pc : Int) + o).toNat = pc1) (hp2 : pc + 3 = pc2) (G1 : x < y → Go p e below Φ T (mkF m pc1 Ls rest)) (G2 : ¬ x < y → Go p e below Φ T (mkF m pc2 Ls rest)) : Go p e below Φ T (mkF m pc Ls (.int y :: .int x :: rest)) := by
  subst hp1 hp2
  by_cases q : x < y
  · exact g1 W (fun t ha hx hb' q' => XS.icmpYes ha hx rfl rfl (hb hb' hd) rfl (tlt q).1 ho rfl q') (G1 q)
  · have q : ¬ x < y := by first | exact q | exact Classical.not_not.mp q
    exact g1 W (fun t ha hx hb' q' => XS.icmpNo ha hx rfl (hb hb' hd) rfl (flt q).1 q') (G2 q)
theorem s_ifge {o : Int} {pc1 pc2 : Nat} {x : Int32} (W : Wk p l e R s m args below meth c Z a0 EL n0 kn wd own bytes ml ws T h k n) (hd : decode bytes pc = .ok (.ifCond .ge o, 3)) (ho : 0 ≤ (pc : Int) + o) (hp1 : ((pc : Int) + o).toNat = pc1) (hp2 : pc + 3 = pc2) (G1 : ¬ x < (0 : Int32) → Go p e below Φ T (mkF m pc1 Ls rest)) (G2 : x < (0 : Int32) → Go p e below Φ T (mkF m pc2 Ls rest)) : Go p e below Φ T (mkF m pc Ls (.int x :: rest)) := by
  subst hp1 hp2
  by_cases q : ¬ x < (0 : Int32)
  · exact g1 W (fun t ha hx hb' q' => XS.ifYes ha hx rfl rfl (hb hb' hd) rfl ((if0 _ _).trans (flt q).2.1) ho rfl q') (G1 q)
  · have q : x < (0 : Int32) := by first | exact q | exact Classical.not_not.mp q
    exact g1 W (fun t ha hx hb' q' => XS.ifNo ha hx rfl (hb hb' hd) rfl ((if0 _ _).trans (tlt q).2.1) q') (G2 q)
theorem s_icmpge {o : Int} {pc1 pc2 : Nat} {x y : Int32} (W : Wk p l e R s m args below meth c Z a0 EL n0 kn wd own bytes ml ws T h k n) (hd : decode bytes pc = .ok (.if_icmp .ge o, 3)) (ho : 0 ≤ (pc : Int) + o) (hp1 : ((pc : Int) + o).toNat = pc1) (hp2 : pc + 3 = pc2) (G1 : ¬ x < y → Go p e below Φ T (mkF m pc1 Ls rest)) (G2 : x < y → Go p e below Φ T (mkF m pc2 Ls rest)) : Go p e below Φ T (mkF m pc Ls (.int y :: .int x :: rest)) := by
  subst hp1 hp2
  by_cases q : ¬ x < y
  · exact g1 W (fun t ha hx hb' q' => XS.icmpYes ha hx rfl rfl (hb hb' hd) rfl (flt q).2.1 ho rfl q') (G1 q)
  · have q : x < y := by first | exact q | exact Classical.not_not.mp q
    exact g1 W (fun t ha hx hb' q' => XS.icmpNo ha hx rfl (hb hb' hd) rfl (tlt q).2.1 q') (G2 q)
theorem s_ifgt {o : Int} {pc1 pc2 : Nat} {x : Int32} (W : Wk p l e R s m args below meth c Z a0 EL n0 kn wd own bytes ml ws T h k n) (hd : decode bytes pc = .ok (.ifCond .gt o, 3)) (ho : 0 ≤ (pc : Int) + o) (hp1 : ((pc : Int) + o).toNat = pc1) (hp2 : pc + 3 = pc2) (G1 : (0 : Int32) < x → Go p e below Φ T (mkF m pc1 Ls rest)) (G2 : ¬ (0 : Int32) < x → Go p e below Φ T (mkF m pc2 Ls rest)) : Go p e below Φ T (mkF m pc Ls (.int x :: rest)) := by
  subst hp1 hp2
  by_cases q : (0 : Int32) < x
  · exact g1 W (fun t ha hx hb' q' => XS.ifYes ha hx rfl rfl (hb hb' hd) rfl ((if0 _ _).trans (tlt q).2.2.1) ho rfl q') (G1 q)
  · have q : ¬ (0 : Int32) < x := by first | exact q | exact Classical.not_not.mp q
    exact g1 W (fun t ha hx hb' q' => XS.ifNo ha hx rfl (hb hb' hd) rfl ((if0 _ _).trans (flt q).2.2.1) q') (G2 q)
theorem s_icmpgt {o : Int} {pc1 pc2 : Nat} {x y : Int32} (W : Wk p l e R s m args below meth c Z a0 EL n0 kn wd own bytes ml ws T h k n) (hd : decode bytes pc = .ok (.if_icmp .gt o, 3)) (ho : 0 ≤ (pc : Int) + o) (hp1 : ((pc : Int) + o).toNat = pc1) (hp2 : pc + 3 = pc2) (G1 : y < x → Go p e below Φ T (mkF m pc1 Ls rest)) (G2 : ¬ y < x → Go p e below Φ T (mkF m pc2 Ls rest)) : Go p e below Φ T (mkF m pc Ls (.int y :: .int x :: rest)) := by
  subst hp1 hp2
  by_cases q : y < x
  · exact g1 W (fun t ha hx hb' q' => XS.icmpYes ha hx rfl rfl (hb hb' hd) rfl (tlt q).2.2.1 ho rfl q') (G1 q)
  · have q : ¬ y < x := by first | exact q | exact Classical.not_not.mp q
    exact g1 W (fun t ha hx hb' q' => XS.icmpNo ha hx rfl (hb hb' hd) rfl (flt q).2.2.1 q') (G2 q)
theorem s_ifle {o : Int} {pc1 pc2 : Nat} {x : Int32} (W : Wk p l e R s m args below meth c Z a0 EL n0 kn wd own bytes ml ws T h k n) (hd : decode bytes pc = .ok (.ifCond .le o, 3)) (ho : 0 ≤ (pc : Int) + o) (hp1 : ((pc : Int) + o).toNat = pc1) (hp2 : pc + 3 = pc2) (G1 : ¬ (0 : Int32) < x → Go p e below Φ T (mkF m pc1 Ls rest)) (G2 : (0 : Int32) < x → Go p e below Φ T (mkF m pc2 Ls rest)) : Go p e below Φ T (mkF m pc Ls (.int x :: rest)) := by
  subst hp1 hp2
  by_cases q : ¬ (0 : Int32) < x
  · exact g1 W (fun t ha hx hb' q' => XS.ifYes ha hx rfl rfl (hb hb' hd) rfl ((if0 _ _).trans (flt q).2.2.2) ho rfl q') (G1 q)
  · have q : (0 : Int32) < x := by first | exact q | exact Classical.not_not.mp q
    exact g1 W (fun t ha hx hb' q' => XS.ifNo ha hx rfl (hb hb' hd) rfl ((if0 _ _).trans (tlt q).2.2.2) q') (G2 q)
theorem s_icmple {o : Int} {pc1 pc2 : Nat} {x y : Int32} (W : Wk p l e R s m args below meth c Z a0 EL n0 kn wd own bytes ml ws T h k n) (hd : decode bytes pc = .ok (.if_icmp .le o, 3)) (ho : 0 ≤ (pc : Int) + o) (hp1 : ((pc : Int) + o).toNat = pc1) (hp2 : pc + 3 = pc2) (G1 : ¬ y < x → Go p e below Φ T (mkF m pc1 Ls rest)) (G2 : y < x → Go p e below Φ T (mkF m pc2 Ls rest)) : Go p e below Φ T (mkF m pc Ls (.int y :: .int x :: rest)) := by
  subst hp1 hp2
  by_cases q : ¬ y < x
  · exact g1 W (fun t ha hx hb' q' => XS.icmpYes ha hx rfl rfl (hb hb' hd) rfl (flt q).2.2.2 ho rfl q') (G1 q)
  · have q : y < x := by first | exact q | exact Classical.not_not.mp q
    exact g1 W (fun t ha hx hb' q' => XS.icmpNo ha hx rfl (hb hb' hd) rfl (tlt q).2.2.2 q') (G2 q)
theorem s_ifnull {o : Int} {pc1 pc2 : Nat} {v : Value} (W : Wk p l e R s m args below meth c Z a0 EL n0 kn wd own bytes ml ws T h k n) (hd : decode bytes pc = .ok (.ifnull o, 3)) (hv : v.isRef = true) (ho : 0 ≤ (pc : Int) + o) (hp1 : ((pc : Int) + o).toNat = pc1) (hp2 : pc + 3 = pc2) (G1 : v = .null → Go p e below Φ T (mkF m pc1 Ls rest)) (G2 : ¬ v = .null → Go p e below Φ T (mkF m pc2 Ls rest)) : Go p e below Φ T (mkF m pc Ls (v :: rest)) := by
  subst hp1 hp2
  by_cases q : v = .null
  · exact g1 W (fun t ha hx hb' q' => XT.nullYes ha hx rfl rfl (hb hb' hd) rfl q ho rfl q') (G1 q)
  · have q : ¬ v = .null := by first | exact q | exact Classical.not_not.mp q
    exact g1 W (fun t ha hx hb' q' => XT.nullNo ha hx rfl (hb hb' hd) rfl hv q q') (G2 q)
theorem s_ifnonnull {o : Int} {pc1 pc2 : Nat} {v : Value} (W : Wk p l e R s m args below meth c Z a0 EL n0 kn wd own bytes ml ws T h k n) (hd : decode bytes pc = .ok (.ifnonnull o, 3)) (hv : v.isRef = true) (ho : 0 ≤ (pc : Int) + o) (hp1 : ((pc : Int) + o).toNat = pc1) (hp2 : pc + 3 = pc2) (G1 : ¬ v = .null → Go p e below Φ T (mkF m pc1 Ls rest)) (G2 : v = .null → Go p e below Φ T (mkF m pc2 Ls rest)) : Go p e below Φ T (mkF m pc Ls (v :: rest)) := by
  subst hp1 hp2
  by_cases q : ¬ v = .null
  · exact g1 W (fun t ha hx hb' q' => XT.nonnullYes ha hx rfl rfl (hb hb' hd) rfl hv q ho rfl q') (G1 q)
  · have q : v = .null := by first | exact q | exact Classical.not_not.mp q
    exact g1 W (fun t ha hx hb' q' => XT.nonnullNo ha hx rfl (hb hb' hd) rfl q q') (G2 q)
theorem s_acmpeq {o : Int} {pc1 pc2 : Nat} {v w : Value} (W : Wk p l e R s m args below meth c Z a0 EL n0 kn wd own bytes ml ws T h k n) (hd : decode bytes pc = .ok (.if_acmp .eq o, 3)) (hv : v.isRef = true) (hw' : w.isRef = true) (ho : 0 ≤ (pc : Int) + o) (hp1 : ((pc : Int) + o).toNat = pc1) (hp2 : pc + 3 = pc2) (G1 : v = w → Go p e below Φ T (mkF m pc1 Ls rest)) (G2 : ¬ v = w → Go p e below Φ T (mkF m pc2 Ls rest)) : Go p e below Φ T (mkF m pc Ls (w :: v :: rest)) := by
  subst hp1 hp2
  by_cases q : v = w
  · exact g1 W (fun t ha hx hb' q' => XT.acmpYes ha hx rfl rfl (hb hb' hd) rfl hv hw' (decide_eq_true q) ho rfl q') (G1 q)
  · have q : ¬ v = w := by first | exact q | exact Classical.not_not.mp q
    exact g1 W (fun t ha hx hb' q' => XT.acmpNo ha hx rfl (hb hb' hd) rfl hv hw' (decide_eq_false q) q') (G2 q)
theorem s_acmpne {o : Int} {pc1 pc2 : Nat} {v w : Value} (W : Wk p l e R s m args below meth c Z a0 EL n0 kn wd own bytes ml ws T h k n) (hd : decode bytes pc = .ok (.if_acmp .ne o, 3)) (hv : v.isRef = true) (hw' : w.isRef = true) (ho : 0 ≤ (pc : Int) + o) (hp1 : ((pc : Int) + o).toNat = pc1) (hp2 : pc + 3 = pc2) (G1 : ¬ v = w → Go p e below Φ T (mkF m pc1 Ls rest)) (G2 : v = w → Go p e below Φ T (mkF m pc2 Ls rest)) : Go p e below Φ T (mkF m pc Ls (w :: v :: rest)) := by
  subst hp1 hp2
  by_cases q : ¬ v = w
  · exact g1 W (fun t ha hx hb' q' => XT.acmpYes ha hx rfl rfl (hb hb' hd) rfl hv hw' (decide_eq_true q) ho rfl q') (G1 q)
  · have q : v = w := by first | exact q | exact Classical.not_not.mp q
    exact g1 W (fun t ha hx hb' q' => XT.acmpNo ha hx rfl (hb hb' hd) rfl hv hw' (decide_eq_false (fun r => r q)) q') (G2 q)
theorem s_ldcI {index : Nat} {v : Int32} (W : Wk p l e R s m args below meth c Z a0 EL n0 kn wd own bytes ml ws T h k n) (w : (Jvm.Cond.constant own index v).before a0 Z = true) (hd : decode bytes pc = .ok (.ldc index, 2)) (hp : pc + 2 = pc') (G : Go p e below Φ T (mkF m pc' Ls (.int v :: st))) : Go p e below Φ T (mkF m pc Ls st) := by
  subst hp
  exact g2 W (fun vm0 locs X hx hb' hZ eT hO t q => X.ldcInt hx hO (mv (s := s.setVm vm0) hZ w) (g := mkF m pc Ls st) rfl (hb hb' hd) t q) G
theorem s_ldcJ {index : Nat} {v : Int64} (W : Wk p l e R s m args below meth c Z a0 EL n0 kn wd own bytes ml ws T h k n) (w : (Jvm.Cond.constantLong own index v).before a0 Z = true) (hd : decode bytes pc = .ok (.ldc2_w index, 3)) (hp : pc + 3 = pc') (G : Go p e below Φ T (mkF m pc' Ls (.long v :: st))) : Go p e below Φ T (mkF m pc Ls st) := by
  subst hp
  exact g2 W (fun vm0 locs X hx hb' hZ eT hO t q => X.ldc2Long hx hO (mv (s := s.setVm vm0) hZ w) (g := mkF m pc Ls st) rfl (hb hb' hd) t q) G
theorem s_castNull {index : Nat} (W : Wk p l e R s m args below meth c Z a0 EL n0 kn wd own bytes ml ws T h k n) (hd : decode bytes pc = .ok (.checkcast index, 3)) (hp : pc + 3 = pc') (G : Go p e below Φ T (mkF m pc' Ls (.null :: rest))) : Go p e below Φ T (mkF m pc Ls (.null :: rest)) := by
  subst hp
  exact g2 W (fun vm0 locs X hx hb' hZ eT hO t q => X.checkcastNull hx (g := mkF m pc Ls (.null :: rest)) rfl rfl (hb hb' hd) t q) G
theorem s_instNull {index : Nat} (W : Wk p l e R s m args below meth c Z a0 EL n0 kn wd own bytes ml ws T h k n) (hd : decode bytes pc = .ok (.instanceof index, 3)) (hp : pc + 3 = pc') (G : Go p e below Φ T (mkF m pc' Ls (.int 0 :: rest))) : Go p e below Φ T (mkF m pc Ls (.null :: rest)) := by
  subst hp
  exact g2 W (fun vm0 locs X hx hb' hZ eT hO t q => X.instanceofNull hx (g := mkF m pc Ls (.null :: rest)) rfl rfl (hb hb' hd) t q) G
theorem Go.cast {f f' : JFrame} (q : f = f') (G : Go p e below Φ T f') : Go p e below Φ T f := q ▸ G
end OwnSteps
section OwnNat
theorem natlt {a n : Nat} (q : a < n) : a < n := q
theorem natle {a n : Nat} (q : a ≤ n) : a ≤ n := q
theorem nateq {a n : Nat} (q : a = n) : a = n := q
theorem ane {a b : Nat} (q : a < b ∨ b < a) : a ≠ b := by omega
end OwnNat
section OwnFacts
variable {Z : State} {h h' h0 : Heap} {a b : Addr} {ws : List Addr} {v w : Value}
theorem isRef_cat (q : v.isRef = true) : v.category = 1 := by cases v <;> first | rfl | (simp [Value.isRef] at q)
theorem narrow_ref {ty : FieldType} (q : v.isRef = true) : narrow ty v = v := by cases v <;> first | (simp [Value.isRef] at q; done) | (cases ty <;> rfl)
theorem fits_ref' {ty : FieldType} (ht : ty.isReference = true) (q : v.isRef = true) : fits ty v = true := by cases ty <;> cases v <;> first | rfl | (simp [Value.isRef] at q; done) | (simp [FieldType.isReference] at ht; done)
/-- a String, its byte array, its coder -/
def Str (Z : State) (h : Heap) (a b : Addr) (kb : ClassId) (cd z : Int32) (bs : List Value) : Prop := Exa Z h a "java/lang/String" ∧ Fld Z h a "java/lang/String" "value" "[B" (.ref b) ∧ Fld Z h a "java/lang/String" "coder" "B" (.int cd) ∧ Arv Z h b kb .byte z bs (.int 0)
theorem Str.keep {kb : ClassId} {cd z : Int32} {bs : List Value} (S : Str Z h a b kb cd z bs) (K : Keep h h' ws) (ha : a ∉ ws) (hb : b ∉ ws) : Str Z h' a b kb cd z bs := ⟨S.1.keep K, S.2.1.keep K ha, S.2.2.1.keep K ha, S.2.2.2.keep K hb⟩
theorem Str.ext {kb : ClassId} {cd z : Int32} {bs : List Value} (S : Str Z h a b kb cd z bs) (E : Ext h h') : Str Z h' a b kb cd z bs := ⟨S.1.ext E, S.2.1.ext E, S.2.2.1.ext E, S.2.2.2.ext E⟩
theorem Unt.keep' (U : Unt h a) (K : Keep h h' ws) (q : a ∉ ws) : Unt h' a := Unt.keep K q U
def One1 (s : Slot) : Prop := s = .unset ∨ ∃ v, s = .val v ∧ v.category = 1
theorem One1.i (x : Int32) : One1 (.val (.int x)) := Or.inr ⟨_, rfl, rfl⟩
theorem One1.u : One1 .unset := Or.inl rfl
theorem n32 {j : Nat} (q : j < 2147483648) : j.toInt32.toInt = (j : Int) := Int32.toInt_ofNat_small (by omega)
theorem n32c {j : Nat} (q : j < 2147483648) : j.toInt32.toNatClampNeg = j := by
  show j.toInt32.toInt.toNat = j
  rw [n32 q]; exact Int.toNat_natCast j
theorem n32s (j : Nat) : j.toInt32 + (1 : Int32) = (j + 1).toInt32 := (Int32.ofNat_add j 1).symm
theorem set_last (vs : List Value) (d x : Value) {j : Nat} (q : j = vs.length) : (vs ++ List.replicate 1 d).set j x = vs ++ [x] := by
  subst q; simp
theorem take_succ' (f : Int32 → Value) (cs : List Int32) {j : Nat} (q : j < cs.length) : (cs.take (j + 1)).map f = (cs.take j).map f ++ [f cs[j]] := by
  rw [List.take_succ_eq_append_getElem q, List.map_append]; rfl
theorem getD_map' (f : Int32 → Value) (cs : List Int32) (d : Value) {j : Nat} (q : j < cs.length) : (cs.map f).getD j d = f cs[j] := by
  rw [List.getD_eq_getElem?_getD, List.getElem?_map, List.getElem?_eq_getElem q]; rfl
theorem lt32 {x y : Int32} (q : x.toInt < y.toInt) : x < y := Int32.lt_iff_toInt_lt.mpr q
theorem nlt32 {x y : Int32} (q : ¬ x.toInt < y.toInt) : ¬ x < y := fun r => q (Int32.lt_iff_toInt_lt.mp r)
theorem eq32 {x y : Int32} (q : x.toInt = y.toInt) : x = y := Int32.toInt_inj.mp q
theorem zero32 : (0 : Int32).toInt = 0 := by decide
end OwnFacts
section OwnWords
theorem allC {P : Jvm.Cond → Prop} {y : Jvm.Cond} {L : List Jvm.Cond} (q : P y) (r : ∀ x ∈ L, P x) : ∀ x ∈ y :: L, P x := fun x z => (List.mem_cons.mp z).elim (fun u => u ▸ q) (r x)
theorem allC0 {P : Jvm.Cond → Prop} : ∀ x ∈ ([] : List Jvm.Cond), P x := fun _ q => nomatch q
end OwnWords
section OwnStr
variable {Z : State} {h h' h0 : Heap} {a b : Addr} {ws : List Addr} {v w : Value} {a0 : Array Value}
theorem Str.uniq {d1 d2 : Addr} {k1 k2 : ClassId} {cd1 cd2 z1 z2 : Int32} {xs1 xs2 : List Int32} (S1 : Str Z h a d1 k1 cd1 z1 (xs1.map Value.int)) (S2 : Str Z h a d2 k2 cd2 z2 (xs2.map Value.int)) (l1 : z1.toInt = xs1.length) (l2 : z2.toInt = xs2.length) : cd1 = cd2 ∧ xs1 = xs2 := by
  have hd : d1 = d2 := by
    by_cases q : d1 = d2
    · exact q
    · exact absurd rfl (S1.2.1.ne S2.2.1 (fun r => q (Value.ref.inj r)))
  have hc : cd1 = cd2 := by
    by_cases q : cd1 = cd2
    · exact q
    · exact absurd rfl (S1.2.2.1.ne S2.2.2.1 (fun r => q (Value.int.inj r)))
  subst hd
  refine ⟨hc, ?_⟩
  have e1 : z1.toNatClampNeg = xs1.length := by show z1.toInt.toNat = _; omega
  have e2 : z2.toNatClampNeg = xs2.length := by show z2.toInt.toNat = _; omega
  have hl : xs1.length = xs2.length := by
    by_cases q : z1.toNatClampNeg = z2.toNatClampNeg
    · rw [← e1, ← e2]; exact q
    · exact absurd rfl (arv_ne S1.2.2.2 S2.2.2.2 (Or.inl q))
  refine List.ext_getElem hl fun i q1 q2 => ?_
  by_cases q : xs1[i] = xs2[i]
  · exact q
  · refine absurd rfl (arv_ne S1.2.2.2 S2.2.2.2 (Or.inr ⟨i, by omega, ?_⟩))
    rw [getD_map' _ _ _ q1, getD_map' _ _ _ q2]
    exact fun r => q (Value.int.inj r)
/-- null, or a String of these bytes -/
def NSt (Z : State) (h : Heap) (w : Value) (o : Option (List Int32)) : Prop := match o with
  | none => w = .null
  | some xs => ∃ (a d : Addr) (kd : ClassId) (z : Int32), w = .ref a ∧ z.toInt = xs.length ∧ xs.length ≤ 64 ∧ Str Z h a d kd 0 z (xs.map Value.int)
theorem NSt.ref {o : Option (List Int32)} (N : NSt Z h w o) : w.isRef = true := by
  cases o with
  | none => cases N; rfl
  | some xs => obtain ⟨a, d, kd, z, rfl, -⟩ := N; rfl
theorem NSt.ext {o : Option (List Int32)} (N : NSt Z h w o) (E : Ext h h') : NSt Z h' w o := by
  cases o with
  | none => exact N
  | some xs => obtain ⟨a, d, kd, z, h1, h2, h3, S⟩ := N; exact ⟨a, d, kd, z, h1, h2, h3, S.ext E⟩
theorem NSt.keep0 {o : Option (List Int32)} (N : NSt Z h w o) (K : Keep h h' []) : NSt Z h' w o := by
  cases o with
  | none => exact N
  | some xs => obtain ⟨a, d, kd, z, h1, h2, h3, S⟩ := N; exact ⟨a, d, kd, z, h1, h2, h3, S.keep K nin0 nin0⟩
theorem NSt.keepX {o : Option (List Int32)} {C : String} {nn : Nat} (N : NSt Z h w o) (E : Exa Z h b C) (hC : C ≠ "java/lang/String") (wi : (Jvm.Cond.instantiable C nn).before a0 Z = true) (K : Keep h h' [b]) : NSt Z h' w o := by
  cases o with
  | none => exact N
  | some xs =>
    obtain ⟨a, d, kd, z, h1, h2, h3, S⟩ := N
    exact ⟨a, d, kd, z, h1, h2, h3, S.keep K (ninS (Ne.symm (ne_exa E S.1 hC)) nin0) (ninS (Ne.symm (E.neArv S.2.2.2 wi)) nin0)⟩
end OwnStr
section OwnChars
theorem byteCharF : ∀ n : Fin 256, nar .char (((Int32.ofNat n.val).toInt8.toInt32 &&& (255 : Int32)).toUInt32.toUInt16.toUInt32.toInt32) = Int32.ofNat n.val := by decide +kernel
theorem byteChar {c : Int32} (q : 0 ≤ c.toInt ∧ c.toInt < 256) : nar .char ((c.toInt8.toInt32 &&& (255 : Int32)).toUInt32.toUInt16.toUInt32.toInt32) = c := by
  have e : c = Int32.ofNat c.toInt.toNat := eq32 (by rw [show (Int32.ofNat c.toInt.toNat).toInt = _ from n32 (by omega)]; omega)
  rw [e]
  exact byteCharF ⟨c.toInt.toNat, by omega⟩
end OwnChars
section OwnChars2
theorem nar_charF : ∀ n : Fin 256, nar .char (Int32.ofNat n.val) = Int32.ofNat n.val := by decide +kernel
theorem nar_char {c : Int32} (q : 0 ≤ c.toInt ∧ c.toInt < 256) : nar .char c = c := by
  have e : c = Int32.ofNat c.toInt.toNat := eq32 (by rw [show (Int32.ofNat c.toInt.toNat).toInt = _ from n32 (by omega)]; omega)
  rw [e]
  exact nar_charF ⟨c.toInt.toNat, by omega⟩
end OwnChars2
section OwnBits
theorem and_nat (x : Int32) {k : Nat} (hk : k < 2147483648) : ∃ n : Nat, n ≤ k ∧ x &&& Int32.ofNat k = Int32.ofNat n := by
  refine ⟨x.toBitVec.toNat &&& k, Nat.and_le_right, ?_⟩
  apply Int32.toBitVec_inj.mp
  apply BitVec.eq_of_toNat_eq
  have e1 : (Int32.ofNat k).toBitVec.toNat = k := by
    show (BitVec.ofNat 32 k).toNat = k
    rw [BitVec.toNat_ofNat]; exact Nat.mod_eq_of_lt (by omega)
  have e2 : (Int32.ofNat (x.toBitVec.toNat &&& k)).toBitVec.toNat = x.toBitVec.toNat &&& k := by
    show (BitVec.ofNat 32 (x.toBitVec.toNat &&& k)).toNat = _
    rw [BitVec.toNat_ofNat]; exact Nat.mod_eq_of_lt (Nat.lt_of_le_of_lt Nat.and_le_right (by omega))
  rw [e2]
  show (x.toBitVec &&& (Int32.ofNat k).toBitVec).toNat = _
  rw [BitVec.toNat_and, e1]
theorem ofN {j : Nat} (q : j < 2147483648) : (Int32.ofNat j).toInt = (j : Int) := n32 q
theorem rem_nat {n k : Nat} (hn : n < 2147483648) (hk : k < 2147483648) : Int32.ofNat n % Int32.ofNat k = Int32.ofNat (n % k) := by
  apply eq32
  rw [Int32.toInt_mod, ofN hn, ofN hk, ofN (Nat.lt_of_le_of_lt (Nat.mod_le n k) hn)]
  exact (Int.ofNat_tmod n k).symm
theorem ofN_add {j k : Nat} (q : j + k < 2147483648) : Int32.ofNat j + Int32.ofNat k = Int32.ofNat (j + k) := (Int32.ofNat_add j k).symm
end OwnBits
section OwnLayer3
variable {p : Program} {l : Launch} {e : Env} {R : Room} {s : State} {m : MethodId} {args : Array Value} {below : List Frame} {meth : Method} {c : Code} {Z : State} {a0 : Array Value} {EL : List (String × Nat)} {n0 : Nat} {kn wd : Bool} {own : String} {bytes : ByteArray} {ml : Nat} {ws : List Addr} {T : State} {h : Heap} {k n : Nat} {Φ : Outcome → State → Prop} {pc pc' : Nat} {Ls : Array Slot} {st rest : List Value}
/-- aastore -/
theorem gStA {a : Addr} {kA : ClassId} {ty : FieldType} {z j : Int32} {v : Value} {vs : List Value} {dv : Value} (W : Wk p l e R s m args below meth c Z a0 EL n0 kn wd own bytes ml ws T h k n) (hn : n0 ≤ a) (A : Arv Z h a kA ty z vs dv) (hty : ty.isReference = true) (F : Sto Z h a v) (hfit : fits ty v = true) (hj : ¬ j < 0 ∧ j < z) {i : Nat} (hi : j.toNatClampNeg = i) (hv : i < vs.length)
    (hd : decode bytes pc = .ok (.aastore, 1)) (hp : pc + 1 = pc') (G : ∀ T' h', Wk p l e R s m args below meth c Z a0 EL n0 kn wd own bytes ml ws T' h' k n → Keep h h' [a] → Arv Z h' a kA ty z (vs.set i v) dv → Go p e below Φ T' (mkF m pc' Ls rest)) : Go p e below Φ T (mkF m pc Ls (v :: .int j :: .ref a :: rest)) := by
  subst hp
  obtain ⟨cl, Ar, q1, S, q3, H, Gf⟩ := A
  have hne : ty ≠ .byte := by rintro rfl; exact absurd hty (by decide)
  exact g4 W hn (Or.inr (Or.inr (Or.inr ⟨cl, ty, Ar, hne⟩))) (fun vm0 locs X hx hb' hZ eT hO => stR X hx hZ eT Ar (j := j) (v := v) (inb_of S hj) hty F (g := mkF m pc Ls (v :: .int j :: .ref a :: rest)) rfl rfl (hb hb' hd))
    (fun T' h' W' w => G T' h' W' (Keep.of_wr w) (Arv.set Ar q1 S q3 H Gf hfit w i hi hv))
/-- System.arraycopy -/
theorem gCopy {index : Nat} {a b : Addr} {kA kB : ClassId} {ty ty' : FieldType} {z z' sp dp nn : Int32} {vs vd us : List Value} {dv dd : Value} {wt : Nat} (W : Wk p l e R s m args below meth c Z a0 EL n0 kn wd own bytes ml ws T h k n)
    (w1 : (Jvm.Cond.methodLink own index Jvm.Stand.acN).before a0 Z = true) (w2 : (Jvm.Cond.native Jvm.Stand.acN).before a0 Z = true) (w3 : (Jvm.Cond.static Jvm.Stand.acN).before a0 Z = true) (w4 : (Jvm.Cond.initialized "java/lang/System").before a0 Z = true)
    (A : Arv Z h a kA ty z vs dv) (B : Arv Z h b kB ty' z' vd dd) (hty : (ty = ty' ∧ refKind ty = false) ∨ (refKind ty = true ∧ refKind ty' = true ∧ StoL Z h b us)) (h1 : ¬ sp < 0) (h2 : ¬ dp < 0) (h3 : ¬ nn < 0) (h4 : sp.toNatClampNeg + nn.toNatClampNeg ≤ z.toNatClampNeg) (h5 : dp.toNatClampNeg + nn.toNatClampNeg ≤ z'.toNatClampNeg)
    (hus : us = (List.range nn.toNatClampNeg).map fun i => vs.getD (sp.toNatClampNeg + i) dv) (hl : dp.toNatClampNeg + nn.toNatClampNeg ≤ vd.length) (hn : n0 ≤ b) (hsf : Sf Z EL ws h b)
    (hd : decode bytes pc = .ok (.invokestatic index, 3)) (hp : pc + 3 = pc') (hsz : Ls.size = ml) (hf : 1 ≤ R.frames) (hW : (rest.map fun v => v.category).sum ≤ wt) (hlo : wt + (nativeFrameWords "java/lang/System" "arraycopy" 5 + 11) ≤ R.locals)
    (G : ∀ T' h', Wk p l e R s m args below meth c Z a0 EL n0 kn wd own bytes ml ws T' h' k n → Keep h h' [b] → Arv Z h' b kB ty' z' (vd.take dp.toNatClampNeg ++ us ++ vd.drop (dp.toNatClampNeg + nn.toNatClampNeg)) dd → Go p e below Φ T' (mkF m pc' Ls rest)) : Go p e below Φ T (mkF m pc Ls (.int nn :: .int dp :: .ref b :: .int sp :: .ref a :: rest)) := by
  subst hp
  obtain ⟨⟨hx, hb', hml, hO, hrest⟩, vm0, k0, locs, X, eT, hS, hk, hZ, hC, hws, hF, hwd, hOl⟩ := W
  have sa := hsf.safe hZ hws
  obtain ⟨T', h', L, X', e', F', K, V, q⟩ := cpA X hx hZ ((hZ.alike.findClass own _).trans hO) w1 w2 w3 w4 eT A B hty h1 h2 h3 h4 h5 hus hl hF hn (g := mkF m pc Ls (.int nn :: .int dp :: .ref b :: .int sp :: .ref a :: rest)) rfl (hsz.trans hml.symm) rfl (hb hb' hd) hf (W := wt) (by simpa using hW) hlo
  have sb : ∀ x ∈ [b], Safe Z EL vm0 h x := fun x q => by rw [List.mem_singleton.mp q]; exact sa
  have hC2 := CHr.keep K sb hC.1
  exact (G T' h' ⟨⟨hx, hb', hml, hO, hrest⟩, vm0, k0, L, X', e', hS, Nat.le_trans hk K.1, hZ, hC.trans hC2, fun x hx' => ⟨Nat.lt_of_lt_of_le (hws x hx').1 K.1, hC2.safe (hws x hx').1 (hws x hx').2⟩, F', hwd, hOl.keep K (fun x q => by rw [List.mem_singleton.mp q]; exact hn)⟩ K V).back q
/-- a private method -/
theorem gPriv {index : Nat} {y y0 : MethodName} {C0 : String} {bytes' : ByteArray} {ml' : Nat} {ret' : Option FieldType} {rm : Room} {ws' : List Addr} {as' : Array Value} {Q : Option Value → Heap → Prop} {argsL : List Value} {a : Addr} {C' : String} {wt : Nat} {ps : List FieldType} {rt : Option FieldType} (W : Wk p l e R s m args below meth c Z a0 EL n0 kn wd own bytes ml ws T h k n) (E : Exa Z h a C')
    (w1 : (Jvm.Cond.methodLink own index y).before a0 Z = true) (w2 : (Jvm.Cond.instanceMethod y).before a0 Z = true) (w5 : (Jvm.Cond.privateMethod y).before a0 Z = true) (w6 : (Jvm.Cond.selects C0 y0 y0).before a0 Z = true) (hcls : y0.cls = y.cls) (w3 : (Jvm.Cond.initialized y.cls).before a0 Z = true) (w4 : (Jvm.Cond.code y bytes' ml' ret').before a0 Z = true) (hy : y.cls ≠ "java/lang/invoke/MethodHandle" ∧ y.cls ≠ "java/lang/invoke/VarHandle") (hdsc : parseMethodDescriptor y.desc = some ⟨ps, rt⟩)
    (C : Ct l Z a0 EL n0 kn wd y bytes' ml' ret' [] rm ws' as' h Q) (hsub : ∀ x ∈ ws', x ∈ ws) (hd : decode bytes pc = .ok (.invokevirtual index, 3)) (hp : pc + 3 = pc') (hsz : Ls.size = ml) (has : (.ref a :: argsL).toArray = as') (hlen : argsL.length = ps.length) (hst : st = argsL.reverse ++ .ref a :: rest) (hW : (rest.map fun v => v.category).sum ≤ wt)
    (hf : rm.frames + 1 ≤ R.frames) (hl : wt + (ml' + 11) + rm.locals ≤ R.locals) (hc : k + rm.cells ≤ R.cells) (hs : n + rm.slots ≤ R.slots)
    (G : ∀ v T' h', Wk p l e R s m args below meth c Z a0 EL n0 kn wd own bytes ml ws T' h' (k + rm.cells) (n + rm.slots) → h.size ≤ h'.size → Q v h' → Go p e below Φ T' (mkF m pc' Ls (v.toList ++ rest))) : Go p e below Φ T (mkF m pc Ls st) := by
  subst hp has
  obtain ⟨hall, vm0, k0, locs, X, eT, hS, hk, hZ, hC, hws, hF, hwd, hOl⟩ := W
  have hall' := hall
  obtain ⟨hx, hb', hml, hO, hE, hlk, hkn⟩ := hall'
  have hkn' : kn = true → vm0.MethodsKnown ∧ vm0.FramesKnown below := fun q => known_vm hS.1 (hkn q)
  obtain ⟨cq, kq, qa, qb, qc⟩ := isOf (s := s.setVm vm0) hZ eT E
  obtain ⟨cell, hcell, -, hst0⟩ := qc
  have hobj : ∀ q, cell.vm ≠ .statics q := fun q e => by rw [e] at hst0; cases hst0
  obtain ⟨c2, r2, m2, -, -, q3, -, kP, hkP, hkPi⟩ := Cond.selects_spec (mv (s := s.setVm vm0) (args := args) hZ w6)
  have hpr := Cond.privateMethod_at (mvP (s := s.setVm vm0) (args := args) hZ w5)
  have hsel := selects_self_of_private (args := args) (by rw [← hcls]; exact findClass_of_methodNamed q3) hkP hkPi hpr (mv (s := s.setVm vm0) hZ w2) hy
  obtain ⟨v, vm₁, ⟨T', L', c', n'⟩, -, X', h2, hg, ⟨L, hQ, hF', l', y', z', hC', hwd', hOl'⟩, stp⟩ := X.privateBackS hx (y := y) ((hZ.alike.findClass own _).trans hO) (mv (s := s.setVm vm0) hZ w1) (mv (s := s.setVm vm0) hZ w2) hsel hpr (mv (s := s.setVm vm0) hZ w4) hy
    (C.backS (p := p) (e := e) (R := R) (s := s) (args := args) (below := below) (wt := wt) hZ w4 w3 hf hl hE hC.1 hOl (fun x q => hws x (hsub x q)) hkn') (g := mkF m pc Ls st) rfl (hsz.trans hml.symm) (Steps.refl _) hcell hobj (argsL := argsL) (rest := rest) (lenOf hdsc hlen) hst (by simpa using hW) (hb hb' hd) (fun _ _ => ⟨rfl, eT, hc, hs⟩)
  dsimp only [Pt.U, Pt.locs, Pt.cells, Pt.slots] at X' h2 hg l' y' z' stp hQ hC' hwd' hOl'
  subst l' y' z'
  rw [eT] at hg
  exact (G v T' T'.heap (Wk.after hall hS hk hZ hC hws hF hwd X' h2 hg hF' hC' hwd' hOl') hg hQ).back fun t q => stp.trans q
theorem Arv.sto {a y : Addr} {kA : ClassId} {ty : FieldType} {z : Int32} {vs : List Value} {dv : Value} {C : String} (A : Arv Z h a kA ty z vs dv) (O : Ovr Z kA C) (I : Ins Z h y C true) : Sto Z h a (.ref y) := by
  obtain ⟨cl, Ar, q1, -⟩ := A
  exact Sto.ofV Ar q1 O I
/-- a contract whose result, if a reference, is no booked constant's -/
def PoS (s : State) (Z : State) (EL : List (String × Nat)) (n0 : Nat) (wd : Bool) (rc rs : Nat) (Q : Option Value → Heap → Prop) (o : Outcome) (t : State) : Prop := Po s Z EL n0 wd rc rs Q o t ∧ ∀ a, o = .returned (some (.ref a)) → a < t.heap.size ∧ Safe Z EL t.vm t.heap a
def CtS (l : Launch) (Z : State) (a0 : Array Value) (EL : List (String × Nat)) (n0 : Nat) (kn wd : Bool) (y : MethodName) (bytes : ByteArray) (ml : Nat) (ret : Option FieldType) (cs : List Jvm.Cond) (rm : Room) (ws : List Addr) (as' : Array Value) (h : Heap) (Q : Option Value → Heap → Prop) : Prop :=
  MetFree l y (head1 (Jvm.Cond.code y bytes ml ret :: cs) rm) (fun a U => a = as' ∧ Z.Warmed39 U.vm ∧ U.heap = h ∧ CHv Z EL U.vm h ∧ Old Z n0 h ∧ ∀ x ∈ ws, x < h.size ∧ Safe Z EL U.vm h x) (fun _ _ bl s _ => kn = true → s.vm.MethodsKnown ∧ s.vm.FramesKnown bl) (fun _ U o U' => PoS U Z EL n0 wd rm.cells rm.slots Q o U')
theorem gRetAS {a : Addr} {t : FieldType} {rc rs : Nat} {Q : Option Value → Heap → Prop} (W : Wk p l e R s m args below meth c Z a0 EL n0 kn wd own bytes ml ws T h k n) (hin : a ∈ ws) (hret : meth.sig.returnType = some t) (ht : t.isReference = true) (hd : decode bytes pc = .ok (.areturn, 1)) (hk : k ≤ rc) (hn : n ≤ rs) (hq : Q (some (.ref a)) h) :
    Go p e below (PoS s Z EL n0 wd rc rs Q) T (mkF m pc Ls (.ref a :: rest)) := by
  obtain ⟨⟨hx, hb', hml, hO, hE, hlk, hrest⟩, vm0, k0, locs, X, eT, hS, hk0, hZ, hC, hws, hF, hwd, hOl⟩ := W
  obtain ⟨fs, hr, hrun, hend, hret'⟩ := X.leaveW (v := some (.ref a)) hS (by rw [eT]; exact hk0) (fun q => by rw [hret] at q; cases q) hlk
  have q1 := CHv.at X hZ hE hC.1
  have q := hC.trans q1
  refine ⟨T.setFrames fs, _, ?_, hrun, hend, ⟨some (.ref a), locs, rfl, by rw [show (T.setFrames fs).heap = T.heap from rfl, eT]; exact hq, hF, ?_, fun q => State.WarmedH.trans (hwd q) (show (s.setVm vm0).WarmedH T.vm from X.warmed), by rw [show (T.setFrames fs).heap = T.heap from rfl, eT]; exact hOl, hret'.1, hret'.2.1, hret'.2.2.1, hret'.2.2.2.mono hk hn⟩, ?_⟩
  · have hd' := hb hb' hd
    have hv : (Value.ref a).isRef = true := rfl
    jvm_step X.here [X.here.top, hx, hd', X.method', hret, ht, hv]
    first | (intro acts; rw [hr _ acts rfl rfl rfl]) | rw [hr _ _ rfl rfl rfl]
    exact Steps.refl _
  · rw [show (T.setFrames fs).heap = T.heap from rfl, show (T.setFrames fs).vm = T.vm from rfl, eT]
    exact q
  · intro b eb
    cases eb
    rw [show (T.setFrames fs).heap = T.heap from rfl, show (T.setFrames fs).vm = T.vm from rfl, eT]
    exact ⟨(hws a hin).1, q1.safe (hws a hin).1 (hws a hin).2⟩
theorem CtS.backS {y : MethodName} {bytes' : ByteArray} {ml' : Nat} {ret' : Option FieldType} {rm : Room} {ws' : List Addr} {as' : Array Value} {Q : Option Value → Heap → Prop} {len wt : Nat} {vm0 : Vm} (C : CtS l Z a0 EL n0 kn wd y bytes' ml' ret' [] rm ws' as' h Q)
    (hZ : Z.Warmed39 vm0) (wc : (Jvm.Cond.code y bytes' ml' ret').before a0 Z = true) (wz : (Jvm.Cond.initialized y.cls).before a0 Z = true) (hf : rm.frames + 1 ≤ R.frames) (hl : wt + (ml' + 11) + rm.locals ≤ R.locals) (hEL : EW Z a0 EL) (H : CHv Z EL vm0 h) (hOl : Old Z n0 h) (hws : ∀ x ∈ ws', x < h.size ∧ Safe Z EL vm0 h x) (hkn : kn = true → vm0.MethodsKnown ∧ vm0.FramesKnown below) :
    BackS l R p e below (s.setVm vm0) args y len wt (fun A a => a = as' ∧ A.U.heap = h ∧ A.cells + rm.cells ≤ R.cells ∧ A.slots + rm.slots ≤ R.slots)
      (fun A _ v B => ∃ L, Q v B.U.heap ∧ Fr n0 L ∧ B.locs = A.locs ++ L ∧ B.cells = A.cells + rm.cells ∧ B.slots = A.slots + rm.slots ∧ CHr Z EL vm0 h B.U.vm B.U.heap ∧ (wd = false → (s.setVm vm0).WarmedH B.U.vm) ∧ Old Z n0 B.U.heap ∧ ∀ a, v = some (.ref a) → a < B.U.heap.size ∧ Safe Z EL B.U.vm B.U.heap a) := by
  refine BackS.of_freeWG (bytes := bytes') (maxL := ml') (ret := ret') (E := fun _ first o t L k n => k = rm.cells ∧ n = rm.slots ∧ (∃ v, o = .returned v ∧ Q v t.heap ∧ Fr n0 L) ∧ CHr Z EL first.vm first.heap t.vm t.heap ∧ (wd = false → first.WarmedH t.vm) ∧ Old Z n0 t.heap ∧ ∀ a, o = .returned (some (.ref a)) → a < t.heap.size ∧ Safe Z EL t.vm t.heap a) C hf hl ?_ ?_ ?_ ?_ ?_
  · intro m meth c A a Y hp
    have hU : Z.Warmed39 A.U.vm := wtrans (s := s.setVm vm0) hZ Y.warmed
    exact ⟨by show (Jvm.Cond.and _ .tt).before a A.U = true; rw [Cond.before_and, mv hU wc]; rfl, mv hU wc, mv hU wz, hp.2.2.1, hp.2.2.2⟩
  · intro m meth c A a g mk Y hp
    have q := CHv.at Y hZ hEL H
    exact ⟨hp.1, wtrans (s := s.setVm vm0) hZ Y.warmed, hp.2.1, q.1, hOl, fun x hx => ⟨(hws x hx).1, q.safe (hws x hx).1 (hws x hx).2⟩⟩
  · intro m meth c A a g mk Y _ hg q
    exact known_frames Y hg (hkn q).1 (hkn q).2
  · intro a first o t hq
    obtain ⟨⟨v, L, h1, h2, h3, h4, h5, h7, h6⟩, h8⟩ := hq
    exact ⟨L, _, _, h6, rfl, rfl, ⟨v, h1, h2, h3⟩, h4, h5, h7, h8⟩
  · intro m meth c A a g mk v t L k n Y hp _ _ hE
    obtain ⟨e1, e2, ⟨v', e3, e4, e5⟩, e6, e7, e8, e9⟩ := hE
    cases e3; subst e1 e2
    refine ⟨L, e4, e5, rfl, rfl, rfl, (CHv.at Y hZ hEL H).trans ?_, fun q => State.WarmedH.trans Y.warmed (show A.U.WarmedH _ from e7 q), e8, fun a q => e9 a (by rw [q])⟩
    rw [← hp.2.1]; exact e6
theorem gStaticS {index : Nat} {y : MethodName} {bytes' : ByteArray} {ml' : Nat} {ret' : Option FieldType} {rm : Room} {ws' : List Addr} {as' : Array Value} {Q : Option Value → Heap → Prop} {argsL : List Value} {wt : Nat} {ps : List FieldType} {rt : Option FieldType} (W : Wk p l e R s m args below meth c Z a0 EL n0 kn wd own bytes ml ws T h k n)
    (w1 : (Jvm.Cond.methodLink own index y).before a0 Z = true) (w2 : (Jvm.Cond.static y).before a0 Z = true) (w3 : (Jvm.Cond.initialized y.cls).before a0 Z = true) (w4 : (Jvm.Cond.code y bytes' ml' ret').before a0 Z = true) (hy : y.cls ≠ "java/lang/invoke/MethodHandle" ∧ y.cls ≠ "java/lang/invoke/VarHandle") (hdsc : parseMethodDescriptor y.desc = some ⟨ps, rt⟩)
    (C : CtS l Z a0 EL n0 kn wd y bytes' ml' ret' [] rm ws' as' h Q) (hsub : ∀ x ∈ ws', x ∈ ws) (hd : decode bytes pc = .ok (.invokestatic index, 3)) (hp : pc + 3 = pc') (hsz : Ls.size = ml) (has : argsL.toArray = as') (hlen : argsL.length = ps.length) (hst : st = argsL.reverse ++ rest) (hW : (rest.map fun v => v.category).sum ≤ wt)
    (hf : rm.frames + 1 ≤ R.frames) (hl : wt + (ml' + 11) + rm.locals ≤ R.locals) (hc : k + rm.cells ≤ R.cells) (hs : n + rm.slots ≤ R.slots)
    (G : ∀ v T' h', (∀ ws2 : List Addr, (∀ x ∈ ws2, x ∈ ws ∨ v = some (.ref x)) → Wk p l e R s m args below meth c Z a0 EL n0 kn wd own bytes ml ws2 T' h' (k + rm.cells) (n + rm.slots)) → h.size ≤ h'.size → Q v h' → Go p e below Φ T' (mkF m pc' Ls (v.toList ++ rest))) : Go p e below Φ T (mkF m pc Ls st) := by
  subst hp has
  obtain ⟨hall, vm0, k0, locs, X, eT, hS, hk, hZ, hC, hws, hF, hwd, hOl⟩ := W
  have hall' := hall
  obtain ⟨hx, hb', hml, hO, hE, hlk, hkn⟩ := hall'
  have hkn' : kn = true → vm0.MethodsKnown ∧ vm0.FramesKnown below := fun q => known_vm hS.1 (hkn q)
  obtain ⟨v, vm₁, ⟨T', L', c', n'⟩, -, X', h2, hg, ⟨L, hQ, hF', l', y', z', hC', hwd', hOl', hSf⟩, stp⟩ := callSS X hx (y := y) ((hZ.alike.findClass own _).trans hO) (mv (s := s.setVm vm0) hZ w1) (mv (s := s.setVm vm0) hZ w2) (mv (s := s.setVm vm0) hZ w3) (mv (s := s.setVm vm0) hZ w4) hy
    (C.backS (p := p) (e := e) (R := R) (s := s) (args := args) (below := below) (wt := wt) hZ w4 w3 hf hl hE hC.1 hOl (fun x q => hws x (hsub x q)) hkn') (g := mkF m pc Ls st) rfl (hsz.trans hml.symm) (argsL := argsL) (rest := rest) (lenOf hdsc hlen) hst (by simpa using hW) (hb hb' hd) (fun _ _ => ⟨rfl, eT, hc, hs⟩)
  dsimp only [Pt.U, Pt.locs, Pt.cells, Pt.slots] at X' h2 hg l' y' z' stp hQ hC' hwd' hOl' hSf
  subst l' y' z'
  rw [eT] at hg
  exact (G v T' T'.heap (fun ws2 hw2 => ⟨hall, T'.vm, T'.heap.size, locs ++ L, X', rfl, hS.trans h2 (Nat.le_trans hk hg), Nat.le_refl _, State.Warmed39.trans (t := s.setVm vm0) hZ h2.1, hC.trans hC', fun x hx => (hw2 x hx).elim (fun q => ⟨Nat.lt_of_lt_of_le (hws x q).1 hg, hC'.safe (hws x q).1 (hws x q).2⟩) (fun q => hSf x q), hF.app hF', (fun q => State.WarmedH.trans (hwd q) (hwd' q)), hOl'⟩) hg hQ).back fun t q => stp.trans q
theorem CtS.of {y : MethodName} {ret : Option FieldType} {cs : List Jvm.Cond} {rm : Room} {as' : Array Value} {Q : Option Value → Heap → Prop} (hpl : plainFor y = true) (hEL : EW Z a0 EL)
    (body : ∀ (p : Program) (e : Env) (s : State) (m : MethodId) (below : List Frame) (meth : Method) (c : Code) (T : State), Wk p l e rm s m as' below meth c Z a0 EL n0 kn wd y.cls bytes ml ws T h 0 0 → meth.sig.returnType = ret → meth.name = y.name → s.heap = h → Go p e below (PoS s Z EL n0 wd rm.cells rm.slots Q) T (entryFrame m as' ml)) :
    CtS l Z a0 EL n0 kn wd y bytes ml ret cs rm ws as' h Q := by
  refine MetFree.of_bodySF hpl hisR ?_
  intro p e s m args below meth c s₁ Bd hml hP hK
  obtain ⟨rfl, hZ, hh, hC, hOl, hws⟩ := hP
  have hown : s.vm.findClass y.cls = some m.cls := findClass_of_methodNamed Bd.named
  have X0 := Stand.of_body Bd
  have e0 : s₁.heap = h := by rw [← hh, Bd.state]; rfl
  have hO : Z.vm.findClass y.cls = some m.cls := by rw [← hZ.alike.findClass]; exact hown
  have hst : s₁.vm = s.vm := by rw [Bd.state]; rfl
  refine body p e s m below meth c s₁ ⟨⟨Bd.exec, Bd.bytes, hml, hO, hEL, BodyLoose.notSynchronized Bd, hK⟩, s.vm, 0, [], X0, e0, (State.WarmedH.refl s).since _, Nat.zero_le _, hZ, ?_, hws, Fr.nil n0, (fun _ => State.WarmedH.refl s), hOl⟩ Bd.returns (name_of_methodNamed Bd.named Bd.method).1 hh
  rw [hh]
  exact CHr.refl hC
/-- ldc of a String constant, nothing said of it -/
theorem gLdcO {index : Nat} {text : String} {nn : Nat} (W : Wk p l e R s m args below meth c Z a0 EL n0 kn true own bytes ml ws T h k n) (w : (Jvm.Cond.stringLink own index text).before a0 Z = true) (wS : ∀ a ∈ Bundle.stringAtoms, a.before a0 Z = true)
    (hd : decode bytes pc = .ok (.ldc index, 2)) (hp : pc + 2 = pc') (hn : 4 * text.toList.length ≤ nn) (hbig : nn ≤ 536870912) (hc : k + 2 ≤ R.cells) (hl : n + (nn + 4) ≤ R.slots)
    (G : ∀ T' h' a, Wk p l e R s m args below meth c Z a0 EL n0 kn true own bytes ml ws T' h' (k + 2) (n + (nn + 4)) → Ext h h' → Go p e below Φ T' (mkF m pc' Ls (.ref a :: st))) : Go p e below Φ T (mkF m pc Ls st) := by
  subst hp
  obtain ⟨⟨hx, hb', hml, hO, hE, hrest⟩, vm0, k0, locs, X, eT, hS, hk, hZ, hC, hws, hF, hwd, hOl⟩ := W
  obtain ⟨a, T', h', k1, X', e', E, hS', hk', hZ', -, hC', -, q⟩ := ldcOH X hx hZ ((hZ.alike.findClass own _).trans hO) w wS eT hS hk hE hC.1 (g := mkF m pc Ls st) rfl (hb hb' hd) hn hbig hc hl
  have sz : ∀ x ∈ ws, x < h'.size ∧ Safe Z EL T'.vm h' x := fun x hx' => ⟨Nat.lt_of_lt_of_le (hws x hx').1 E.1, hC'.safe (hws x hx').1 (hws x hx').2⟩
  exact (G T' h' a ⟨⟨hx, hb', hml, hO, hE, hrest⟩, T'.vm, k1, locs, X', e', hS', hk', hZ', hC.trans hC', sz, hF, (fun q => by cases q), hOl.ext E⟩ E).back q
end OwnLayer3
abbrev EL0 : List (String × Nat) := [("com/example/trim_rowkey/trimrowkey/StringFieldEncodePinLaw", 32), ("java/lang/String", 7)]
theorem w_0 {Z : State} {a0 : Array Value} (hw : ∀ d ∈ tables_1, d.before a0 Z = true) : (Jvm.Cond.methodLink "com/example/trim_rowkey/trimrowkey/StringFieldEncodePinLaw" (7 : Nat) ({ cls := "com/example/trim_rowkey/trimrowkey/StringFieldEncodePinLaw", name := "pick", desc := "(II)I" } : Jvm.MethodName)).before a0 Z = true := hw _ (List.mem_of_getElem? (i := 0) rfl)
theorem w_1 {Z : State} {a0 : Array Value} (hw : ∀ d ∈ tables_1, d.before a0 Z = true) : (Jvm.Cond.static ({ cls := "com/example/trim_rowkey/trimrowkey/StringFieldEncodePinLaw", name := "pick", desc := "(II)I" } : Jvm.MethodName)).before a0 Z = true := hw _ (List.mem_of_getElem? (i := 1) rfl)
theorem w_2 {Z : State} {a0 : Array Value} (hw : ∀ d ∈ tables_1, d.before a0 Z = true) : (Jvm.Cond.initialized "com/example/trim_rowkey/trimrowkey/StringFieldEncodePinLaw").before a0 Z = true := hw _ (List.mem_of_getElem? (i := 2) rfl)
theorem w_3 {Z : State} {a0 : Array Value} (hw : ∀ d ∈ tables_1, d.before a0 Z = true) : (Jvm.Cond.code ({ cls := "com/example/trim_rowkey/trimrowkey/StringFieldEncodePinLaw", name := "pick", desc := "(II)I" } : Jvm.MethodName) method_3_code (4 : Nat) (Option.some Jvm.ClassFile.FieldType.int)).before a0 Z = true := hw _ (List.mem_of_getElem? (i := 3) rfl)
theorem w_4 {Z : State} {a0 : Array Value} (hw : ∀ d ∈ tables_1, d.before a0 Z = true) : (Jvm.Cond.constant "com/example/trim_rowkey/trimrowkey/StringFieldEncodePinLaw" (45 : Nat) (2147483647 : Int32)).before a0 Z = true := hw _ (List.mem_of_getElem? (i := 4) rfl)
theorem w_5 {Z : State} {a0 : Array Value} (hw : ∀ d ∈ tables_1, d.before a0 Z = true) : (Jvm.Cond.constant "com/example/trim_rowkey/trimrowkey/StringFieldEncodePinLaw" (46 : Nat) (61440 : Int32)).before a0 Z = true := hw _ (List.mem_of_getElem? (i := 5) rfl)
theorem w_6 {Z : State} {a0 : Array Value} (hw : ∀ d ∈ tables_1, d.before a0 Z = true) : (Jvm.Cond.constant "com/example/trim_rowkey/trimrowkey/StringFieldEncodePinLaw" (47 : Nat) (55296 : Int32)).before a0 Z = true := hw _ (List.mem_of_getElem? (i := 6) rfl)
theorem w_7 {Z : State} {a0 : Array Value} (hw : ∀ d ∈ tables_1, d.before a0 Z = true) : (Jvm.Cond.methodLink "com/example/trim_rowkey/trimrowkey/StringFieldEncodePinLaw" (13 : Nat) ({ cls := "java/lang/Math", name := "min", desc := "(II)I" } : Jvm.MethodName)).before a0 Z = true := hw _ (List.mem_of_getElem? (i := 7) rfl)
theorem w_8 {Z : State} {a0 : Array Value} (hw : ∀ d ∈ tables_1, d.before a0 Z = true) : (Jvm.Cond.static ({ cls := "java/lang/Math", name := "min", desc := "(II)I" } : Jvm.MethodName)).before a0 Z = true := hw _ (List.mem_of_getElem? (i := 8) rfl)
theorem w_9 {Z : State} {a0 : Array Value} (hw : ∀ d ∈ tables_1, d.before a0 Z = true) : (Jvm.Cond.initialized "java/lang/Math").before a0 Z = true := hw _ (List.mem_of_getElem? (i := 9) rfl)
theorem w_10 {Z : State} {a0 : Array Value} (hw : ∀ d ∈ tables_1, d.before a0 Z = true) : (Jvm.Cond.code ({ cls := "java/lang/Math", name := "min", desc := "(II)I" } : Jvm.MethodName) jdk_29_method_69_code (2 : Nat) (Option.some Jvm.ClassFile.FieldType.int)).before a0 Z = true := hw _ (List.mem_of_getElem? (i := 10) rfl)
theorem w_11 {Z : State} {a0 : Array Value} (hw : ∀ d ∈ tables_1, d.before a0 Z = true) : (Jvm.Cond.arrayClass Jvm.ClassFile.FieldType.char).before a0 Z = true := hw _ (List.mem_of_getElem? (i := 11) rfl)
theorem w_12 {Z : State} {a0 : Array Value} (hw : ∀ d ∈ tables_1, d.before a0 Z = true) : (Jvm.Cond.arrayClass Jvm.ClassFile.FieldType.byte).before a0 Z = true := hw _ (List.mem_of_getElem? (i := 12) rfl)
theorem w_13 {Z : State} {a0 : Array Value} (hw : ∀ d ∈ tables_1, d.before a0 Z = true) : (Jvm.Cond.methodLink "com/example/trim_rowkey/trimrowkey/StringFieldEncodePinLaw" (26 : Nat) ({ cls := "com/example/trim_rowkey/trimrowkey/StringFieldEncodePinLaw", name := "str", desc := "([CI)Ljava/lang/String;" } : Jvm.MethodName)).before a0 Z = true := hw _ (List.mem_of_getElem? (i := 13) rfl)
theorem w_14 {Z : State} {a0 : Array Value} (hw : ∀ d ∈ tables_1, d.before a0 Z = true) : (Jvm.Cond.static ({ cls := "com/example/trim_rowkey/trimrowkey/StringFieldEncodePinLaw", name := "str", desc := "([CI)Ljava/lang/String;" } : Jvm.MethodName)).before a0 Z = true := hw _ (List.mem_of_getElem? (i := 14) rfl)
theorem w_15 {Z : State} {a0 : Array Value} (hw : ∀ d ∈ tables_1, d.before a0 Z = true) : (Jvm.Cond.code ({ cls := "com/example/trim_rowkey/trimrowkey/StringFieldEncodePinLaw", name := "str", desc := "([CI)Ljava/lang/String;" } : Jvm.MethodName) method_6_code (2 : Nat) (Option.some (Jvm.ClassFile.FieldType.object "java/lang/String"))).before a0 Z = true := hw _ (List.mem_of_getElem? (i := 15) rfl)
theorem w_16 {Z : State} {a0 : Array Value} (hw : ∀ d ∈ tables_1, d.before a0 Z = true) : (Jvm.Cond.classLink "com/example/trim_rowkey/trimrowkey/StringFieldEncodePinLaw" (51 : Nat) "java/lang/String").before a0 Z = true := hw _ (List.mem_of_getElem? (i := 16) rfl)
theorem w_17 {Z : State} {a0 : Array Value} (hw : ∀ d ∈ tables_1, d.before a0 Z = true) : (Jvm.Cond.instantiable "java/lang/String" (4 : Nat)).before a0 Z = true := hw _ (List.mem_of_getElem? (i := 17) rfl)
theorem w_18 {Z : State} {a0 : Array Value} (hw : ∀ d ∈ tables_1, d.before a0 Z = true) : (Jvm.Cond.initialized "java/lang/String").before a0 Z = true := hw _ (List.mem_of_getElem? (i := 18) rfl)
theorem w_19 {Z : State} {a0 : Array Value} (hw : ∀ d ∈ tables_1, d.before a0 Z = true) : (Jvm.Cond.methodLink "com/example/trim_rowkey/trimrowkey/StringFieldEncodePinLaw" (53 : Nat) ({ cls := "java/lang/String", name := "<init>", desc := "([C)V" } : Jvm.MethodName)).before a0 Z = true := hw _ (List.mem_of_getElem? (i := 19) rfl)
theorem w_20 {Z : State} {a0 : Array Value} (hw : ∀ d ∈ tables_1, d.before a0 Z = true) : (Jvm.Cond.instanceMethod ({ cls := "java/lang/String", name := "<init>", desc := "([C)V" } : Jvm.MethodName)).before a0 Z = true := hw _ (List.mem_of_getElem? (i := 20) rfl)
theorem w_21 {Z : State} {a0 : Array Value} (hw : ∀ d ∈ tables_1, d.before a0 Z = true) : (Jvm.Cond.code ({ cls := "java/lang/String", name := "<init>", desc := "([C)V" } : Jvm.MethodName) jdk_42_method_3_code (2 : Nat) (Option.none : Option Jvm.ClassFile.FieldType)).before a0 Z = true := hw _ (List.mem_of_getElem? (i := 21) rfl)
theorem w_22 {Z : State} {a0 : Array Value} (hw : ∀ d ∈ tables_1, d.before a0 Z = true) : (Jvm.Cond.methodLink "java/lang/String" (27 : Nat) ({ cls := "java/lang/String", name := "<init>", desc := "([CIILjava/lang/Void;)V" } : Jvm.MethodName)).before a0 Z = true := hw _ (List.mem_of_getElem? (i := 22) rfl)
theorem w_23 {Z : State} {a0 : Array Value} (hw : ∀ d ∈ tables_1, d.before a0 Z = true) : (Jvm.Cond.instanceMethod ({ cls := "java/lang/String", name := "<init>", desc := "([CIILjava/lang/Void;)V" } : Jvm.MethodName)).before a0 Z = true := hw _ (List.mem_of_getElem? (i := 23) rfl)
theorem w_25 {Z : State} {a0 : Array Value} (hw : ∀ d ∈ tables_1, d.before a0 Z = true) : (Jvm.Cond.code ({ cls := "java/lang/String", name := "<init>", desc := "([CIILjava/lang/Void;)V" } : Jvm.MethodName) jdk_42_method_149_code (6 : Nat) (Option.none : Option Jvm.ClassFile.FieldType)).before a0 Z = true := hw _ (List.mem_of_getElem? (i := 25) rfl)
theorem w_26 {Z : State} {a0 : Array Value} (hw : ∀ d ∈ tables_1, d.before a0 Z = true) : (Jvm.Cond.methodLink "java/lang/String" (1 : Nat) ({ cls := "java/lang/Object", name := "<init>", desc := "()V" } : Jvm.MethodName)).before a0 Z = true := hw _ (List.mem_of_getElem? (i := 26) rfl)
theorem w_27 {Z : State} {a0 : Array Value} (hw : ∀ d ∈ tables_1, d.before a0 Z = true) : (Jvm.Cond.instanceMethod ({ cls := "java/lang/Object", name := "<init>", desc := "()V" } : Jvm.MethodName)).before a0 Z = true := hw _ (List.mem_of_getElem? (i := 27) rfl)
theorem w_28 {Z : State} {a0 : Array Value} (hw : ∀ d ∈ tables_1, d.before a0 Z = true) : (Jvm.Cond.code ({ cls := "java/lang/Object", name := "<init>", desc := "()V" } : Jvm.MethodName) object_method_1_code (1 : Nat) (Option.none : Option Jvm.ClassFile.FieldType)).before a0 Z = true := hw _ (List.mem_of_getElem? (i := 28) rfl)
theorem w_29 {Z : State} {a0 : Array Value} (hw : ∀ d ∈ tables_1, d.before a0 Z = true) : (Jvm.Cond.stringLink "java/lang/String" (7 : Nat) "").before a0 Z = true := hw _ (List.mem_of_getElem? (i := 29) rfl)
theorem w_30 {Z : State} {a0 : Array Value} (hw : ∀ d ∈ tables_1, d.before a0 Z = true) : (Jvm.Cond.laysFinal "java/lang/String" "java/lang/String" "value" "[B").before a0 Z = true := hw _ (List.mem_of_getElem? (i := 30) rfl)
theorem w_31 {Z : State} {a0 : Array Value} (hw : ∀ d ∈ tables_1, d.before a0 Z = true) : (Jvm.Cond.laysFinal "java/lang/String" "java/lang/String" "coder" "B").before a0 Z = true := hw _ (List.mem_of_getElem? (i := 31) rfl)
theorem w_32 {Z : State} {a0 : Array Value} (hw : ∀ d ∈ tables_1, d.before a0 Z = true) : (Jvm.Cond.soleField "java/lang/String" "value").before a0 Z = true := hw _ (List.mem_of_getElem? (i := 32) rfl)
theorem w_33 {Z : State} {a0 : Array Value} (hw : ∀ d ∈ tables_1, d.before a0 Z = true) : (Jvm.Cond.soleField "java/lang/String" "coder").before a0 Z = true := hw _ (List.mem_of_getElem? (i := 33) rfl)
theorem w_34 {Z : State} {a0 : Array Value} (hw : ∀ d ∈ tables_1, d.before a0 Z = true) : (Jvm.Cond.fieldLink "java/lang/String" (9 : Nat) "java/lang/String" "value" "[B").before a0 Z = true := hw _ (List.mem_of_getElem? (i := 34) rfl)
theorem w_35 {Z : State} {a0 : Array Value} (hw : ∀ d ∈ tables_1, d.before a0 Z = true) : (Jvm.Cond.fieldLink "java/lang/String" (15 : Nat) "java/lang/String" "coder" "B").before a0 Z = true := hw _ (List.mem_of_getElem? (i := 35) rfl)
theorem w_36 {Z : State} {a0 : Array Value} (hw : ∀ d ∈ tables_1, d.before a0 Z = true) : (Jvm.Cond.classLink "com/example/trim_rowkey/trimrowkey/StringFieldEncodePinLaw" (30 : Nat) "com/example/trim_rowkey/trimrowkey/StringField").before a0 Z = true := hw _ (List.mem_of_getElem? (i := 36) rfl)
theorem w_37 {Z : State} {a0 : Array Value} (hw : ∀ d ∈ tables_1, d.before a0 Z = true) : (Jvm.Cond.instantiable "com/example/trim_rowkey/trimrowkey/StringField" (2 : Nat)).before a0 Z = true := hw _ (List.mem_of_getElem? (i := 37) rfl)
theorem w_38 {Z : State} {a0 : Array Value} (hw : ∀ d ∈ tables_1, d.before a0 Z = true) : (Jvm.Cond.initialized "com/example/trim_rowkey/trimrowkey/StringField").before a0 Z = true := hw _ (List.mem_of_getElem? (i := 38) rfl)
theorem w_39 {Z : State} {a0 : Array Value} (hw : ∀ d ∈ tables_1, d.before a0 Z = true) : (Jvm.Cond.stringLink "com/example/trim_rowkey/trimrowkey/StringFieldEncodePinLaw" (32 : Nat) "f").before a0 Z = true := hw _ (List.mem_of_getElem? (i := 39) rfl)
theorem w_40 {Z : State} {a0 : Array Value} (hw : ∀ d ∈ tables_1, d.before a0 Z = true) : (Jvm.Cond.methodLink "com/example/trim_rowkey/trimrowkey/StringFieldEncodePinLaw" (34 : Nat) ({ cls := "com/example/trim_rowkey/trimrowkey/StringField", name := "<init>", desc := "(Ljava/lang/String;I)V" } : Jvm.MethodName)).before a0 Z = true := hw _ (List.mem_of_getElem? (i := 40) rfl)
theorem w_41 {Z : State} {a0 : Array Value} (hw : ∀ d ∈ tables_1, d.before a0 Z = true) : (Jvm.Cond.instanceMethod ({ cls := "com/example/trim_rowkey/trimrowkey/StringField", name := "<init>", desc := "(Ljava/lang/String;I)V" } : Jvm.MethodName)).before a0 Z = true := hw _ (List.mem_of_getElem? (i := 41) rfl)
theorem w_42 {Z : State} {a0 : Array Value} (hw : ∀ d ∈ tables_1, d.before a0 Z = true) : (Jvm.Cond.code ({ cls := "com/example/trim_rowkey/trimrowkey/StringField", name := "<init>", desc := "(Ljava/lang/String;I)V" } : Jvm.MethodName) prog_9_method_1_code (3 : Nat) (Option.none : Option Jvm.ClassFile.FieldType)).before a0 Z = true := hw _ (List.mem_of_getElem? (i := 42) rfl)
theorem w_43 {Z : State} {a0 : Array Value} (hw : ∀ d ∈ tables_1, d.before a0 Z = true) : (Jvm.Cond.methodLink "com/example/trim_rowkey/trimrowkey/StringField" (1 : Nat) ({ cls := "com/example/trim_rowkey/trimrowkey/Field", name := "<init>", desc := "(Ljava/lang/String;I)V" } : Jvm.MethodName)).before a0 Z = true := hw _ (List.mem_of_getElem? (i := 43) rfl)
theorem w_44 {Z : State} {a0 : Array Value} (hw : ∀ d ∈ tables_1, d.before a0 Z = true) : (Jvm.Cond.instanceMethod ({ cls := "com/example/trim_rowkey/trimrowkey/Field", name := "<init>", desc := "(Ljava/lang/String;I)V" } : Jvm.MethodName)).before a0 Z = true := hw _ (List.mem_of_getElem? (i := 44) rfl)
theorem w_46 {Z : State} {a0 : Array Value} (hw : ∀ d ∈ tables_1, d.before a0 Z = true) : (Jvm.Cond.initialized "com/example/trim_rowkey/trimrowkey/Field").before a0 Z = true := hw _ (List.mem_of_getElem? (i := 46) rfl)
theorem w_47 {Z : State} {a0 : Array Value} (hw : ∀ d ∈ tables_1, d.before a0 Z = true) : (Jvm.Cond.code ({ cls := "com/example/trim_rowkey/trimrowkey/Field", name := "<init>", desc := "(Ljava/lang/String;I)V" } : Jvm.MethodName) prog_3_method_1_code (3 : Nat) (Option.none : Option Jvm.ClassFile.FieldType)).before a0 Z = true := hw _ (List.mem_of_getElem? (i := 47) rfl)
theorem w_48 {Z : State} {a0 : Array Value} (hw : ∀ d ∈ tables_1, d.before a0 Z = true) : (Jvm.Cond.methodLink "com/example/trim_rowkey/trimrowkey/Field" (1 : Nat) ({ cls := "java/lang/Object", name := "<init>", desc := "()V" } : Jvm.MethodName)).before a0 Z = true := hw _ (List.mem_of_getElem? (i := 48) rfl)
theorem w_49 {Z : State} {a0 : Array Value} (hw : ∀ d ∈ tables_1, d.before a0 Z = true) : (Jvm.Cond.fieldLink "com/example/trim_rowkey/trimrowkey/Field" (7 : Nat) "com/example/trim_rowkey/trimrowkey/Field" "name" "Ljava/lang/String;").before a0 Z = true := hw _ (List.mem_of_getElem? (i := 49) rfl)
theorem w_50 {Z : State} {a0 : Array Value} (hw : ∀ d ∈ tables_1, d.before a0 Z = true) : (Jvm.Cond.laysFinal "com/example/trim_rowkey/trimrowkey/StringField" "com/example/trim_rowkey/trimrowkey/Field" "name" "Ljava/lang/String;").before a0 Z = true := hw _ (List.mem_of_getElem? (i := 50) rfl)
theorem w_51 {Z : State} {a0 : Array Value} (hw : ∀ d ∈ tables_1, d.before a0 Z = true) : (Jvm.Cond.fieldLink "com/example/trim_rowkey/trimrowkey/Field" (13 : Nat) "com/example/trim_rowkey/trimrowkey/Field" "width" "I").before a0 Z = true := hw _ (List.mem_of_getElem? (i := 51) rfl)
theorem w_52 {Z : State} {a0 : Array Value} (hw : ∀ d ∈ tables_1, d.before a0 Z = true) : (Jvm.Cond.laysFinal "com/example/trim_rowkey/trimrowkey/StringField" "com/example/trim_rowkey/trimrowkey/Field" "width" "I").before a0 Z = true := hw _ (List.mem_of_getElem? (i := 52) rfl)
theorem w_53 {Z : State} {a0 : Array Value} (hw : ∀ d ∈ tables_1, d.before a0 Z = true) : (Jvm.Cond.methodLink "com/example/trim_rowkey/trimrowkey/StringFieldEncodePinLaw" (37 : Nat) ({ cls := "com/example/trim_rowkey/trimrowkey/StringField", name := "encode", desc := "(Ljava/lang/String;[BI)V" } : Jvm.MethodName)).before a0 Z = true := hw _ (List.mem_of_getElem? (i := 53) rfl)
theorem w_54 {Z : State} {a0 : Array Value} (hw : ∀ d ∈ tables_1, d.before a0 Z = true) : (Jvm.Cond.declares ({ cls := "com/example/trim_rowkey/trimrowkey/StringField", name := "encode", desc := "(Ljava/lang/String;[BI)V" } : Jvm.MethodName)).before a0 Z = true := hw _ (List.mem_of_getElem? (i := 54) rfl)
theorem w_55 {Z : State} {a0 : Array Value} (hw : ∀ d ∈ tables_1, d.before a0 Z = true) : (Jvm.Cond.instanceMethod ({ cls := "com/example/trim_rowkey/trimrowkey/StringField", name := "encode", desc := "(Ljava/lang/String;[BI)V" } : Jvm.MethodName)).before a0 Z = true := hw _ (List.mem_of_getElem? (i := 55) rfl)
theorem w_56 {Z : State} {a0 : Array Value} (hw : ∀ d ∈ tables_1, d.before a0 Z = true) : (Jvm.Cond.selects "com/example/trim_rowkey/trimrowkey/StringField" ({ cls := "com/example/trim_rowkey/trimrowkey/StringField", name := "encode", desc := "(Ljava/lang/String;[BI)V" } : Jvm.MethodName) ({ cls := "com/example/trim_rowkey/trimrowkey/StringField", name := "encode", desc := "(Ljava/lang/String;[BI)V" } : Jvm.MethodName)).before a0 Z = true := hw _ (List.mem_of_getElem? (i := 56) rfl)
theorem w_57 {Z : State} {a0 : Array Value} (hw : ∀ d ∈ tables_1, d.before a0 Z = true) : (Jvm.Cond.code ({ cls := "com/example/trim_rowkey/trimrowkey/StringField", name := "encode", desc := "(Ljava/lang/String;[BI)V" } : Jvm.MethodName) prog_9_method_2_code (11 : Nat) (Option.none : Option Jvm.ClassFile.FieldType)).before a0 Z = true := hw _ (List.mem_of_getElem? (i := 57) rfl)
theorem w_58 {Z : State} {a0 : Array Value} (hw : ∀ d ∈ tables_1, d.before a0 Z = true) : (Jvm.Cond.methodLink "com/example/trim_rowkey/trimrowkey/StringField" (7 : Nat) ({ cls := "com/example/trim_rowkey/trimrowkey/StringField", name := "width", desc := "()I" } : Jvm.MethodName)).before a0 Z = true := hw _ (List.mem_of_getElem? (i := 58) rfl)
theorem w_59 {Z : State} {a0 : Array Value} (hw : ∀ d ∈ tables_1, d.before a0 Z = true) : (Jvm.Cond.sameMethod "com/example/trim_rowkey/trimrowkey/StringField" "com/example/trim_rowkey/trimrowkey/Field" "width" "()I").before a0 Z = true := hw _ (List.mem_of_getElem? (i := 59) rfl)
theorem w_60 {Z : State} {a0 : Array Value} (hw : ∀ d ∈ tables_1, d.before a0 Z = true) : (Jvm.Cond.declares ({ cls := "com/example/trim_rowkey/trimrowkey/Field", name := "width", desc := "()I" } : Jvm.MethodName)).before a0 Z = true := hw _ (List.mem_of_getElem? (i := 60) rfl)
theorem w_61 {Z : State} {a0 : Array Value} (hw : ∀ d ∈ tables_1, d.before a0 Z = true) : (Jvm.Cond.instanceMethod ({ cls := "com/example/trim_rowkey/trimrowkey/Field", name := "width", desc := "()I" } : Jvm.MethodName)).before a0 Z = true := hw _ (List.mem_of_getElem? (i := 61) rfl)
theorem w_62 {Z : State} {a0 : Array Value} (hw : ∀ d ∈ tables_1, d.before a0 Z = true) : (Jvm.Cond.selects "com/example/trim_rowkey/trimrowkey/StringField" ({ cls := "com/example/trim_rowkey/trimrowkey/StringField", name := "width", desc := "()I" } : Jvm.MethodName) ({ cls := "com/example/trim_rowkey/trimrowkey/Field", name := "width", desc := "()I" } : Jvm.MethodName)).before a0 Z = true := hw _ (List.mem_of_getElem? (i := 62) rfl)
theorem w_63 {Z : State} {a0 : Array Value} (hw : ∀ d ∈ tables_1, d.before a0 Z = true) : (Jvm.Cond.code ({ cls := "com/example/trim_rowkey/trimrowkey/Field", name := "width", desc := "()I" } : Jvm.MethodName) prog_3_method_3_code (1 : Nat) (Option.some Jvm.ClassFile.FieldType.int)).before a0 Z = true := hw _ (List.mem_of_getElem? (i := 63) rfl)
theorem w_64 {Z : State} {a0 : Array Value} (hw : ∀ d ∈ tables_1, d.before a0 Z = true) : (Jvm.Cond.methodLink "com/example/trim_rowkey/trimrowkey/StringField" (13 : Nat) ({ cls := "java/lang/String", name := "length", desc := "()I" } : Jvm.MethodName)).before a0 Z = true := hw _ (List.mem_of_getElem? (i := 64) rfl)
theorem w_65 {Z : State} {a0 : Array Value} (hw : ∀ d ∈ tables_1, d.before a0 Z = true) : (Jvm.Cond.declares ({ cls := "java/lang/String", name := "length", desc := "()I" } : Jvm.MethodName)).before a0 Z = true := hw _ (List.mem_of_getElem? (i := 65) rfl)
theorem w_66 {Z : State} {a0 : Array Value} (hw : ∀ d ∈ tables_1, d.before a0 Z = true) : (Jvm.Cond.instanceMethod ({ cls := "java/lang/String", name := "length", desc := "()I" } : Jvm.MethodName)).before a0 Z = true := hw _ (List.mem_of_getElem? (i := 66) rfl)
theorem w_67 {Z : State} {a0 : Array Value} (hw : ∀ d ∈ tables_1, d.before a0 Z = true) : (Jvm.Cond.selects "java/lang/String" ({ cls := "java/lang/String", name := "length", desc := "()I" } : Jvm.MethodName) ({ cls := "java/lang/String", name := "length", desc := "()I" } : Jvm.MethodName)).before a0 Z = true := hw _ (List.mem_of_getElem? (i := 67) rfl)
theorem w_68 {Z : State} {a0 : Array Value} (hw : ∀ d ∈ tables_1, d.before a0 Z = true) : (Jvm.Cond.code ({ cls := "java/lang/String", name := "length", desc := "()I" } : Jvm.MethodName) jdk_42_method_54_code (1 : Nat) (Option.some Jvm.ClassFile.FieldType.int)).before a0 Z = true := hw _ (List.mem_of_getElem? (i := 68) rfl)
theorem w_69 {Z : State} {a0 : Array Value} (hw : ∀ d ∈ tables_1, d.before a0 Z = true) : (Jvm.Cond.methodLink "java/lang/String" (335 : Nat) ({ cls := "java/lang/String", name := "coder", desc := "()B" } : Jvm.MethodName)).before a0 Z = true := hw _ (List.mem_of_getElem? (i := 69) rfl)
theorem w_70 {Z : State} {a0 : Array Value} (hw : ∀ d ∈ tables_1, d.before a0 Z = true) : (Jvm.Cond.declares ({ cls := "java/lang/String", name := "coder", desc := "()B" } : Jvm.MethodName)).before a0 Z = true := hw _ (List.mem_of_getElem? (i := 70) rfl)
theorem w_71 {Z : State} {a0 : Array Value} (hw : ∀ d ∈ tables_1, d.before a0 Z = true) : (Jvm.Cond.instanceMethod ({ cls := "java/lang/String", name := "coder", desc := "()B" } : Jvm.MethodName)).before a0 Z = true := hw _ (List.mem_of_getElem? (i := 71) rfl)
theorem w_72 {Z : State} {a0 : Array Value} (hw : ∀ d ∈ tables_1, d.before a0 Z = true) : (Jvm.Cond.selects "java/lang/String" ({ cls := "java/lang/String", name := "coder", desc := "()B" } : Jvm.MethodName) ({ cls := "java/lang/String", name := "coder", desc := "()B" } : Jvm.MethodName)).before a0 Z = true := hw _ (List.mem_of_getElem? (i := 72) rfl)
theorem w_73 {Z : State} {a0 : Array Value} (hw : ∀ d ∈ tables_1, d.before a0 Z = true) : (Jvm.Cond.code ({ cls := "java/lang/String", name := "coder", desc := "()B" } : Jvm.MethodName) jdk_42_method_152_code (1 : Nat) (Option.some Jvm.ClassFile.FieldType.byte)).before a0 Z = true := hw _ (List.mem_of_getElem? (i := 73) rfl)
theorem w_74 {Z : State} {a0 : Array Value} (hw : ∀ d ∈ tables_1, d.before a0 Z = true) : (Jvm.Cond.fieldLink "java/lang/String" (38 : Nat) "java/lang/String" "COMPACT_STRINGS" "Z").before a0 Z = true := hw _ (List.mem_of_getElem? (i := 74) rfl)
theorem w_75 {Z : State} {a0 : Array Value} (hw : ∀ d ∈ tables_1, d.before a0 Z = true) : (Jvm.Cond.methodLink "com/example/trim_rowkey/trimrowkey/StringFieldEncodePinLaw" (41 : Nat) ({ cls := "com/example/trim_rowkey/trimrowkey/StringFieldEncodePinLaw", name := "same", desc := "([B[B)Z" } : Jvm.MethodName)).before a0 Z = true := hw _ (List.mem_of_getElem? (i := 75) rfl)
theorem w_76 {Z : State} {a0 : Array Value} (hw : ∀ d ∈ tables_1, d.before a0 Z = true) : (Jvm.Cond.static ({ cls := "com/example/trim_rowkey/trimrowkey/StringFieldEncodePinLaw", name := "same", desc := "([B[B)Z" } : Jvm.MethodName)).before a0 Z = true := hw _ (List.mem_of_getElem? (i := 76) rfl)
theorem w_77 {Z : State} {a0 : Array Value} (hw : ∀ d ∈ tables_1, d.before a0 Z = true) : (Jvm.Cond.code ({ cls := "com/example/trim_rowkey/trimrowkey/StringFieldEncodePinLaw", name := "same", desc := "([B[B)Z" } : Jvm.MethodName) method_7_code (2 : Nat) (Option.some Jvm.ClassFile.FieldType.boolean)).before a0 Z = true := hw _ (List.mem_of_getElem? (i := 77) rfl)
theorem w_78 {Z : State} {a0 : Array Value} (hw : ∀ d ∈ tables_1, d.before a0 Z = true) : (Jvm.Cond.methodLink "com/example/trim_rowkey/trimrowkey/StringFieldEncodePinLaw" (18 : Nat) ({ cls := "com/example/trim_rowkey/trimrowkey/StringFieldEncodePinLaw", name := "chars", desc := "([CII)I" } : Jvm.MethodName)).before a0 Z = true := hw _ (List.mem_of_getElem? (i := 78) rfl)
theorem w_79 {Z : State} {a0 : Array Value} (hw : ∀ d ∈ tables_1, d.before a0 Z = true) : (Jvm.Cond.static ({ cls := "com/example/trim_rowkey/trimrowkey/StringFieldEncodePinLaw", name := "chars", desc := "([CII)I" } : Jvm.MethodName)).before a0 Z = true := hw _ (List.mem_of_getElem? (i := 79) rfl)
theorem w_80 {Z : State} {a0 : Array Value} (hw : ∀ d ∈ tables_1, d.before a0 Z = true) : (Jvm.Cond.code ({ cls := "com/example/trim_rowkey/trimrowkey/StringFieldEncodePinLaw", name := "chars", desc := "([CII)I" } : Jvm.MethodName) method_4_code (4 : Nat) (Option.some Jvm.ClassFile.FieldType.int)).before a0 Z = true := hw _ (List.mem_of_getElem? (i := 80) rfl)
theorem w_81 {Z : State} {a0 : Array Value} (hw : ∀ d ∈ tables_1, d.before a0 Z = true) : (Jvm.Cond.constant "com/example/trim_rowkey/trimrowkey/StringFieldEncodePinLaw" (48 : Nat) (65536 : Int32)).before a0 Z = true := hw _ (List.mem_of_getElem? (i := 81) rfl)
theorem w_82 {Z : State} {a0 : Array Value} (hw : ∀ d ∈ tables_1, d.before a0 Z = true) : (Jvm.Cond.methodLink "com/example/trim_rowkey/trimrowkey/StringFieldEncodePinLaw" (22 : Nat) ({ cls := "com/example/trim_rowkey/trimrowkey/StringFieldEncodePinLaw", name := "put", desc := "([BII)I" } : Jvm.MethodName)).before a0 Z = true := hw _ (List.mem_of_getElem? (i := 82) rfl)
theorem w_83 {Z : State} {a0 : Array Value} (hw : ∀ d ∈ tables_1, d.before a0 Z = true) : (Jvm.Cond.static ({ cls := "com/example/trim_rowkey/trimrowkey/StringFieldEncodePinLaw", name := "put", desc := "([BII)I" } : Jvm.MethodName)).before a0 Z = true := hw _ (List.mem_of_getElem? (i := 83) rfl)
theorem w_84 {Z : State} {a0 : Array Value} (hw : ∀ d ∈ tables_1, d.before a0 Z = true) : (Jvm.Cond.code ({ cls := "com/example/trim_rowkey/trimrowkey/StringFieldEncodePinLaw", name := "put", desc := "([BII)I" } : Jvm.MethodName) method_5_code (3 : Nat) (Option.some Jvm.ClassFile.FieldType.int)).before a0 Z = true := hw _ (List.mem_of_getElem? (i := 84) rfl)
theorem w_85 {Z : State} {a0 : Array Value} (hw : ∀ d ∈ tables_1, d.before a0 Z = true) : (Jvm.Cond.methodLink "java/lang/String" (177 : Nat) ({ cls := "java/lang/StringUTF16", name := "compress", desc := "([CII)[B" } : Jvm.MethodName)).before a0 Z = true := hw _ (List.mem_of_getElem? (i := 85) rfl)
theorem w_86 {Z : State} {a0 : Array Value} (hw : ∀ d ∈ tables_1, d.before a0 Z = true) : (Jvm.Cond.static ({ cls := "java/lang/StringUTF16", name := "compress", desc := "([CII)[B" } : Jvm.MethodName)).before a0 Z = true := hw _ (List.mem_of_getElem? (i := 86) rfl)
theorem w_87 {Z : State} {a0 : Array Value} (hw : ∀ d ∈ tables_1, d.before a0 Z = true) : (Jvm.Cond.initialized "java/lang/StringUTF16").before a0 Z = true := hw _ (List.mem_of_getElem? (i := 87) rfl)
theorem w_88 {Z : State} {a0 : Array Value} (hw : ∀ d ∈ tables_1, d.before a0 Z = true) : (Jvm.Cond.code ({ cls := "java/lang/StringUTF16", name := "compress", desc := "([CII)[B" } : Jvm.MethodName) jdk_52_method_16_code (6 : Nat) (Option.some (Jvm.ClassFile.FieldType.array Jvm.ClassFile.FieldType.byte))).before a0 Z = true := hw _ (List.mem_of_getElem? (i := 88) rfl)
theorem w_89 {Z : State} {a0 : Array Value} (hw : ∀ d ∈ tables_1, d.before a0 Z = true) : (Jvm.Cond.methodLink "java/lang/StringUTF16" (115 : Nat) ({ cls := "java/lang/StringUTF16", name := "compress", desc := "([CI[BII)I" } : Jvm.MethodName)).before a0 Z = true := hw _ (List.mem_of_getElem? (i := 89) rfl)
theorem w_90 {Z : State} {a0 : Array Value} (hw : ∀ d ∈ tables_1, d.before a0 Z = true) : (Jvm.Cond.static ({ cls := "java/lang/StringUTF16", name := "compress", desc := "([CI[BII)I" } : Jvm.MethodName)).before a0 Z = true := hw _ (List.mem_of_getElem? (i := 90) rfl)
theorem w_91 {Z : State} {a0 : Array Value} (hw : ∀ d ∈ tables_1, d.before a0 Z = true) : (Jvm.Cond.code ({ cls := "java/lang/StringUTF16", name := "compress", desc := "([CI[BII)I" } : Jvm.MethodName) jdk_52_method_21_code (7 : Nat) (Option.some Jvm.ClassFile.FieldType.int)).before a0 Z = true := hw _ (List.mem_of_getElem? (i := 91) rfl)
theorem w_92 {Z : State} {a0 : Array Value} (hw : ∀ d ∈ tables_1, d.before a0 Z = true) : (Jvm.Cond.methodLink "java/lang/String" (47 : Nat) ({ cls := "java/lang/StringUTF16", name := "coderFromArrayLen", desc := "([BI)B" } : Jvm.MethodName)).before a0 Z = true := hw _ (List.mem_of_getElem? (i := 92) rfl)
theorem w_93 {Z : State} {a0 : Array Value} (hw : ∀ d ∈ tables_1, d.before a0 Z = true) : (Jvm.Cond.static ({ cls := "java/lang/StringUTF16", name := "coderFromArrayLen", desc := "([BI)B" } : Jvm.MethodName)).before a0 Z = true := hw _ (List.mem_of_getElem? (i := 93) rfl)
theorem w_94 {Z : State} {a0 : Array Value} (hw : ∀ d ∈ tables_1, d.before a0 Z = true) : (Jvm.Cond.code ({ cls := "java/lang/StringUTF16", name := "coderFromArrayLen", desc := "([BI)B" } : Jvm.MethodName) jdk_52_method_15_code (2 : Nat) (Option.some Jvm.ClassFile.FieldType.byte)).before a0 Z = true := hw _ (List.mem_of_getElem? (i := 94) rfl)
theorem w_95 {Z : State} {a0 : Array Value} (hw : ∀ d ∈ tables_1, d.before a0 Z = true) : (Jvm.Cond.methodLink "com/example/trim_rowkey/trimrowkey/StringField" (18 : Nat) ({ cls := "java/lang/String", name := "codePointAt", desc := "(I)I" } : Jvm.MethodName)).before a0 Z = true := hw _ (List.mem_of_getElem? (i := 95) rfl)
theorem w_96 {Z : State} {a0 : Array Value} (hw : ∀ d ∈ tables_1, d.before a0 Z = true) : (Jvm.Cond.declares ({ cls := "java/lang/String", name := "codePointAt", desc := "(I)I" } : Jvm.MethodName)).before a0 Z = true := hw _ (List.mem_of_getElem? (i := 96) rfl)
theorem w_97 {Z : State} {a0 : Array Value} (hw : ∀ d ∈ tables_1, d.before a0 Z = true) : (Jvm.Cond.instanceMethod ({ cls := "java/lang/String", name := "codePointAt", desc := "(I)I" } : Jvm.MethodName)).before a0 Z = true := hw _ (List.mem_of_getElem? (i := 97) rfl)
theorem w_98 {Z : State} {a0 : Array Value} (hw : ∀ d ∈ tables_1, d.before a0 Z = true) : (Jvm.Cond.selects "java/lang/String" ({ cls := "java/lang/String", name := "codePointAt", desc := "(I)I" } : Jvm.MethodName) ({ cls := "java/lang/String", name := "codePointAt", desc := "(I)I" } : Jvm.MethodName)).before a0 Z = true := hw _ (List.mem_of_getElem? (i := 98) rfl)
theorem w_99 {Z : State} {a0 : Array Value} (hw : ∀ d ∈ tables_1, d.before a0 Z = true) : (Jvm.Cond.code ({ cls := "java/lang/String", name := "codePointAt", desc := "(I)I" } : Jvm.MethodName) jdk_42_method_57_code (3 : Nat) (Option.some Jvm.ClassFile.FieldType.int)).before a0 Z = true := hw _ (List.mem_of_getElem? (i := 99) rfl)
theorem w_100 {Z : State} {a0 : Array Value} (hw : ∀ d ∈ tables_1, d.before a0 Z = true) : (Jvm.Cond.methodLink "java/lang/String" (492 : Nat) ({ cls := "java/lang/String", name := "isLatin1", desc := "()Z" } : Jvm.MethodName)).before a0 Z = true := hw _ (List.mem_of_getElem? (i := 100) rfl)
theorem w_101 {Z : State} {a0 : Array Value} (hw : ∀ d ∈ tables_1, d.before a0 Z = true) : (Jvm.Cond.declares ({ cls := "java/lang/String", name := "isLatin1", desc := "()Z" } : Jvm.MethodName)).before a0 Z = true := hw _ (List.mem_of_getElem? (i := 101) rfl)
theorem w_102 {Z : State} {a0 : Array Value} (hw : ∀ d ∈ tables_1, d.before a0 Z = true) : (Jvm.Cond.instanceMethod ({ cls := "java/lang/String", name := "isLatin1", desc := "()Z" } : Jvm.MethodName)).before a0 Z = true := hw _ (List.mem_of_getElem? (i := 102) rfl)
theorem w_103 {Z : State} {a0 : Array Value} (hw : ∀ d ∈ tables_1, d.before a0 Z = true) : (Jvm.Cond.selects "java/lang/String" ({ cls := "java/lang/String", name := "isLatin1", desc := "()Z" } : Jvm.MethodName) ({ cls := "java/lang/String", name := "isLatin1", desc := "()Z" } : Jvm.MethodName)).before a0 Z = true := hw _ (List.mem_of_getElem? (i := 103) rfl)
theorem w_104 {Z : State} {a0 : Array Value} (hw : ∀ d ∈ tables_1, d.before a0 Z = true) : (Jvm.Cond.code ({ cls := "java/lang/String", name := "isLatin1", desc := "()Z" } : Jvm.MethodName) jdk_42_method_154_code (1 : Nat) (Option.some Jvm.ClassFile.FieldType.boolean)).before a0 Z = true := hw _ (List.mem_of_getElem? (i := 104) rfl)
theorem w_105 {Z : State} {a0 : Array Value} (hw : ∀ d ∈ tables_1, d.before a0 Z = true) : (Jvm.Cond.methodLink "java/lang/String" (499 : Nat) ({ cls := "java/lang/String", name := "checkIndex", desc := "(II)V" } : Jvm.MethodName)).before a0 Z = true := hw _ (List.mem_of_getElem? (i := 105) rfl)
theorem w_106 {Z : State} {a0 : Array Value} (hw : ∀ d ∈ tables_1, d.before a0 Z = true) : (Jvm.Cond.static ({ cls := "java/lang/String", name := "checkIndex", desc := "(II)V" } : Jvm.MethodName)).before a0 Z = true := hw _ (List.mem_of_getElem? (i := 106) rfl)
theorem w_107 {Z : State} {a0 : Array Value} (hw : ∀ d ∈ tables_1, d.before a0 Z = true) : (Jvm.Cond.code ({ cls := "java/lang/String", name := "checkIndex", desc := "(II)V" } : Jvm.MethodName) jdk_42_method_155_code (2 : Nat) (Option.none : Option Jvm.ClassFile.FieldType)).before a0 Z = true := hw _ (List.mem_of_getElem? (i := 107) rfl)
theorem w_108 {Z : State} {a0 : Array Value} (hw : ∀ d ∈ tables_1, d.before a0 Z = true) : (Jvm.Cond.fieldLink "java/lang/String" (1053 : Nat) "jdk/internal/util/Preconditions" "SIOOBE_FORMATTER" "Ljava/util/function/BiFunction;").before a0 Z = true := hw _ (List.mem_of_getElem? (i := 108) rfl)
theorem w_109 {Z : State} {a0 : Array Value} (hw : ∀ d ∈ tables_1, d.before a0 Z = true) : (Jvm.Cond.initialized "jdk/internal/util/Preconditions").before a0 Z = true := hw _ (List.mem_of_getElem? (i := 109) rfl)
theorem w_110 {Z : State} {a0 : Array Value} (hw : ∀ d ∈ tables_1, d.before a0 Z = true) : (Jvm.Cond.methodLink "java/lang/String" (1059 : Nat) ({ cls := "jdk/internal/util/Preconditions", name := "checkIndex", desc := "(IILjava/util/function/BiFunction;)I" } : Jvm.MethodName)).before a0 Z = true := hw _ (List.mem_of_getElem? (i := 110) rfl)
theorem w_111 {Z : State} {a0 : Array Value} (hw : ∀ d ∈ tables_1, d.before a0 Z = true) : (Jvm.Cond.static ({ cls := "jdk/internal/util/Preconditions", name := "checkIndex", desc := "(IILjava/util/function/BiFunction;)I" } : Jvm.MethodName)).before a0 Z = true := hw _ (List.mem_of_getElem? (i := 111) rfl)
theorem w_112 {Z : State} {a0 : Array Value} (hw : ∀ d ∈ tables_1, d.before a0 Z = true) : (Jvm.Cond.code ({ cls := "jdk/internal/util/Preconditions", name := "checkIndex", desc := "(IILjava/util/function/BiFunction;)I" } : Jvm.MethodName) jdk_41_method_11_code (3 : Nat) (Option.some Jvm.ClassFile.FieldType.int)).before a0 Z = true := hw _ (List.mem_of_getElem? (i := 112) rfl)
theorem w_113 {Z : State} {a0 : Array Value} (hw : ∀ d ∈ tables_1, d.before a0 Z = true) : (Jvm.Cond.methodLink "com/example/trim_rowkey/trimrowkey/StringField" (22 : Nat) ({ cls := "com/example/trim_rowkey/trimrowkey/StringField", name := "utf8Size", desc := "(I)I" } : Jvm.MethodName)).before a0 Z = true := hw _ (List.mem_of_getElem? (i := 113) rfl)
theorem w_114 {Z : State} {a0 : Array Value} (hw : ∀ d ∈ tables_1, d.before a0 Z = true) : (Jvm.Cond.static ({ cls := "com/example/trim_rowkey/trimrowkey/StringField", name := "utf8Size", desc := "(I)I" } : Jvm.MethodName)).before a0 Z = true := hw _ (List.mem_of_getElem? (i := 114) rfl)
theorem w_115 {Z : State} {a0 : Array Value} (hw : ∀ d ∈ tables_1, d.before a0 Z = true) : (Jvm.Cond.code ({ cls := "com/example/trim_rowkey/trimrowkey/StringField", name := "utf8Size", desc := "(I)I" } : Jvm.MethodName) prog_9_method_4_code (2 : Nat) (Option.some Jvm.ClassFile.FieldType.int)).before a0 Z = true := hw _ (List.mem_of_getElem? (i := 115) rfl)
theorem w_116 {Z : State} {a0 : Array Value} (hw : ∀ d ∈ tables_1, d.before a0 Z = true) : (Jvm.Cond.constant "com/example/trim_rowkey/trimrowkey/StringField" (33 : Nat) (55296 : Int32)).before a0 Z = true := hw _ (List.mem_of_getElem? (i := 116) rfl)
theorem w_117 {Z : State} {a0 : Array Value} (hw : ∀ d ∈ tables_1, d.before a0 Z = true) : (Jvm.Cond.fieldLink "com/example/trim_rowkey/trimrowkey/StringField" (63 : Nat) "com/example/trim_rowkey/trimrowkey/StringField" "LEAD_BYTE" "[I").before a0 Z = true := hw _ (List.mem_of_getElem? (i := 117) rfl)
theorem w_118 {Z : State} {a0 : Array Value} (hw : ∀ d ∈ tables_1, d.before a0 Z = true) : (Jvm.Cond.laysStatic "com/example/trim_rowkey/trimrowkey/StringField" "LEAD_BYTE" "[I").before a0 Z = true := hw _ (List.mem_of_getElem? (i := 118) rfl)
theorem w_119 {Z : State} {a0 : Array Value} (hw : ∀ d ∈ tables_1, d.before a0 Z = true) : (Jvm.Cond.methodLink "com/example/trim_rowkey/trimrowkey/StringField" (67 : Nat) ({ cls := "java/lang/Character", name := "charCount", desc := "(I)I" } : Jvm.MethodName)).before a0 Z = true := hw _ (List.mem_of_getElem? (i := 119) rfl)
theorem w_120 {Z : State} {a0 : Array Value} (hw : ∀ d ∈ tables_1, d.before a0 Z = true) : (Jvm.Cond.static ({ cls := "java/lang/Character", name := "charCount", desc := "(I)I" } : Jvm.MethodName)).before a0 Z = true := hw _ (List.mem_of_getElem? (i := 120) rfl)
theorem w_121 {Z : State} {a0 : Array Value} (hw : ∀ d ∈ tables_1, d.before a0 Z = true) : (Jvm.Cond.initialized "java/lang/Character").before a0 Z = true := hw _ (List.mem_of_getElem? (i := 121) rfl)
theorem w_122 {Z : State} {a0 : Array Value} (hw : ∀ d ∈ tables_1, d.before a0 Z = true) : (Jvm.Cond.code ({ cls := "java/lang/Character", name := "charCount", desc := "(I)I" } : Jvm.MethodName) jdk_89_method_18_code (1 : Nat) (Option.some Jvm.ClassFile.FieldType.int)).before a0 Z = true := hw _ (List.mem_of_getElem? (i := 122) rfl)
theorem w_123 {Z : State} {a0 : Array Value} (hw : ∀ d ∈ tables_1, d.before a0 Z = true) : (Jvm.Cond.constant "java/lang/Character" (73 : Nat) (65536 : Int32)).before a0 Z = true := hw _ (List.mem_of_getElem? (i := 123) rfl)
theorem w_124 {Z : State} {a0 : Array Value} (hw : ∀ d ∈ tables_1, d.before a0 Z = true) : (Jvm.Cond.constant "com/example/trim_rowkey/trimrowkey/StringFieldEncodePinLaw" (49 : Nat) (1048576 : Int32)).before a0 Z = true := hw _ (List.mem_of_getElem? (i := 124) rfl)
theorem w_125 {Z : State} {a0 : Array Value} (hw : ∀ d ∈ tables_1, d.before a0 Z = true) : (Jvm.Cond.constant "com/example/trim_rowkey/trimrowkey/StringFieldEncodePinLaw" (50 : Nat) (56320 : Int32)).before a0 Z = true := hw _ (List.mem_of_getElem? (i := 125) rfl)
theorem w_126 {Z : State} {a0 : Array Value} (hw : ∀ d ∈ tables_1, d.before a0 Z = true) : (Jvm.Cond.methodLink "java/lang/StringUTF16" (119 : Nat) ({ cls := "java/lang/StringUTF16", name := "toBytes", desc := "([CII)[B" } : Jvm.MethodName)).before a0 Z = true := hw _ (List.mem_of_getElem? (i := 126) rfl)
theorem w_127 {Z : State} {a0 : Array Value} (hw : ∀ d ∈ tables_1, d.before a0 Z = true) : (Jvm.Cond.static ({ cls := "java/lang/StringUTF16", name := "toBytes", desc := "([CII)[B" } : Jvm.MethodName)).before a0 Z = true := hw _ (List.mem_of_getElem? (i := 127) rfl)
theorem w_128 {Z : State} {a0 : Array Value} (hw : ∀ d ∈ tables_1, d.before a0 Z = true) : (Jvm.Cond.code ({ cls := "java/lang/StringUTF16", name := "toBytes", desc := "([CII)[B" } : Jvm.MethodName) jdk_52_method_14_code (5 : Nat) (Option.some (Jvm.ClassFile.FieldType.array Jvm.ClassFile.FieldType.byte))).before a0 Z = true := hw _ (List.mem_of_getElem? (i := 128) rfl)
theorem w_129 {Z : State} {a0 : Array Value} (hw : ∀ d ∈ tables_1, d.before a0 Z = true) : (Jvm.Cond.methodLink "java/lang/StringUTF16" (107 : Nat) ({ cls := "java/lang/StringUTF16", name := "newBytesFor", desc := "(I)[B" } : Jvm.MethodName)).before a0 Z = true := hw _ (List.mem_of_getElem? (i := 129) rfl)
theorem w_130 {Z : State} {a0 : Array Value} (hw : ∀ d ∈ tables_1, d.before a0 Z = true) : (Jvm.Cond.static ({ cls := "java/lang/StringUTF16", name := "newBytesFor", desc := "(I)[B" } : Jvm.MethodName)).before a0 Z = true := hw _ (List.mem_of_getElem? (i := 130) rfl)
theorem w_131 {Z : State} {a0 : Array Value} (hw : ∀ d ∈ tables_1, d.before a0 Z = true) : (Jvm.Cond.code ({ cls := "java/lang/StringUTF16", name := "newBytesFor", desc := "(I)[B" } : Jvm.MethodName) jdk_52_method_2_code (1 : Nat) (Option.some (Jvm.ClassFile.FieldType.array Jvm.ClassFile.FieldType.byte))).before a0 Z = true := hw _ (List.mem_of_getElem? (i := 131) rfl)
theorem w_132 {Z : State} {a0 : Array Value} (hw : ∀ d ∈ tables_1, d.before a0 Z = true) : (Jvm.Cond.methodLink "java/lang/StringUTF16" (11 : Nat) ({ cls := "java/lang/StringUTF16", name := "newBytesLength", desc := "(I)I" } : Jvm.MethodName)).before a0 Z = true := hw _ (List.mem_of_getElem? (i := 132) rfl)
theorem w_133 {Z : State} {a0 : Array Value} (hw : ∀ d ∈ tables_1, d.before a0 Z = true) : (Jvm.Cond.static ({ cls := "java/lang/StringUTF16", name := "newBytesLength", desc := "(I)I" } : Jvm.MethodName)).before a0 Z = true := hw _ (List.mem_of_getElem? (i := 133) rfl)
theorem w_134 {Z : State} {a0 : Array Value} (hw : ∀ d ∈ tables_1, d.before a0 Z = true) : (Jvm.Cond.code ({ cls := "java/lang/StringUTF16", name := "newBytesLength", desc := "(I)I" } : Jvm.MethodName) jdk_52_method_3_code (1 : Nat) (Option.some Jvm.ClassFile.FieldType.int)).before a0 Z = true := hw _ (List.mem_of_getElem? (i := 134) rfl)
theorem w_135 {Z : State} {a0 : Array Value} (hw : ∀ d ∈ tables_1, d.before a0 Z = true) : (Jvm.Cond.constant "java/lang/StringUTF16" (20 : Nat) (1073741823 : Int32)).before a0 Z = true := hw _ (List.mem_of_getElem? (i := 135) rfl)
theorem w_136 {Z : State} {a0 : Array Value} (hw : ∀ d ∈ tables_1, d.before a0 Z = true) : (Jvm.Cond.methodLink "java/lang/StringUTF16" (111 : Nat) ({ cls := "java/lang/StringUTF16", name := "putChar", desc := "([BII)V" } : Jvm.MethodName)).before a0 Z = true := hw _ (List.mem_of_getElem? (i := 136) rfl)
theorem w_137 {Z : State} {a0 : Array Value} (hw : ∀ d ∈ tables_1, d.before a0 Z = true) : (Jvm.Cond.static ({ cls := "java/lang/StringUTF16", name := "putChar", desc := "([BII)V" } : Jvm.MethodName)).before a0 Z = true := hw _ (List.mem_of_getElem? (i := 137) rfl)
theorem w_138 {Z : State} {a0 : Array Value} (hw : ∀ d ∈ tables_1, d.before a0 Z = true) : (Jvm.Cond.code ({ cls := "java/lang/StringUTF16", name := "putChar", desc := "([BII)V" } : Jvm.MethodName) jdk_52_method_4_code (3 : Nat) (Option.none : Option Jvm.ClassFile.FieldType)).before a0 Z = true := hw _ (List.mem_of_getElem? (i := 138) rfl)
theorem w_139 {Z : State} {a0 : Array Value} (hw : ∀ d ∈ tables_1, d.before a0 Z = true) : (Jvm.Cond.fieldLink "java/lang/StringUTF16" (44 : Nat) "java/lang/StringUTF16" "$assertionsDisabled" "Z").before a0 Z = true := hw _ (List.mem_of_getElem? (i := 139) rfl)
theorem w_140 {Z : State} {a0 : Array Value} (hw : ∀ d ∈ tables_1, d.before a0 Z = true) : (Jvm.Cond.fieldLink "java/lang/StringUTF16" (59 : Nat) "java/lang/StringUTF16" "HI_BYTE_SHIFT" "I").before a0 Z = true := hw _ (List.mem_of_getElem? (i := 140) rfl)
theorem w_141 {Z : State} {a0 : Array Value} (hw : ∀ d ∈ tables_1, d.before a0 Z = true) : (Jvm.Cond.fieldLink "java/lang/StringUTF16" (63 : Nat) "java/lang/StringUTF16" "LO_BYTE_SHIFT" "I").before a0 Z = true := hw _ (List.mem_of_getElem? (i := 141) rfl)
theorem w_142 {Z : State} {a0 : Array Value} (hw : ∀ d ∈ tables_1, d.before a0 Z = true) : (Jvm.Cond.methodLink "java/lang/StringUTF16" (71 : Nat) ({ cls := "java/lang/StringUTF16", name := "getChar", desc := "([BI)C" } : Jvm.MethodName)).before a0 Z = true := hw _ (List.mem_of_getElem? (i := 142) rfl)
theorem w_143 {Z : State} {a0 : Array Value} (hw : ∀ d ∈ tables_1, d.before a0 Z = true) : (Jvm.Cond.static ({ cls := "java/lang/StringUTF16", name := "getChar", desc := "([BI)C" } : Jvm.MethodName)).before a0 Z = true := hw _ (List.mem_of_getElem? (i := 143) rfl)
theorem w_144 {Z : State} {a0 : Array Value} (hw : ∀ d ∈ tables_1, d.before a0 Z = true) : (Jvm.Cond.code ({ cls := "java/lang/StringUTF16", name := "getChar", desc := "([BI)C" } : Jvm.MethodName) jdk_52_method_5_code (2 : Nat) (Option.some Jvm.ClassFile.FieldType.char)).before a0 Z = true := hw _ (List.mem_of_getElem? (i := 144) rfl)
theorem w_145 {Z : State} {a0 : Array Value} (hw : ∀ d ∈ tables_1, d.before a0 Z = true) : (Jvm.Cond.methodLink "java/lang/String" (502 : Nat) ({ cls := "java/lang/StringUTF16", name := "codePointAt", desc := "([BII)I" } : Jvm.MethodName)).before a0 Z = true := hw _ (List.mem_of_getElem? (i := 145) rfl)
theorem w_146 {Z : State} {a0 : Array Value} (hw : ∀ d ∈ tables_1, d.before a0 Z = true) : (Jvm.Cond.static ({ cls := "java/lang/StringUTF16", name := "codePointAt", desc := "([BII)I" } : Jvm.MethodName)).before a0 Z = true := hw _ (List.mem_of_getElem? (i := 146) rfl)
theorem w_147 {Z : State} {a0 : Array Value} (hw : ∀ d ∈ tables_1, d.before a0 Z = true) : (Jvm.Cond.code ({ cls := "java/lang/StringUTF16", name := "codePointAt", desc := "([BII)I" } : Jvm.MethodName) jdk_52_method_8_code (3 : Nat) (Option.some Jvm.ClassFile.FieldType.int)).before a0 Z = true := hw _ (List.mem_of_getElem? (i := 147) rfl)
theorem w_148 {Z : State} {a0 : Array Value} (hw : ∀ d ∈ tables_1, d.before a0 Z = true) : (Jvm.Cond.methodLink "java/lang/StringUTF16" (88 : Nat) ({ cls := "java/lang/StringUTF16", name := "codePointAt", desc := "([BIIZ)I" } : Jvm.MethodName)).before a0 Z = true := hw _ (List.mem_of_getElem? (i := 148) rfl)
theorem w_149 {Z : State} {a0 : Array Value} (hw : ∀ d ∈ tables_1, d.before a0 Z = true) : (Jvm.Cond.static ({ cls := "java/lang/StringUTF16", name := "codePointAt", desc := "([BIIZ)I" } : Jvm.MethodName)).before a0 Z = true := hw _ (List.mem_of_getElem? (i := 149) rfl)
theorem w_150 {Z : State} {a0 : Array Value} (hw : ∀ d ∈ tables_1, d.before a0 Z = true) : (Jvm.Cond.code ({ cls := "java/lang/StringUTF16", name := "codePointAt", desc := "([BIIZ)I" } : Jvm.MethodName) jdk_52_method_7_code (6 : Nat) (Option.some Jvm.ClassFile.FieldType.int)).before a0 Z = true := hw _ (List.mem_of_getElem? (i := 150) rfl)
theorem w_151 {Z : State} {a0 : Array Value} (hw : ∀ d ∈ tables_1, d.before a0 Z = true) : (Jvm.Cond.methodLink "java/lang/StringUTF16" (75 : Nat) ({ cls := "java/lang/Character", name := "isHighSurrogate", desc := "(C)Z" } : Jvm.MethodName)).before a0 Z = true := hw _ (List.mem_of_getElem? (i := 151) rfl)
theorem w_152 {Z : State} {a0 : Array Value} (hw : ∀ d ∈ tables_1, d.before a0 Z = true) : (Jvm.Cond.static ({ cls := "java/lang/Character", name := "isHighSurrogate", desc := "(C)Z" } : Jvm.MethodName)).before a0 Z = true := hw _ (List.mem_of_getElem? (i := 152) rfl)
theorem w_153 {Z : State} {a0 : Array Value} (hw : ∀ d ∈ tables_1, d.before a0 Z = true) : (Jvm.Cond.code ({ cls := "java/lang/Character", name := "isHighSurrogate", desc := "(C)Z" } : Jvm.MethodName) jdk_89_method_14_code (1 : Nat) (Option.some Jvm.ClassFile.FieldType.boolean)).before a0 Z = true := hw _ (List.mem_of_getElem? (i := 153) rfl)
theorem w_154 {Z : State} {a0 : Array Value} (hw : ∀ d ∈ tables_1, d.before a0 Z = true) : (Jvm.Cond.constant "java/lang/Character" (75 : Nat) (55296 : Int32)).before a0 Z = true := hw _ (List.mem_of_getElem? (i := 154) rfl)
theorem w_155 {Z : State} {a0 : Array Value} (hw : ∀ d ∈ tables_1, d.before a0 Z = true) : (Jvm.Cond.constant "java/lang/Character" (76 : Nat) (56320 : Int32)).before a0 Z = true := hw _ (List.mem_of_getElem? (i := 155) rfl)
theorem w_156 {Z : State} {a0 : Array Value} (hw : ∀ d ∈ tables_1, d.before a0 Z = true) : (Jvm.Cond.methodLink "java/lang/StringUTF16" (81 : Nat) ({ cls := "java/lang/Character", name := "isLowSurrogate", desc := "(C)Z" } : Jvm.MethodName)).before a0 Z = true := hw _ (List.mem_of_getElem? (i := 156) rfl)
theorem w_157 {Z : State} {a0 : Array Value} (hw : ∀ d ∈ tables_1, d.before a0 Z = true) : (Jvm.Cond.static ({ cls := "java/lang/Character", name := "isLowSurrogate", desc := "(C)Z" } : Jvm.MethodName)).before a0 Z = true := hw _ (List.mem_of_getElem? (i := 157) rfl)
theorem w_158 {Z : State} {a0 : Array Value} (hw : ∀ d ∈ tables_1, d.before a0 Z = true) : (Jvm.Cond.code ({ cls := "java/lang/Character", name := "isLowSurrogate", desc := "(C)Z" } : Jvm.MethodName) jdk_89_method_15_code (1 : Nat) (Option.some Jvm.ClassFile.FieldType.boolean)).before a0 Z = true := hw _ (List.mem_of_getElem? (i := 158) rfl)
theorem w_159 {Z : State} {a0 : Array Value} (hw : ∀ d ∈ tables_1, d.before a0 Z = true) : (Jvm.Cond.constant "java/lang/Character" (77 : Nat) (57344 : Int32)).before a0 Z = true := hw _ (List.mem_of_getElem? (i := 159) rfl)
theorem w_160 {Z : State} {a0 : Array Value} (hw : ∀ d ∈ tables_1, d.before a0 Z = true) : (Jvm.Cond.methodLink "java/lang/StringUTF16" (84 : Nat) ({ cls := "java/lang/Character", name := "toCodePoint", desc := "(CC)I" } : Jvm.MethodName)).before a0 Z = true := hw _ (List.mem_of_getElem? (i := 160) rfl)
theorem w_161 {Z : State} {a0 : Array Value} (hw : ∀ d ∈ tables_1, d.before a0 Z = true) : (Jvm.Cond.static ({ cls := "java/lang/Character", name := "toCodePoint", desc := "(CC)I" } : Jvm.MethodName)).before a0 Z = true := hw _ (List.mem_of_getElem? (i := 161) rfl)
theorem w_162 {Z : State} {a0 : Array Value} (hw : ∀ d ∈ tables_1, d.before a0 Z = true) : (Jvm.Cond.code ({ cls := "java/lang/Character", name := "toCodePoint", desc := "(CC)I" } : Jvm.MethodName) jdk_89_method_19_code (2 : Nat) (Option.some Jvm.ClassFile.FieldType.int)).before a0 Z = true := hw _ (List.mem_of_getElem? (i := 162) rfl)
theorem w_163 {Z : State} {a0 : Array Value} (hw : ∀ d ∈ tables_1, d.before a0 Z = true) : (Jvm.Cond.constant "java/lang/Character" (85 : Nat) (-56613888 : Int32)).before a0 Z = true := hw _ (List.mem_of_getElem? (i := 163) rfl)
theorem w_164 {Z : State} {a0 : Array Value} (hw : ∀ d ∈ tables_1, d.before a0 Z = true) : (Jvm.Cond.constant "com/example/trim_rowkey/trimrowkey/StringField" (126 : Nat) (65536 : Int32)).before a0 Z = true := hw _ (List.mem_of_getElem? (i := 164) rfl)
theorem w_165 {Z : State} {a0 : Array Value} (hw : ∀ d ∈ tables_1, d.before a0 Z = true) : (Jvm.Cond.constant "com/example/trim_rowkey/trimrowkey/StringField" (34 : Nat) (57343 : Int32)).before a0 Z = true := hw _ (List.mem_of_getElem? (i := 165) rfl)
theorem pd_0 : parseMethodDescriptor "(I)I" = some ⟨[.int], some .int⟩ := by decide +kernel
theorem pd_1 : parseMethodDescriptor "(I)[B" = some ⟨[.int], some (.array .byte)⟩ := by decide +kernel
theorem pd_2 : parseMethodDescriptor "([BII)V" = some ⟨[(.array .byte), .int, .int], none⟩ := by decide +kernel
theorem pd_3 : parseMethodDescriptor "([CI[BII)I" = some ⟨[(.array .char), .int, (.array .byte), .int, .int], some .int⟩ := by decide +kernel
theorem pd_4 : parseMethodDescriptor "([CII)[B" = some ⟨[(.array .char), .int, .int], some (.array .byte)⟩ := by decide +kernel
theorem pd_5 : parseMethodDescriptor "([BI)C" = some ⟨[(.array .byte), .int], some .char⟩ := by decide +kernel
theorem pd_6 : parseMethodDescriptor "([BI)B" = some ⟨[(.array .byte), .int], some .byte⟩ := by decide +kernel
theorem pd_7 : parseMethodDescriptor "([CIILjava/lang/Void;)V" = some ⟨[(.array .char), .int, .int, (.object "java/lang/Void")], none⟩ := by decide +kernel
theorem pd_8 : parseMethodDescriptor "(IILjava/util/function/BiFunction;)I" = some ⟨[.int, .int, (.object "java/util/function/BiFunction")], some .int⟩ := by decide +kernel
theorem pd_9 : parseMethodDescriptor "()B" = some ⟨[], some .byte⟩ := by decide +kernel
theorem pd_10 : parseMethodDescriptor "(C)Z" = some ⟨[.char], some .boolean⟩ := by decide +kernel
theorem pd_11 : parseMethodDescriptor "(CC)I" = some ⟨[.char, .char], some .int⟩ := by decide +kernel
theorem pd_12 : parseMethodDescriptor "([BIIZ)I" = some ⟨[(.array .byte), .int, .int, .boolean], some .int⟩ := by decide +kernel
theorem pd_13 : parseMethodDescriptor "()Z" = some ⟨[], some .boolean⟩ := by decide +kernel
theorem pd_14 : parseMethodDescriptor "(II)V" = some ⟨[.int, .int], none⟩ := by decide +kernel
theorem pd_15 : parseMethodDescriptor "([BII)I" = some ⟨[(.array .byte), .int, .int], some .int⟩ := by decide +kernel
theorem pd_16 : parseMethodDescriptor "([C)V" = some ⟨[(.array .char)], none⟩ := by decide +kernel
theorem pd_17 : parseMethodDescriptor "(Ljava/lang/String;I)V" = some ⟨[(.object "java/lang/String"), .int], none⟩ := by decide +kernel
theorem pd_18 : parseMethodDescriptor "()I" = some ⟨[], some .int⟩ := by decide +kernel
theorem pd_19 : parseMethodDescriptor "(II)I" = some ⟨[.int, .int], some .int⟩ := by decide +kernel
theorem pd_20 : parseMethodDescriptor "([CI)Ljava/lang/String;" = some ⟨[(.array .char), .int], some (.object "java/lang/String")⟩ := by decide +kernel
theorem pd_21 : parseMethodDescriptor "(Ljava/lang/String;[BI)V" = some ⟨[(.object "java/lang/String"), (.array .byte), .int], none⟩ := by decide +kernel
theorem pd_22 : parseMethodDescriptor "([B[B)Z" = some ⟨[(.array .byte), (.array .byte)], some .boolean⟩ := by decide +kernel
theorem pd_23 : parseMethodDescriptor "([CII)I" = some ⟨[(.array .char), .int, .int], some .int⟩ := by decide +kernel
theorem pn_0 : plainName "java/lang/StringUTF16" = true := by first | (simp [plainName, overriddenIn]; done) | decide +kernel
theorem pn_1 : plainName "java/lang/String" = true := by first | (simp [plainName, overriddenIn]; done) | decide +kernel
theorem pn_2 : plainName "jdk/internal/util/Preconditions" = true := by first | (simp [plainName, overriddenIn]; done) | decide +kernel
theorem pn_3 : plainName "java/lang/Character" = true := by first | (simp [plainName, overriddenIn]; done) | decide +kernel
theorem pn_4 : plainName "com/example/trim_rowkey/trimrowkey/StringFieldEncodePinLaw" = true := by first | (simp [plainName, overriddenIn]; done) | decide +kernel
theorem pn_5 : plainName "com/example/trim_rowkey/trimrowkey/Field" = true := by first | (simp [plainName, overriddenIn]; done) | decide +kernel
theorem pn_6 : plainName "com/example/trim_rowkey/trimrowkey/StringField" = true := by first | (simp [plainName, overriddenIn]; done) | decide +kernel
theorem d1_0 : decode method_3_code 0 = .ok (.iload_n 1, 1) := by decide +kernel
theorem d1_1 : decode method_3_code 1 = .ok (.ldc 45, 2) := by decide +kernel
theorem d1_3 : decode method_3_code 3 = .ok (.iand, 1) := by decide +kernel
theorem d1_4 : decode method_3_code 4 = .ok (.istore_n 2, 1) := by decide +kernel
theorem d1_5 : decode method_3_code 5 = .ok (.iload_n 0, 1) := by decide +kernel
theorem d1_6 : decode method_3_code 6 = .ok (.ifCond .ne 10, 3) := by decide +kernel
theorem d1_9 : decode method_3_code 9 = .ok (.iconst 1, 1) := by decide +kernel
theorem d1_10 : decode method_3_code 10 = .ok (.iload_n 2, 1) := by decide +kernel
theorem d1_11 : decode method_3_code 11 = .ok (.bipush 127, 2) := by decide +kernel
theorem d1_13 : decode method_3_code 13 = .ok (.irem, 1) := by decide +kernel
theorem d1_14 : decode method_3_code 14 = .ok (.iadd, 1) := by decide +kernel
theorem d1_15 : decode method_3_code 15 = .ok (.ireturn, 1) := by decide +kernel
theorem d1_16 : decode method_3_code 16 = .ok (.iload_n 0, 1) := by decide +kernel
theorem d1_17 : decode method_3_code 17 = .ok (.iconst 1, 1) := by decide +kernel
theorem d1_18 : decode method_3_code 18 = .ok (.if_icmp .ne 13, 3) := by decide +kernel
theorem d1_21 : decode method_3_code 21 = .ok (.sipush 128, 3) := by decide +kernel
theorem d1_24 : decode method_3_code 24 = .ok (.iload_n 2, 1) := by decide +kernel
theorem d1_25 : decode method_3_code 25 = .ok (.sipush 1920, 3) := by decide +kernel
theorem d1_28 : decode method_3_code 28 = .ok (.irem, 1) := by decide +kernel
theorem d1_29 : decode method_3_code 29 = .ok (.iadd, 1) := by decide +kernel
theorem d1_30 : decode method_3_code 30 = .ok (.ireturn, 1) := by decide +kernel
theorem d1_31 : decode method_3_code 31 = .ok (.iload_n 0, 1) := by decide +kernel
theorem d1_32 : decode method_3_code 32 = .ok (.iconst 2, 1) := by decide +kernel
theorem d1_33 : decode method_3_code 33 = .ok (.if_icmp .ne 26, 3) := by decide +kernel
theorem d1_36 : decode method_3_code 36 = .ok (.sipush 2048, 3) := by decide +kernel
theorem d1_39 : decode method_3_code 39 = .ok (.iload_n 2, 1) := by decide +kernel
theorem d1_40 : decode method_3_code 40 = .ok (.ldc 46, 2) := by decide +kernel
theorem d1_42 : decode method_3_code 42 = .ok (.irem, 1) := by decide +kernel
theorem d1_43 : decode method_3_code 43 = .ok (.iadd, 1) := by decide +kernel
theorem d1_44 : decode method_3_code 44 = .ok (.istore_n 3, 1) := by decide +kernel
theorem d1_45 : decode method_3_code 45 = .ok (.iload_n 3, 1) := by decide +kernel
theorem d1_46 : decode method_3_code 46 = .ok (.ldc 47, 2) := by decide +kernel
theorem d1_48 : decode method_3_code 48 = .ok (.if_icmp .lt 9, 3) := by decide +kernel
theorem d1_51 : decode method_3_code 51 = .ok (.iload_n 3, 1) := by decide +kernel
theorem d1_52 : decode method_3_code 52 = .ok (.sipush 2048, 3) := by decide +kernel
theorem d1_55 : decode method_3_code 55 = .ok (.iadd, 1) := by decide +kernel
theorem d1_56 : decode method_3_code 56 = .ok (.istore_n 3, 1) := by decide +kernel
theorem d1_57 : decode method_3_code 57 = .ok (.iload_n 3, 1) := by decide +kernel
theorem d1_58 : decode method_3_code 58 = .ok (.ireturn, 1) := by decide +kernel
theorem d1_59 : decode method_3_code 59 = .ok (.ldc 48, 2) := by decide +kernel
theorem d1_61 : decode method_3_code 61 = .ok (.iload_n 2, 1) := by decide +kernel
theorem d1_62 : decode method_3_code 62 = .ok (.ldc 49, 2) := by decide +kernel
theorem d1_64 : decode method_3_code 64 = .ok (.irem, 1) := by decide +kernel
theorem d1_65 : decode method_3_code 65 = .ok (.iadd, 1) := by decide +kernel
theorem d1_66 : decode method_3_code 66 = .ok (.ireturn, 1) := by decide +kernel
theorem d2_0 : decode jdk_29_method_69_code 0 = .ok (.iload_n 0, 1) := by decide +kernel
theorem d2_1 : decode jdk_29_method_69_code 1 = .ok (.iload_n 1, 1) := by decide +kernel
theorem d2_2 : decode jdk_29_method_69_code 2 = .ok (.if_icmp .gt 7, 3) := by decide +kernel
theorem d2_5 : decode jdk_29_method_69_code 5 = .ok (.iload_n 0, 1) := by decide +kernel
theorem d2_6 : decode jdk_29_method_69_code 6 = .ok (.goto 4, 3) := by decide +kernel
theorem d2_9 : decode jdk_29_method_69_code 9 = .ok (.iload_n 1, 1) := by decide +kernel
theorem d2_10 : decode jdk_29_method_69_code 10 = .ok (.ireturn, 1) := by decide +kernel
theorem d3_0 : decode method_6_code 0 = .ok (.iload_n 1, 1) := by decide +kernel
theorem d3_1 : decode method_6_code 1 = .ok (.ifCond .ne 14, 3) := by decide +kernel
theorem d3_4 : decode method_6_code 4 = .ok (.new 51, 3) := by decide +kernel
theorem d3_7 : decode method_6_code 7 = .ok (.dup, 1) := by decide +kernel
theorem d3_8 : decode method_6_code 8 = .ok (.iconst 0, 1) := by decide +kernel
theorem d3_9 : decode method_6_code 9 = .ok (.newarray .char, 2) := by decide +kernel
theorem d3_11 : decode method_6_code 11 = .ok (.invokespecial 53, 3) := by decide +kernel
theorem d3_14 : decode method_6_code 14 = .ok (.areturn, 1) := by decide +kernel
theorem d3_15 : decode method_6_code 15 = .ok (.iload_n 1, 1) := by decide +kernel
theorem d3_16 : decode method_6_code 16 = .ok (.iconst 1, 1) := by decide +kernel
theorem d3_17 : decode method_6_code 17 = .ok (.if_icmp .ne 20, 3) := by decide +kernel
theorem d3_20 : decode method_6_code 20 = .ok (.new 51, 3) := by decide +kernel
theorem d3_23 : decode method_6_code 23 = .ok (.dup, 1) := by decide +kernel
theorem d3_24 : decode method_6_code 24 = .ok (.iconst 1, 1) := by decide +kernel
theorem d3_25 : decode method_6_code 25 = .ok (.newarray .char, 2) := by decide +kernel
theorem d3_27 : decode method_6_code 27 = .ok (.dup, 1) := by decide +kernel
theorem d3_28 : decode method_6_code 28 = .ok (.iconst 0, 1) := by decide +kernel
theorem d3_29 : decode method_6_code 29 = .ok (.aload_n 0, 1) := by decide +kernel
theorem d3_30 : decode method_6_code 30 = .ok (.iconst 0, 1) := by decide +kernel
theorem d3_31 : decode method_6_code 31 = .ok (.caload, 1) := by decide +kernel
theorem d3_32 : decode method_6_code 32 = .ok (.castore, 1) := by decide +kernel
theorem d3_33 : decode method_6_code 33 = .ok (.invokespecial 53, 3) := by decide +kernel
theorem d3_36 : decode method_6_code 36 = .ok (.areturn, 1) := by decide +kernel
theorem d3_37 : decode method_6_code 37 = .ok (.iload_n 1, 1) := by decide +kernel
theorem d3_38 : decode method_6_code 38 = .ok (.iconst 2, 1) := by decide +kernel
theorem d3_39 : decode method_6_code 39 = .ok (.if_icmp .ne 26, 3) := by decide +kernel
theorem d3_42 : decode method_6_code 42 = .ok (.new 51, 3) := by decide +kernel
theorem d3_45 : decode method_6_code 45 = .ok (.dup, 1) := by decide +kernel
theorem d3_46 : decode method_6_code 46 = .ok (.iconst 2, 1) := by decide +kernel
theorem d3_47 : decode method_6_code 47 = .ok (.newarray .char, 2) := by decide +kernel
theorem d3_49 : decode method_6_code 49 = .ok (.dup, 1) := by decide +kernel
theorem d3_50 : decode method_6_code 50 = .ok (.iconst 0, 1) := by decide +kernel
theorem d3_51 : decode method_6_code 51 = .ok (.aload_n 0, 1) := by decide +kernel
theorem d3_52 : decode method_6_code 52 = .ok (.iconst 0, 1) := by decide +kernel
theorem d3_53 : decode method_6_code 53 = .ok (.caload, 1) := by decide +kernel
theorem d3_54 : decode method_6_code 54 = .ok (.castore, 1) := by decide +kernel
theorem d3_55 : decode method_6_code 55 = .ok (.dup, 1) := by decide +kernel
theorem d3_56 : decode method_6_code 56 = .ok (.iconst 1, 1) := by decide +kernel
theorem d3_57 : decode method_6_code 57 = .ok (.aload_n 0, 1) := by decide +kernel
theorem d3_58 : decode method_6_code 58 = .ok (.iconst 1, 1) := by decide +kernel
theorem d3_59 : decode method_6_code 59 = .ok (.caload, 1) := by decide +kernel
theorem d3_60 : decode method_6_code 60 = .ok (.castore, 1) := by decide +kernel
theorem d3_61 : decode method_6_code 61 = .ok (.invokespecial 53, 3) := by decide +kernel
theorem d3_64 : decode method_6_code 64 = .ok (.areturn, 1) := by decide +kernel
theorem d3_65 : decode method_6_code 65 = .ok (.iload_n 1, 1) := by decide +kernel
theorem d3_66 : decode method_6_code 66 = .ok (.iconst 3, 1) := by decide +kernel
theorem d3_67 : decode method_6_code 67 = .ok (.if_icmp .ne 32, 3) := by decide +kernel
theorem d3_70 : decode method_6_code 70 = .ok (.new 51, 3) := by decide +kernel
theorem d3_73 : decode method_6_code 73 = .ok (.dup, 1) := by decide +kernel
theorem d3_74 : decode method_6_code 74 = .ok (.iconst 3, 1) := by decide +kernel
theorem d3_75 : decode method_6_code 75 = .ok (.newarray .char, 2) := by decide +kernel
theorem d3_77 : decode method_6_code 77 = .ok (.dup, 1) := by decide +kernel
theorem d3_78 : decode method_6_code 78 = .ok (.iconst 0, 1) := by decide +kernel
theorem d3_79 : decode method_6_code 79 = .ok (.aload_n 0, 1) := by decide +kernel
theorem d3_80 : decode method_6_code 80 = .ok (.iconst 0, 1) := by decide +kernel
theorem d3_81 : decode method_6_code 81 = .ok (.caload, 1) := by decide +kernel
theorem d3_82 : decode method_6_code 82 = .ok (.castore, 1) := by decide +kernel
theorem d3_83 : decode method_6_code 83 = .ok (.dup, 1) := by decide +kernel
theorem d3_84 : decode method_6_code 84 = .ok (.iconst 1, 1) := by decide +kernel
theorem d3_85 : decode method_6_code 85 = .ok (.aload_n 0, 1) := by decide +kernel
theorem d3_86 : decode method_6_code 86 = .ok (.iconst 1, 1) := by decide +kernel
theorem d3_87 : decode method_6_code 87 = .ok (.caload, 1) := by decide +kernel
theorem d3_88 : decode method_6_code 88 = .ok (.castore, 1) := by decide +kernel
theorem d3_89 : decode method_6_code 89 = .ok (.dup, 1) := by decide +kernel
theorem d3_90 : decode method_6_code 90 = .ok (.iconst 2, 1) := by decide +kernel
theorem d3_91 : decode method_6_code 91 = .ok (.aload_n 0, 1) := by decide +kernel
theorem d3_92 : decode method_6_code 92 = .ok (.iconst 2, 1) := by decide +kernel
theorem d3_93 : decode method_6_code 93 = .ok (.caload, 1) := by decide +kernel
theorem d3_94 : decode method_6_code 94 = .ok (.castore, 1) := by decide +kernel
theorem d3_95 : decode method_6_code 95 = .ok (.invokespecial 53, 3) := by decide +kernel
theorem d3_98 : decode method_6_code 98 = .ok (.areturn, 1) := by decide +kernel
theorem d3_99 : decode method_6_code 99 = .ok (.new 51, 3) := by decide +kernel
theorem d3_102 : decode method_6_code 102 = .ok (.dup, 1) := by decide +kernel
theorem d3_103 : decode method_6_code 103 = .ok (.iconst 4, 1) := by decide +kernel
theorem d3_104 : decode method_6_code 104 = .ok (.newarray .char, 2) := by decide +kernel
theorem d3_106 : decode method_6_code 106 = .ok (.dup, 1) := by decide +kernel
theorem d3_107 : decode method_6_code 107 = .ok (.iconst 0, 1) := by decide +kernel
theorem d3_108 : decode method_6_code 108 = .ok (.aload_n 0, 1) := by decide +kernel
theorem d3_109 : decode method_6_code 109 = .ok (.iconst 0, 1) := by decide +kernel
theorem d3_110 : decode method_6_code 110 = .ok (.caload, 1) := by decide +kernel
theorem d3_111 : decode method_6_code 111 = .ok (.castore, 1) := by decide +kernel
theorem d3_112 : decode method_6_code 112 = .ok (.dup, 1) := by decide +kernel
theorem d3_113 : decode method_6_code 113 = .ok (.iconst 1, 1) := by decide +kernel
theorem d3_114 : decode method_6_code 114 = .ok (.aload_n 0, 1) := by decide +kernel
theorem d3_115 : decode method_6_code 115 = .ok (.iconst 1, 1) := by decide +kernel
theorem d3_116 : decode method_6_code 116 = .ok (.caload, 1) := by decide +kernel
theorem d3_117 : decode method_6_code 117 = .ok (.castore, 1) := by decide +kernel
theorem d3_118 : decode method_6_code 118 = .ok (.dup, 1) := by decide +kernel
theorem d3_119 : decode method_6_code 119 = .ok (.iconst 2, 1) := by decide +kernel
theorem d3_120 : decode method_6_code 120 = .ok (.aload_n 0, 1) := by decide +kernel
theorem d3_121 : decode method_6_code 121 = .ok (.iconst 2, 1) := by decide +kernel
theorem d3_122 : decode method_6_code 122 = .ok (.caload, 1) := by decide +kernel
theorem d3_123 : decode method_6_code 123 = .ok (.castore, 1) := by decide +kernel
theorem d3_124 : decode method_6_code 124 = .ok (.dup, 1) := by decide +kernel
theorem d3_125 : decode method_6_code 125 = .ok (.iconst 3, 1) := by decide +kernel
theorem d3_126 : decode method_6_code 126 = .ok (.aload_n 0, 1) := by decide +kernel
theorem d3_127 : decode method_6_code 127 = .ok (.iconst 3, 1) := by decide +kernel
theorem d3_128 : decode method_6_code 128 = .ok (.caload, 1) := by decide +kernel
theorem d3_129 : decode method_6_code 129 = .ok (.castore, 1) := by decide +kernel
theorem d3_130 : decode method_6_code 130 = .ok (.invokespecial 53, 3) := by decide +kernel
theorem d3_133 : decode method_6_code 133 = .ok (.areturn, 1) := by decide +kernel
theorem d4_0 : decode jdk_42_method_3_code 0 = .ok (.aload_n 0, 1) := by decide +kernel
theorem d4_1 : decode jdk_42_method_3_code 1 = .ok (.aload_n 1, 1) := by decide +kernel
theorem d4_2 : decode jdk_42_method_3_code 2 = .ok (.iconst 0, 1) := by decide +kernel
theorem d4_3 : decode jdk_42_method_3_code 3 = .ok (.aload_n 1, 1) := by decide +kernel
theorem d4_4 : decode jdk_42_method_3_code 4 = .ok (.arraylength, 1) := by decide +kernel
theorem d4_5 : decode jdk_42_method_3_code 5 = .ok (.aconst_null, 1) := by decide +kernel
theorem d4_6 : decode jdk_42_method_3_code 6 = .ok (.invokespecial 27, 3) := by decide +kernel
theorem d4_9 : decode jdk_42_method_3_code 9 = .ok (.return_, 1) := by decide +kernel
theorem d5_0 : decode jdk_42_method_149_code 0 = .ok (.aload_n 0, 1) := by decide +kernel
theorem d5_1 : decode jdk_42_method_149_code 1 = .ok (.invokespecial 1, 3) := by decide +kernel
theorem d5_4 : decode jdk_42_method_149_code 4 = .ok (.iload_n 3, 1) := by decide +kernel
theorem d5_5 : decode jdk_42_method_149_code 5 = .ok (.ifCond .ne 22, 3) := by decide +kernel
theorem d5_8 : decode jdk_42_method_149_code 8 = .ok (.aload_n 0, 1) := by decide +kernel
theorem d5_9 : decode jdk_42_method_149_code 9 = .ok (.ldc 7, 2) := by decide +kernel
theorem d5_11 : decode jdk_42_method_149_code 11 = .ok (.getfield 9, 3) := by decide +kernel
theorem d5_14 : decode jdk_42_method_149_code 14 = .ok (.putfield 9, 3) := by decide +kernel
theorem d5_17 : decode jdk_42_method_149_code 17 = .ok (.aload_n 0, 1) := by decide +kernel
theorem d5_18 : decode jdk_42_method_149_code 18 = .ok (.ldc 7, 2) := by decide +kernel
theorem d5_20 : decode jdk_42_method_149_code 20 = .ok (.getfield 15, 3) := by decide +kernel
theorem d5_23 : decode jdk_42_method_149_code 23 = .ok (.putfield 15, 3) := by decide +kernel
theorem d5_26 : decode jdk_42_method_149_code 26 = .ok (.return_, 1) := by decide +kernel
theorem d5_27 : decode jdk_42_method_149_code 27 = .ok (.getstatic 38, 3) := by decide +kernel
theorem d5_30 : decode jdk_42_method_149_code 30 = .ok (.ifCond .eq 28, 3) := by decide +kernel
theorem d5_33 : decode jdk_42_method_149_code 33 = .ok (.aload_n 1, 1) := by decide +kernel
theorem d5_34 : decode jdk_42_method_149_code 34 = .ok (.iload_n 2, 1) := by decide +kernel
theorem d5_35 : decode jdk_42_method_149_code 35 = .ok (.iload_n 3, 1) := by decide +kernel
theorem d5_36 : decode jdk_42_method_149_code 36 = .ok (.invokestatic 177, 3) := by decide +kernel
theorem d5_39 : decode jdk_42_method_149_code 39 = .ok (.astore 5, 2) := by decide +kernel
theorem d5_41 : decode jdk_42_method_149_code 41 = .ok (.aload_n 0, 1) := by decide +kernel
theorem d5_42 : decode jdk_42_method_149_code 42 = .ok (.aload 5, 2) := by decide +kernel
theorem d5_44 : decode jdk_42_method_149_code 44 = .ok (.iload_n 3, 1) := by decide +kernel
theorem d5_45 : decode jdk_42_method_149_code 45 = .ok (.invokestatic 47, 3) := by decide +kernel
theorem d5_48 : decode jdk_42_method_149_code 48 = .ok (.putfield 15, 3) := by decide +kernel
theorem d5_51 : decode jdk_42_method_149_code 51 = .ok (.aload_n 0, 1) := by decide +kernel
theorem d5_52 : decode jdk_42_method_149_code 52 = .ok (.aload 5, 2) := by decide +kernel
theorem d5_54 : decode jdk_42_method_149_code 54 = .ok (.putfield 9, 3) := by decide +kernel
theorem d5_57 : decode jdk_42_method_149_code 57 = .ok (.return_, 1) := by decide +kernel
theorem d7_0 : decode prog_9_method_1_code 0 = .ok (.aload_n 0, 1) := by decide +kernel
theorem d7_1 : decode prog_9_method_1_code 1 = .ok (.aload_n 1, 1) := by decide +kernel
theorem d7_2 : decode prog_9_method_1_code 2 = .ok (.iload_n 2, 1) := by decide +kernel
theorem d7_3 : decode prog_9_method_1_code 3 = .ok (.invokespecial 1, 3) := by decide +kernel
theorem d7_6 : decode prog_9_method_1_code 6 = .ok (.return_, 1) := by decide +kernel
theorem d8_0 : decode prog_3_method_1_code 0 = .ok (.aload_n 0, 1) := by decide +kernel
theorem d8_1 : decode prog_3_method_1_code 1 = .ok (.invokespecial 1, 3) := by decide +kernel
theorem d8_4 : decode prog_3_method_1_code 4 = .ok (.aload_n 0, 1) := by decide +kernel
theorem d8_5 : decode prog_3_method_1_code 5 = .ok (.aload_n 1, 1) := by decide +kernel
theorem d8_6 : decode prog_3_method_1_code 6 = .ok (.putfield 7, 3) := by decide +kernel
theorem d8_9 : decode prog_3_method_1_code 9 = .ok (.aload_n 0, 1) := by decide +kernel
theorem d8_10 : decode prog_3_method_1_code 10 = .ok (.iload_n 2, 1) := by decide +kernel
theorem d8_11 : decode prog_3_method_1_code 11 = .ok (.putfield 13, 3) := by decide +kernel
theorem d8_14 : decode prog_3_method_1_code 14 = .ok (.return_, 1) := by decide +kernel
theorem d9_0 : decode prog_9_method_2_code 0 = .ok (.iload_n 3, 1) := by decide +kernel
theorem d9_1 : decode prog_9_method_2_code 1 = .ok (.aload_n 0, 1) := by decide +kernel
theorem d9_2 : decode prog_9_method_2_code 2 = .ok (.invokevirtual 7, 3) := by decide +kernel
theorem d9_5 : decode prog_9_method_2_code 5 = .ok (.iadd, 1) := by decide +kernel
theorem d9_6 : decode prog_9_method_2_code 6 = .ok (.istore 4, 2) := by decide +kernel
theorem d9_8 : decode prog_9_method_2_code 8 = .ok (.iload_n 3, 1) := by decide +kernel
theorem d9_9 : decode prog_9_method_2_code 9 = .ok (.istore 5, 2) := by decide +kernel
theorem d9_11 : decode prog_9_method_2_code 11 = .ok (.iconst 0, 1) := by decide +kernel
theorem d9_12 : decode prog_9_method_2_code 12 = .ok (.istore 6, 2) := by decide +kernel
theorem d9_14 : decode prog_9_method_2_code 14 = .ok (.iload 6, 2) := by decide +kernel
theorem d9_16 : decode prog_9_method_2_code 16 = .ok (.aload_n 1, 1) := by decide +kernel
theorem d9_17 : decode prog_9_method_2_code 17 = .ok (.invokevirtual 13, 3) := by decide +kernel
theorem d9_20 : decode prog_9_method_2_code 20 = .ok (.if_icmp .ge 179, 3) := by decide +kernel
theorem d9_23 : decode prog_9_method_2_code 23 = .ok (.aload_n 1, 1) := by decide +kernel
theorem d9_24 : decode prog_9_method_2_code 24 = .ok (.iload 6, 2) := by decide +kernel
theorem d9_26 : decode prog_9_method_2_code 26 = .ok (.invokevirtual 18, 3) := by decide +kernel
theorem d9_29 : decode prog_9_method_2_code 29 = .ok (.istore 7, 2) := by decide +kernel
theorem d9_31 : decode prog_9_method_2_code 31 = .ok (.iload 7, 2) := by decide +kernel
theorem d9_33 : decode prog_9_method_2_code 33 = .ok (.invokestatic 22, 3) := by decide +kernel
theorem d9_36 : decode prog_9_method_2_code 36 = .ok (.istore 8, 2) := by decide +kernel
theorem d9_38 : decode prog_9_method_2_code 38 = .ok (.iload 7, 2) := by decide +kernel
theorem d9_40 : decode prog_9_method_2_code 40 = .ok (.ifCond .ne 10, 3) := by decide +kernel
theorem d9_50 : decode prog_9_method_2_code 50 = .ok (.iload 7, 2) := by decide +kernel
theorem d9_52 : decode prog_9_method_2_code 52 = .ok (.ldc 33, 2) := by decide +kernel
theorem d9_54 : decode prog_9_method_2_code 54 = .ok (.if_icmp .lt 32, 3) := by decide +kernel
theorem d9_57 : decode prog_9_method_2_code 57 = .ok (.iload 7, 2) := by decide +kernel
theorem d9_59 : decode prog_9_method_2_code 59 = .ok (.ldc 34, 2) := by decide +kernel
theorem d9_61 : decode prog_9_method_2_code 61 = .ok (.if_icmp .gt 25, 3) := by decide +kernel
theorem d9_86 : decode prog_9_method_2_code 86 = .ok (.iload 5, 2) := by decide +kernel
theorem d9_88 : decode prog_9_method_2_code 88 = .ok (.iload 8, 2) := by decide +kernel
theorem d9_90 : decode prog_9_method_2_code 90 = .ok (.iadd, 1) := by decide +kernel
theorem d9_91 : decode prog_9_method_2_code 91 = .ok (.iload 4, 2) := by decide +kernel
theorem d9_93 : decode prog_9_method_2_code 93 = .ok (.if_icmp .le 25, 3) := by decide +kernel
theorem d9_118 : decode prog_9_method_2_code 118 = .ok (.iload 7, 2) := by decide +kernel
theorem d9_120 : decode prog_9_method_2_code 120 = .ok (.istore 9, 2) := by decide +kernel
theorem d9_122 : decode prog_9_method_2_code 122 = .ok (.iload 5, 2) := by decide +kernel
theorem d9_124 : decode prog_9_method_2_code 124 = .ok (.iload 8, 2) := by decide +kernel
theorem d9_126 : decode prog_9_method_2_code 126 = .ok (.iadd, 1) := by decide +kernel
theorem d9_127 : decode prog_9_method_2_code 127 = .ok (.iconst 1, 1) := by decide +kernel
theorem d9_128 : decode prog_9_method_2_code 128 = .ok (.isub, 1) := by decide +kernel
theorem d9_129 : decode prog_9_method_2_code 129 = .ok (.istore 10, 2) := by decide +kernel
theorem d9_131 : decode prog_9_method_2_code 131 = .ok (.iload 10, 2) := by decide +kernel
theorem d9_133 : decode prog_9_method_2_code 133 = .ok (.iload 5, 2) := by decide +kernel
theorem d9_135 : decode prog_9_method_2_code 135 = .ok (.if_icmp .le 30, 3) := by decide +kernel
theorem d9_138 : decode prog_9_method_2_code 138 = .ok (.aload_n 2, 1) := by decide +kernel
theorem d9_139 : decode prog_9_method_2_code 139 = .ok (.iload 10, 2) := by decide +kernel
theorem d9_141 : decode prog_9_method_2_code 141 = .ok (.sipush 128, 3) := by decide +kernel
theorem d9_144 : decode prog_9_method_2_code 144 = .ok (.iload 9, 2) := by decide +kernel
theorem d9_146 : decode prog_9_method_2_code 146 = .ok (.bipush 63, 2) := by decide +kernel
theorem d9_148 : decode prog_9_method_2_code 148 = .ok (.iand, 1) := by decide +kernel
theorem d9_149 : decode prog_9_method_2_code 149 = .ok (.ior, 1) := by decide +kernel
theorem d9_150 : decode prog_9_method_2_code 150 = .ok (.i2b, 1) := by decide +kernel
theorem d9_151 : decode prog_9_method_2_code 151 = .ok (.bastore, 1) := by decide +kernel
theorem d9_152 : decode prog_9_method_2_code 152 = .ok (.iload 9, 2) := by decide +kernel
theorem d9_154 : decode prog_9_method_2_code 154 = .ok (.bipush 6, 2) := by decide +kernel
theorem d9_156 : decode prog_9_method_2_code 156 = .ok (.iushr, 1) := by decide +kernel
theorem d9_157 : decode prog_9_method_2_code 157 = .ok (.istore 9, 2) := by decide +kernel
theorem d9_159 : decode prog_9_method_2_code 159 = .ok (.iinc 10 (-1), 3) := by decide +kernel
theorem d9_162 : decode prog_9_method_2_code 162 = .ok (.goto (-31), 3) := by decide +kernel
theorem d9_165 : decode prog_9_method_2_code 165 = .ok (.aload_n 2, 1) := by decide +kernel
theorem d9_166 : decode prog_9_method_2_code 166 = .ok (.iload 5, 2) := by decide +kernel
theorem d9_168 : decode prog_9_method_2_code 168 = .ok (.getstatic 63, 3) := by decide +kernel
theorem d9_171 : decode prog_9_method_2_code 171 = .ok (.iload 8, 2) := by decide +kernel
theorem d9_173 : decode prog_9_method_2_code 173 = .ok (.iaload, 1) := by decide +kernel
theorem d9_174 : decode prog_9_method_2_code 174 = .ok (.iload 9, 2) := by decide +kernel
theorem d9_176 : decode prog_9_method_2_code 176 = .ok (.ior, 1) := by decide +kernel
theorem d9_177 : decode prog_9_method_2_code 177 = .ok (.i2b, 1) := by decide +kernel
theorem d9_178 : decode prog_9_method_2_code 178 = .ok (.bastore, 1) := by decide +kernel
theorem d9_179 : decode prog_9_method_2_code 179 = .ok (.iload 5, 2) := by decide +kernel
theorem d9_181 : decode prog_9_method_2_code 181 = .ok (.iload 8, 2) := by decide +kernel
theorem d9_183 : decode prog_9_method_2_code 183 = .ok (.iadd, 1) := by decide +kernel
theorem d9_184 : decode prog_9_method_2_code 184 = .ok (.istore 5, 2) := by decide +kernel
theorem d9_186 : decode prog_9_method_2_code 186 = .ok (.iload 6, 2) := by decide +kernel
theorem d9_188 : decode prog_9_method_2_code 188 = .ok (.iload 7, 2) := by decide +kernel
theorem d9_190 : decode prog_9_method_2_code 190 = .ok (.invokestatic 67, 3) := by decide +kernel
theorem d9_193 : decode prog_9_method_2_code 193 = .ok (.iadd, 1) := by decide +kernel
theorem d9_194 : decode prog_9_method_2_code 194 = .ok (.istore 6, 2) := by decide +kernel
theorem d9_196 : decode prog_9_method_2_code 196 = .ok (.goto (-182), 3) := by decide +kernel
theorem d9_199 : decode prog_9_method_2_code 199 = .ok (.return_, 1) := by decide +kernel
theorem d10_0 : decode prog_3_method_3_code 0 = .ok (.aload_n 0, 1) := by decide +kernel
theorem d10_1 : decode prog_3_method_3_code 1 = .ok (.getfield 13, 3) := by decide +kernel
theorem d10_4 : decode prog_3_method_3_code 4 = .ok (.ireturn, 1) := by decide +kernel
theorem d11_0 : decode jdk_42_method_54_code 0 = .ok (.aload_n 0, 1) := by decide +kernel
theorem d11_1 : decode jdk_42_method_54_code 1 = .ok (.getfield 9, 3) := by decide +kernel
theorem d11_4 : decode jdk_42_method_54_code 4 = .ok (.arraylength, 1) := by decide +kernel
theorem d11_5 : decode jdk_42_method_54_code 5 = .ok (.aload_n 0, 1) := by decide +kernel
theorem d11_6 : decode jdk_42_method_54_code 6 = .ok (.invokevirtual 335, 3) := by decide +kernel
theorem d11_9 : decode jdk_42_method_54_code 9 = .ok (.ishr, 1) := by decide +kernel
theorem d11_10 : decode jdk_42_method_54_code 10 = .ok (.ireturn, 1) := by decide +kernel
theorem d12_0 : decode jdk_42_method_152_code 0 = .ok (.getstatic 38, 3) := by decide +kernel
theorem d12_3 : decode jdk_42_method_152_code 3 = .ok (.ifCond .eq 10, 3) := by decide +kernel
theorem d12_6 : decode jdk_42_method_152_code 6 = .ok (.aload_n 0, 1) := by decide +kernel
theorem d12_7 : decode jdk_42_method_152_code 7 = .ok (.getfield 15, 3) := by decide +kernel
theorem d12_10 : decode jdk_42_method_152_code 10 = .ok (.goto 4, 3) := by decide +kernel
theorem d12_14 : decode jdk_42_method_152_code 14 = .ok (.ireturn, 1) := by decide +kernel
theorem d13_0 : decode method_7_code 0 = .ok (.aload_n 0, 1) := by decide +kernel
theorem d13_1 : decode method_7_code 1 = .ok (.iconst 0, 1) := by decide +kernel
theorem d13_2 : decode method_7_code 2 = .ok (.baload, 1) := by decide +kernel
theorem d13_3 : decode method_7_code 3 = .ok (.aload_n 1, 1) := by decide +kernel
theorem d13_4 : decode method_7_code 4 = .ok (.iconst 0, 1) := by decide +kernel
theorem d13_5 : decode method_7_code 5 = .ok (.baload, 1) := by decide +kernel
theorem d13_6 : decode method_7_code 6 = .ok (.if_icmp .ne 162, 3) := by decide +kernel
theorem d13_9 : decode method_7_code 9 = .ok (.aload_n 0, 1) := by decide +kernel
theorem d13_10 : decode method_7_code 10 = .ok (.iconst 1, 1) := by decide +kernel
theorem d13_11 : decode method_7_code 11 = .ok (.baload, 1) := by decide +kernel
theorem d13_12 : decode method_7_code 12 = .ok (.aload_n 1, 1) := by decide +kernel
theorem d13_13 : decode method_7_code 13 = .ok (.iconst 1, 1) := by decide +kernel
theorem d13_14 : decode method_7_code 14 = .ok (.baload, 1) := by decide +kernel
theorem d13_15 : decode method_7_code 15 = .ok (.if_icmp .ne 153, 3) := by decide +kernel
theorem d13_18 : decode method_7_code 18 = .ok (.aload_n 0, 1) := by decide +kernel
theorem d13_19 : decode method_7_code 19 = .ok (.iconst 2, 1) := by decide +kernel
theorem d13_20 : decode method_7_code 20 = .ok (.baload, 1) := by decide +kernel
theorem d13_21 : decode method_7_code 21 = .ok (.aload_n 1, 1) := by decide +kernel
theorem d13_22 : decode method_7_code 22 = .ok (.iconst 2, 1) := by decide +kernel
theorem d13_23 : decode method_7_code 23 = .ok (.baload, 1) := by decide +kernel
theorem d13_24 : decode method_7_code 24 = .ok (.if_icmp .ne 144, 3) := by decide +kernel
theorem d13_27 : decode method_7_code 27 = .ok (.aload_n 0, 1) := by decide +kernel
theorem d13_28 : decode method_7_code 28 = .ok (.iconst 3, 1) := by decide +kernel
theorem d13_29 : decode method_7_code 29 = .ok (.baload, 1) := by decide +kernel
theorem d13_30 : decode method_7_code 30 = .ok (.aload_n 1, 1) := by decide +kernel
theorem d13_31 : decode method_7_code 31 = .ok (.iconst 3, 1) := by decide +kernel
theorem d13_32 : decode method_7_code 32 = .ok (.baload, 1) := by decide +kernel
theorem d13_33 : decode method_7_code 33 = .ok (.if_icmp .ne 135, 3) := by decide +kernel
theorem d13_36 : decode method_7_code 36 = .ok (.aload_n 0, 1) := by decide +kernel
theorem d13_37 : decode method_7_code 37 = .ok (.iconst 4, 1) := by decide +kernel
theorem d13_38 : decode method_7_code 38 = .ok (.baload, 1) := by decide +kernel
theorem d13_39 : decode method_7_code 39 = .ok (.aload_n 1, 1) := by decide +kernel
theorem d13_40 : decode method_7_code 40 = .ok (.iconst 4, 1) := by decide +kernel
theorem d13_41 : decode method_7_code 41 = .ok (.baload, 1) := by decide +kernel
theorem d13_42 : decode method_7_code 42 = .ok (.if_icmp .ne 126, 3) := by decide +kernel
theorem d13_45 : decode method_7_code 45 = .ok (.aload_n 0, 1) := by decide +kernel
theorem d13_46 : decode method_7_code 46 = .ok (.iconst 5, 1) := by decide +kernel
theorem d13_47 : decode method_7_code 47 = .ok (.baload, 1) := by decide +kernel
theorem d13_48 : decode method_7_code 48 = .ok (.aload_n 1, 1) := by decide +kernel
theorem d13_49 : decode method_7_code 49 = .ok (.iconst 5, 1) := by decide +kernel
theorem d13_50 : decode method_7_code 50 = .ok (.baload, 1) := by decide +kernel
theorem d13_51 : decode method_7_code 51 = .ok (.if_icmp .ne 117, 3) := by decide +kernel
theorem d13_54 : decode method_7_code 54 = .ok (.aload_n 0, 1) := by decide +kernel
theorem d13_55 : decode method_7_code 55 = .ok (.bipush 6, 2) := by decide +kernel
theorem d13_57 : decode method_7_code 57 = .ok (.baload, 1) := by decide +kernel
theorem d13_58 : decode method_7_code 58 = .ok (.aload_n 1, 1) := by decide +kernel
theorem d13_59 : decode method_7_code 59 = .ok (.bipush 6, 2) := by decide +kernel
theorem d13_61 : decode method_7_code 61 = .ok (.baload, 1) := by decide +kernel
theorem d13_62 : decode method_7_code 62 = .ok (.if_icmp .ne 106, 3) := by decide +kernel
theorem d13_65 : decode method_7_code 65 = .ok (.aload_n 0, 1) := by decide +kernel
theorem d13_66 : decode method_7_code 66 = .ok (.bipush 7, 2) := by decide +kernel
theorem d13_68 : decode method_7_code 68 = .ok (.baload, 1) := by decide +kernel
theorem d13_69 : decode method_7_code 69 = .ok (.aload_n 1, 1) := by decide +kernel
theorem d13_70 : decode method_7_code 70 = .ok (.bipush 7, 2) := by decide +kernel
theorem d13_72 : decode method_7_code 72 = .ok (.baload, 1) := by decide +kernel
theorem d13_73 : decode method_7_code 73 = .ok (.if_icmp .ne 95, 3) := by decide +kernel
theorem d13_76 : decode method_7_code 76 = .ok (.aload_n 0, 1) := by decide +kernel
theorem d13_77 : decode method_7_code 77 = .ok (.bipush 8, 2) := by decide +kernel
theorem d13_79 : decode method_7_code 79 = .ok (.baload, 1) := by decide +kernel
theorem d13_80 : decode method_7_code 80 = .ok (.aload_n 1, 1) := by decide +kernel
theorem d13_81 : decode method_7_code 81 = .ok (.bipush 8, 2) := by decide +kernel
theorem d13_83 : decode method_7_code 83 = .ok (.baload, 1) := by decide +kernel
theorem d13_84 : decode method_7_code 84 = .ok (.if_icmp .ne 84, 3) := by decide +kernel
theorem d13_87 : decode method_7_code 87 = .ok (.aload_n 0, 1) := by decide +kernel
theorem d13_88 : decode method_7_code 88 = .ok (.bipush 9, 2) := by decide +kernel
theorem d13_90 : decode method_7_code 90 = .ok (.baload, 1) := by decide +kernel
theorem d13_91 : decode method_7_code 91 = .ok (.aload_n 1, 1) := by decide +kernel
theorem d13_92 : decode method_7_code 92 = .ok (.bipush 9, 2) := by decide +kernel
theorem d13_94 : decode method_7_code 94 = .ok (.baload, 1) := by decide +kernel
theorem d13_95 : decode method_7_code 95 = .ok (.if_icmp .ne 73, 3) := by decide +kernel
theorem d13_98 : decode method_7_code 98 = .ok (.aload_n 0, 1) := by decide +kernel
theorem d13_99 : decode method_7_code 99 = .ok (.bipush 10, 2) := by decide +kernel
theorem d13_101 : decode method_7_code 101 = .ok (.baload, 1) := by decide +kernel
theorem d13_102 : decode method_7_code 102 = .ok (.aload_n 1, 1) := by decide +kernel
theorem d13_103 : decode method_7_code 103 = .ok (.bipush 10, 2) := by decide +kernel
theorem d13_105 : decode method_7_code 105 = .ok (.baload, 1) := by decide +kernel
theorem d13_106 : decode method_7_code 106 = .ok (.if_icmp .ne 62, 3) := by decide +kernel
theorem d13_109 : decode method_7_code 109 = .ok (.aload_n 0, 1) := by decide +kernel
theorem d13_110 : decode method_7_code 110 = .ok (.bipush 11, 2) := by decide +kernel
theorem d13_112 : decode method_7_code 112 = .ok (.baload, 1) := by decide +kernel
theorem d13_113 : decode method_7_code 113 = .ok (.aload_n 1, 1) := by decide +kernel
theorem d13_114 : decode method_7_code 114 = .ok (.bipush 11, 2) := by decide +kernel
theorem d13_116 : decode method_7_code 116 = .ok (.baload, 1) := by decide +kernel
theorem d13_117 : decode method_7_code 117 = .ok (.if_icmp .ne 51, 3) := by decide +kernel
theorem d13_120 : decode method_7_code 120 = .ok (.aload_n 0, 1) := by decide +kernel
theorem d13_121 : decode method_7_code 121 = .ok (.bipush 12, 2) := by decide +kernel
theorem d13_123 : decode method_7_code 123 = .ok (.baload, 1) := by decide +kernel
theorem d13_124 : decode method_7_code 124 = .ok (.aload_n 1, 1) := by decide +kernel
theorem d13_125 : decode method_7_code 125 = .ok (.bipush 12, 2) := by decide +kernel
theorem d13_127 : decode method_7_code 127 = .ok (.baload, 1) := by decide +kernel
theorem d13_128 : decode method_7_code 128 = .ok (.if_icmp .ne 40, 3) := by decide +kernel
theorem d13_131 : decode method_7_code 131 = .ok (.aload_n 0, 1) := by decide +kernel
theorem d13_132 : decode method_7_code 132 = .ok (.bipush 13, 2) := by decide +kernel
theorem d13_134 : decode method_7_code 134 = .ok (.baload, 1) := by decide +kernel
theorem d13_135 : decode method_7_code 135 = .ok (.aload_n 1, 1) := by decide +kernel
theorem d13_136 : decode method_7_code 136 = .ok (.bipush 13, 2) := by decide +kernel
theorem d13_138 : decode method_7_code 138 = .ok (.baload, 1) := by decide +kernel
theorem d13_139 : decode method_7_code 139 = .ok (.if_icmp .ne 29, 3) := by decide +kernel
theorem d13_142 : decode method_7_code 142 = .ok (.aload_n 0, 1) := by decide +kernel
theorem d13_143 : decode method_7_code 143 = .ok (.bipush 14, 2) := by decide +kernel
theorem d13_145 : decode method_7_code 145 = .ok (.baload, 1) := by decide +kernel
theorem d13_146 : decode method_7_code 146 = .ok (.aload_n 1, 1) := by decide +kernel
theorem d13_147 : decode method_7_code 147 = .ok (.bipush 14, 2) := by decide +kernel
theorem d13_149 : decode method_7_code 149 = .ok (.baload, 1) := by decide +kernel
theorem d13_150 : decode method_7_code 150 = .ok (.if_icmp .ne 18, 3) := by decide +kernel
theorem d13_153 : decode method_7_code 153 = .ok (.aload_n 0, 1) := by decide +kernel
theorem d13_154 : decode method_7_code 154 = .ok (.bipush 15, 2) := by decide +kernel
theorem d13_156 : decode method_7_code 156 = .ok (.baload, 1) := by decide +kernel
theorem d13_157 : decode method_7_code 157 = .ok (.aload_n 1, 1) := by decide +kernel
theorem d13_158 : decode method_7_code 158 = .ok (.bipush 15, 2) := by decide +kernel
theorem d13_160 : decode method_7_code 160 = .ok (.baload, 1) := by decide +kernel
theorem d13_161 : decode method_7_code 161 = .ok (.if_icmp .ne 7, 3) := by decide +kernel
theorem d13_164 : decode method_7_code 164 = .ok (.iconst 1, 1) := by decide +kernel
theorem d13_165 : decode method_7_code 165 = .ok (.goto 4, 3) := by decide +kernel
theorem d13_169 : decode method_7_code 169 = .ok (.ireturn, 1) := by decide +kernel
theorem d14_0 : decode method_4_code 0 = .ok (.iload_n 2, 1) := by decide +kernel
theorem d14_1 : decode method_4_code 1 = .ok (.ldc 48, 2) := by decide +kernel
theorem d14_3 : decode method_4_code 3 = .ok (.if_icmp .ge 12, 3) := by decide +kernel
theorem d14_6 : decode method_4_code 6 = .ok (.aload_n 0, 1) := by decide +kernel
theorem d14_7 : decode method_4_code 7 = .ok (.iload_n 1, 1) := by decide +kernel
theorem d14_8 : decode method_4_code 8 = .ok (.iload_n 2, 1) := by decide +kernel
theorem d14_9 : decode method_4_code 9 = .ok (.i2c, 1) := by decide +kernel
theorem d14_10 : decode method_4_code 10 = .ok (.castore, 1) := by decide +kernel
theorem d14_11 : decode method_4_code 11 = .ok (.iload_n 1, 1) := by decide +kernel
theorem d14_12 : decode method_4_code 12 = .ok (.iconst 1, 1) := by decide +kernel
theorem d14_13 : decode method_4_code 13 = .ok (.iadd, 1) := by decide +kernel
theorem d14_14 : decode method_4_code 14 = .ok (.ireturn, 1) := by decide +kernel
theorem d14_15 : decode method_4_code 15 = .ok (.iload_n 2, 1) := by decide +kernel
theorem d14_16 : decode method_4_code 16 = .ok (.ldc 48, 2) := by decide +kernel
theorem d14_18 : decode method_4_code 18 = .ok (.isub, 1) := by decide +kernel
theorem d14_19 : decode method_4_code 19 = .ok (.istore_n 3, 1) := by decide +kernel
theorem d14_20 : decode method_4_code 20 = .ok (.aload_n 0, 1) := by decide +kernel
theorem d14_21 : decode method_4_code 21 = .ok (.iload_n 1, 1) := by decide +kernel
theorem d14_22 : decode method_4_code 22 = .ok (.ldc 47, 2) := by decide +kernel
theorem d14_24 : decode method_4_code 24 = .ok (.iload_n 3, 1) := by decide +kernel
theorem d14_25 : decode method_4_code 25 = .ok (.bipush 10, 2) := by decide +kernel
theorem d14_27 : decode method_4_code 27 = .ok (.iushr, 1) := by decide +kernel
theorem d14_28 : decode method_4_code 28 = .ok (.iadd, 1) := by decide +kernel
theorem d14_29 : decode method_4_code 29 = .ok (.i2c, 1) := by decide +kernel
theorem d14_30 : decode method_4_code 30 = .ok (.castore, 1) := by decide +kernel
theorem d14_31 : decode method_4_code 31 = .ok (.aload_n 0, 1) := by decide +kernel
theorem d14_32 : decode method_4_code 32 = .ok (.iload_n 1, 1) := by decide +kernel
theorem d14_33 : decode method_4_code 33 = .ok (.iconst 1, 1) := by decide +kernel
theorem d14_34 : decode method_4_code 34 = .ok (.iadd, 1) := by decide +kernel
theorem d14_35 : decode method_4_code 35 = .ok (.ldc 50, 2) := by decide +kernel
theorem d14_37 : decode method_4_code 37 = .ok (.iload_n 3, 1) := by decide +kernel
theorem d14_38 : decode method_4_code 38 = .ok (.sipush 1023, 3) := by decide +kernel
theorem d14_41 : decode method_4_code 41 = .ok (.iand, 1) := by decide +kernel
theorem d14_42 : decode method_4_code 42 = .ok (.iadd, 1) := by decide +kernel
theorem d14_43 : decode method_4_code 43 = .ok (.i2c, 1) := by decide +kernel
theorem d14_44 : decode method_4_code 44 = .ok (.castore, 1) := by decide +kernel
theorem d14_45 : decode method_4_code 45 = .ok (.iload_n 1, 1) := by decide +kernel
theorem d14_46 : decode method_4_code 46 = .ok (.iconst 2, 1) := by decide +kernel
theorem d14_47 : decode method_4_code 47 = .ok (.iadd, 1) := by decide +kernel
theorem d14_48 : decode method_4_code 48 = .ok (.ireturn, 1) := by decide +kernel
theorem d15_0 : decode method_5_code 0 = .ok (.iload_n 2, 1) := by decide +kernel
theorem d15_1 : decode method_5_code 1 = .ok (.sipush 128, 3) := by decide +kernel
theorem d15_4 : decode method_5_code 4 = .ok (.if_icmp .ge 10, 3) := by decide +kernel
theorem d15_7 : decode method_5_code 7 = .ok (.aload_n 0, 1) := by decide +kernel
theorem d15_8 : decode method_5_code 8 = .ok (.iload_n 1, 1) := by decide +kernel
theorem d15_9 : decode method_5_code 9 = .ok (.iload_n 2, 1) := by decide +kernel
theorem d15_10 : decode method_5_code 10 = .ok (.i2b, 1) := by decide +kernel
theorem d15_11 : decode method_5_code 11 = .ok (.bastore, 1) := by decide +kernel
theorem d15_12 : decode method_5_code 12 = .ok (.iconst 1, 1) := by decide +kernel
theorem d15_13 : decode method_5_code 13 = .ok (.ireturn, 1) := by decide +kernel
theorem d15_14 : decode method_5_code 14 = .ok (.iload_n 2, 1) := by decide +kernel
theorem d15_15 : decode method_5_code 15 = .ok (.sipush 2048, 3) := by decide +kernel
theorem d15_18 : decode method_5_code 18 = .ok (.if_icmp .ge 31, 3) := by decide +kernel
theorem d15_21 : decode method_5_code 21 = .ok (.aload_n 0, 1) := by decide +kernel
theorem d15_22 : decode method_5_code 22 = .ok (.iload_n 1, 1) := by decide +kernel
theorem d15_23 : decode method_5_code 23 = .ok (.sipush 192, 3) := by decide +kernel
theorem d15_26 : decode method_5_code 26 = .ok (.iload_n 2, 1) := by decide +kernel
theorem d15_27 : decode method_5_code 27 = .ok (.bipush 6, 2) := by decide +kernel
theorem d15_29 : decode method_5_code 29 = .ok (.ishr, 1) := by decide +kernel
theorem d15_30 : decode method_5_code 30 = .ok (.ior, 1) := by decide +kernel
theorem d15_31 : decode method_5_code 31 = .ok (.i2b, 1) := by decide +kernel
theorem d15_32 : decode method_5_code 32 = .ok (.bastore, 1) := by decide +kernel
theorem d15_33 : decode method_5_code 33 = .ok (.aload_n 0, 1) := by decide +kernel
theorem d15_34 : decode method_5_code 34 = .ok (.iload_n 1, 1) := by decide +kernel
theorem d15_35 : decode method_5_code 35 = .ok (.iconst 1, 1) := by decide +kernel
theorem d15_36 : decode method_5_code 36 = .ok (.iadd, 1) := by decide +kernel
theorem d15_37 : decode method_5_code 37 = .ok (.sipush 128, 3) := by decide +kernel
theorem d15_40 : decode method_5_code 40 = .ok (.iload_n 2, 1) := by decide +kernel
theorem d15_41 : decode method_5_code 41 = .ok (.bipush 63, 2) := by decide +kernel
theorem d15_43 : decode method_5_code 43 = .ok (.iand, 1) := by decide +kernel
theorem d15_44 : decode method_5_code 44 = .ok (.ior, 1) := by decide +kernel
theorem d15_45 : decode method_5_code 45 = .ok (.i2b, 1) := by decide +kernel
theorem d15_46 : decode method_5_code 46 = .ok (.bastore, 1) := by decide +kernel
theorem d15_47 : decode method_5_code 47 = .ok (.iconst 2, 1) := by decide +kernel
theorem d15_48 : decode method_5_code 48 = .ok (.ireturn, 1) := by decide +kernel
theorem d15_49 : decode method_5_code 49 = .ok (.iload_n 2, 1) := by decide +kernel
theorem d15_50 : decode method_5_code 50 = .ok (.ldc 48, 2) := by decide +kernel
theorem d15_52 : decode method_5_code 52 = .ok (.if_icmp .ge 48, 3) := by decide +kernel
theorem d15_55 : decode method_5_code 55 = .ok (.aload_n 0, 1) := by decide +kernel
theorem d15_56 : decode method_5_code 56 = .ok (.iload_n 1, 1) := by decide +kernel
theorem d15_57 : decode method_5_code 57 = .ok (.sipush 224, 3) := by decide +kernel
theorem d15_60 : decode method_5_code 60 = .ok (.iload_n 2, 1) := by decide +kernel
theorem d15_61 : decode method_5_code 61 = .ok (.bipush 12, 2) := by decide +kernel
theorem d15_63 : decode method_5_code 63 = .ok (.ishr, 1) := by decide +kernel
theorem d15_64 : decode method_5_code 64 = .ok (.ior, 1) := by decide +kernel
theorem d15_65 : decode method_5_code 65 = .ok (.i2b, 1) := by decide +kernel
theorem d15_66 : decode method_5_code 66 = .ok (.bastore, 1) := by decide +kernel
theorem d15_67 : decode method_5_code 67 = .ok (.aload_n 0, 1) := by decide +kernel
theorem d15_68 : decode method_5_code 68 = .ok (.iload_n 1, 1) := by decide +kernel
theorem d15_69 : decode method_5_code 69 = .ok (.iconst 1, 1) := by decide +kernel
theorem d15_70 : decode method_5_code 70 = .ok (.iadd, 1) := by decide +kernel
theorem d15_71 : decode method_5_code 71 = .ok (.sipush 128, 3) := by decide +kernel
theorem d15_74 : decode method_5_code 74 = .ok (.iload_n 2, 1) := by decide +kernel
theorem d15_75 : decode method_5_code 75 = .ok (.bipush 6, 2) := by decide +kernel
theorem d15_77 : decode method_5_code 77 = .ok (.ishr, 1) := by decide +kernel
theorem d15_78 : decode method_5_code 78 = .ok (.bipush 63, 2) := by decide +kernel
theorem d15_80 : decode method_5_code 80 = .ok (.iand, 1) := by decide +kernel
theorem d15_81 : decode method_5_code 81 = .ok (.ior, 1) := by decide +kernel
theorem d15_82 : decode method_5_code 82 = .ok (.i2b, 1) := by decide +kernel
theorem d15_83 : decode method_5_code 83 = .ok (.bastore, 1) := by decide +kernel
theorem d15_84 : decode method_5_code 84 = .ok (.aload_n 0, 1) := by decide +kernel
theorem d15_85 : decode method_5_code 85 = .ok (.iload_n 1, 1) := by decide +kernel
theorem d15_86 : decode method_5_code 86 = .ok (.iconst 2, 1) := by decide +kernel
theorem d15_87 : decode method_5_code 87 = .ok (.iadd, 1) := by decide +kernel
theorem d15_88 : decode method_5_code 88 = .ok (.sipush 128, 3) := by decide +kernel
theorem d15_91 : decode method_5_code 91 = .ok (.iload_n 2, 1) := by decide +kernel
theorem d15_92 : decode method_5_code 92 = .ok (.bipush 63, 2) := by decide +kernel
theorem d15_94 : decode method_5_code 94 = .ok (.iand, 1) := by decide +kernel
theorem d15_95 : decode method_5_code 95 = .ok (.ior, 1) := by decide +kernel
theorem d15_96 : decode method_5_code 96 = .ok (.i2b, 1) := by decide +kernel
theorem d15_97 : decode method_5_code 97 = .ok (.bastore, 1) := by decide +kernel
theorem d15_98 : decode method_5_code 98 = .ok (.iconst 3, 1) := by decide +kernel
theorem d15_99 : decode method_5_code 99 = .ok (.ireturn, 1) := by decide +kernel
theorem d15_100 : decode method_5_code 100 = .ok (.aload_n 0, 1) := by decide +kernel
theorem d15_101 : decode method_5_code 101 = .ok (.iload_n 1, 1) := by decide +kernel
theorem d15_102 : decode method_5_code 102 = .ok (.sipush 240, 3) := by decide +kernel
theorem d15_105 : decode method_5_code 105 = .ok (.iload_n 2, 1) := by decide +kernel
theorem d15_106 : decode method_5_code 106 = .ok (.bipush 18, 2) := by decide +kernel
theorem d15_108 : decode method_5_code 108 = .ok (.ishr, 1) := by decide +kernel
theorem d15_109 : decode method_5_code 109 = .ok (.ior, 1) := by decide +kernel
theorem d15_110 : decode method_5_code 110 = .ok (.i2b, 1) := by decide +kernel
theorem d15_111 : decode method_5_code 111 = .ok (.bastore, 1) := by decide +kernel
theorem d15_112 : decode method_5_code 112 = .ok (.aload_n 0, 1) := by decide +kernel
theorem d15_113 : decode method_5_code 113 = .ok (.iload_n 1, 1) := by decide +kernel
theorem d15_114 : decode method_5_code 114 = .ok (.iconst 1, 1) := by decide +kernel
theorem d15_115 : decode method_5_code 115 = .ok (.iadd, 1) := by decide +kernel
theorem d15_116 : decode method_5_code 116 = .ok (.sipush 128, 3) := by decide +kernel
theorem d15_119 : decode method_5_code 119 = .ok (.iload_n 2, 1) := by decide +kernel
theorem d15_120 : decode method_5_code 120 = .ok (.bipush 12, 2) := by decide +kernel
theorem d15_122 : decode method_5_code 122 = .ok (.ishr, 1) := by decide +kernel
theorem d15_123 : decode method_5_code 123 = .ok (.bipush 63, 2) := by decide +kernel
theorem d15_125 : decode method_5_code 125 = .ok (.iand, 1) := by decide +kernel
theorem d15_126 : decode method_5_code 126 = .ok (.ior, 1) := by decide +kernel
theorem d15_127 : decode method_5_code 127 = .ok (.i2b, 1) := by decide +kernel
theorem d15_128 : decode method_5_code 128 = .ok (.bastore, 1) := by decide +kernel
theorem d15_129 : decode method_5_code 129 = .ok (.aload_n 0, 1) := by decide +kernel
theorem d15_130 : decode method_5_code 130 = .ok (.iload_n 1, 1) := by decide +kernel
theorem d15_131 : decode method_5_code 131 = .ok (.iconst 2, 1) := by decide +kernel
theorem d15_132 : decode method_5_code 132 = .ok (.iadd, 1) := by decide +kernel
theorem d15_133 : decode method_5_code 133 = .ok (.sipush 128, 3) := by decide +kernel
theorem d15_136 : decode method_5_code 136 = .ok (.iload_n 2, 1) := by decide +kernel
theorem d15_137 : decode method_5_code 137 = .ok (.bipush 6, 2) := by decide +kernel
theorem d15_139 : decode method_5_code 139 = .ok (.ishr, 1) := by decide +kernel
theorem d15_140 : decode method_5_code 140 = .ok (.bipush 63, 2) := by decide +kernel
theorem d15_142 : decode method_5_code 142 = .ok (.iand, 1) := by decide +kernel
theorem d15_143 : decode method_5_code 143 = .ok (.ior, 1) := by decide +kernel
theorem d15_144 : decode method_5_code 144 = .ok (.i2b, 1) := by decide +kernel
theorem d15_145 : decode method_5_code 145 = .ok (.bastore, 1) := by decide +kernel
theorem d15_146 : decode method_5_code 146 = .ok (.aload_n 0, 1) := by decide +kernel
theorem d15_147 : decode method_5_code 147 = .ok (.iload_n 1, 1) := by decide +kernel
theorem d15_148 : decode method_5_code 148 = .ok (.iconst 3, 1) := by decide +kernel
theorem d15_149 : decode method_5_code 149 = .ok (.iadd, 1) := by decide +kernel
theorem d15_150 : decode method_5_code 150 = .ok (.sipush 128, 3) := by decide +kernel
theorem d15_153 : decode method_5_code 153 = .ok (.iload_n 2, 1) := by decide +kernel
theorem d15_154 : decode method_5_code 154 = .ok (.bipush 63, 2) := by decide +kernel
theorem d15_156 : decode method_5_code 156 = .ok (.iand, 1) := by decide +kernel
theorem d15_157 : decode method_5_code 157 = .ok (.ior, 1) := by decide +kernel
theorem d15_158 : decode method_5_code 158 = .ok (.i2b, 1) := by decide +kernel
theorem d15_159 : decode method_5_code 159 = .ok (.bastore, 1) := by decide +kernel
theorem d15_160 : decode method_5_code 160 = .ok (.iconst 4, 1) := by decide +kernel
theorem d15_161 : decode method_5_code 161 = .ok (.ireturn, 1) := by decide +kernel
theorem d16_0 : decode jdk_52_method_16_code 0 = .ok (.iload_n 2, 1) := by decide +kernel
theorem d16_1 : decode jdk_52_method_16_code 1 = .ok (.newarray .byte, 2) := by decide +kernel
theorem d16_3 : decode jdk_52_method_16_code 3 = .ok (.astore_n 3, 1) := by decide +kernel
theorem d16_4 : decode jdk_52_method_16_code 4 = .ok (.aload_n 0, 1) := by decide +kernel
theorem d16_5 : decode jdk_52_method_16_code 5 = .ok (.iload_n 1, 1) := by decide +kernel
theorem d16_6 : decode jdk_52_method_16_code 6 = .ok (.aload_n 3, 1) := by decide +kernel
theorem d16_7 : decode jdk_52_method_16_code 7 = .ok (.iconst 0, 1) := by decide +kernel
theorem d16_8 : decode jdk_52_method_16_code 8 = .ok (.iload_n 2, 1) := by decide +kernel
theorem d16_9 : decode jdk_52_method_16_code 9 = .ok (.invokestatic 115, 3) := by decide +kernel
theorem d16_12 : decode jdk_52_method_16_code 12 = .ok (.istore 4, 2) := by decide +kernel
theorem d16_14 : decode jdk_52_method_16_code 14 = .ok (.iload 4, 2) := by decide +kernel
theorem d16_16 : decode jdk_52_method_16_code 16 = .ok (.iload_n 2, 1) := by decide +kernel
theorem d16_17 : decode jdk_52_method_16_code 17 = .ok (.if_icmp .eq 40, 3) := by decide +kernel
theorem d16_20 : decode jdk_52_method_16_code 20 = .ok (.aload_n 0, 1) := by decide +kernel
theorem d16_21 : decode jdk_52_method_16_code 21 = .ok (.iload_n 1, 1) := by decide +kernel
theorem d16_22 : decode jdk_52_method_16_code 22 = .ok (.iload_n 2, 1) := by decide +kernel
theorem d16_23 : decode jdk_52_method_16_code 23 = .ok (.invokestatic 119, 3) := by decide +kernel
theorem d16_26 : decode jdk_52_method_16_code 26 = .ok (.astore 5, 2) := by decide +kernel
theorem d16_28 : decode jdk_52_method_16_code 28 = .ok (.aload 5, 2) := by decide +kernel
theorem d16_30 : decode jdk_52_method_16_code 30 = .ok (.iload 4, 2) := by decide +kernel
theorem d16_32 : decode jdk_52_method_16_code 32 = .ok (.invokestatic 71, 3) := by decide +kernel
theorem d16_35 : decode jdk_52_method_16_code 35 = .ok (.sipush 255, 3) := by decide +kernel
theorem d16_38 : decode jdk_52_method_16_code 38 = .ok (.if_icmp .gt 16, 3) := by decide +kernel
theorem d16_54 : decode jdk_52_method_16_code 54 = .ok (.aload 5, 2) := by decide +kernel
theorem d16_56 : decode jdk_52_method_16_code 56 = .ok (.areturn, 1) := by decide +kernel
theorem d16_57 : decode jdk_52_method_16_code 57 = .ok (.aload_n 3, 1) := by decide +kernel
theorem d16_58 : decode jdk_52_method_16_code 58 = .ok (.areturn, 1) := by decide +kernel
theorem d17_0 : decode jdk_52_method_21_code 0 = .ok (.iconst 0, 1) := by decide +kernel
theorem d17_1 : decode jdk_52_method_21_code 1 = .ok (.istore 5, 2) := by decide +kernel
theorem d17_3 : decode jdk_52_method_21_code 3 = .ok (.iload 5, 2) := by decide +kernel
theorem d17_5 : decode jdk_52_method_21_code 5 = .ok (.iload 4, 2) := by decide +kernel
theorem d17_7 : decode jdk_52_method_21_code 7 = .ok (.if_icmp .ge 37, 3) := by decide +kernel
theorem d17_10 : decode jdk_52_method_21_code 10 = .ok (.aload_n 0, 1) := by decide +kernel
theorem d17_11 : decode jdk_52_method_21_code 11 = .ok (.iload_n 1, 1) := by decide +kernel
theorem d17_12 : decode jdk_52_method_21_code 12 = .ok (.caload, 1) := by decide +kernel
theorem d17_13 : decode jdk_52_method_21_code 13 = .ok (.istore 6, 2) := by decide +kernel
theorem d17_15 : decode jdk_52_method_21_code 15 = .ok (.iload 6, 2) := by decide +kernel
theorem d17_17 : decode jdk_52_method_21_code 17 = .ok (.sipush 255, 3) := by decide +kernel
theorem d17_20 : decode jdk_52_method_21_code 20 = .ok (.if_icmp .le 6, 3) := by decide +kernel
theorem d17_23 : decode jdk_52_method_21_code 23 = .ok (.iload 5, 2) := by decide +kernel
theorem d17_25 : decode jdk_52_method_21_code 25 = .ok (.ireturn, 1) := by decide +kernel
theorem d17_26 : decode jdk_52_method_21_code 26 = .ok (.aload_n 2, 1) := by decide +kernel
theorem d17_27 : decode jdk_52_method_21_code 27 = .ok (.iload_n 3, 1) := by decide +kernel
theorem d17_28 : decode jdk_52_method_21_code 28 = .ok (.iload 6, 2) := by decide +kernel
theorem d17_30 : decode jdk_52_method_21_code 30 = .ok (.i2b, 1) := by decide +kernel
theorem d17_31 : decode jdk_52_method_21_code 31 = .ok (.bastore, 1) := by decide +kernel
theorem d17_32 : decode jdk_52_method_21_code 32 = .ok (.iinc 1 1, 3) := by decide +kernel
theorem d17_35 : decode jdk_52_method_21_code 35 = .ok (.iinc 3 1, 3) := by decide +kernel
theorem d17_38 : decode jdk_52_method_21_code 38 = .ok (.iinc 5 1, 3) := by decide +kernel
theorem d17_41 : decode jdk_52_method_21_code 41 = .ok (.goto (-38), 3) := by decide +kernel
theorem d17_44 : decode jdk_52_method_21_code 44 = .ok (.iload 4, 2) := by decide +kernel
theorem d17_46 : decode jdk_52_method_21_code 46 = .ok (.ireturn, 1) := by decide +kernel
theorem d18_0 : decode jdk_52_method_15_code 0 = .ok (.iload_n 1, 1) := by decide +kernel
theorem d18_1 : decode jdk_52_method_15_code 1 = .ok (.aload_n 0, 1) := by decide +kernel
theorem d18_2 : decode jdk_52_method_15_code 2 = .ok (.arraylength, 1) := by decide +kernel
theorem d18_3 : decode jdk_52_method_15_code 3 = .ok (.isub, 1) := by decide +kernel
theorem d18_4 : decode jdk_52_method_15_code 4 = .ok (.bipush 31, 2) := by decide +kernel
theorem d18_6 : decode jdk_52_method_15_code 6 = .ok (.iushr, 1) := by decide +kernel
theorem d18_7 : decode jdk_52_method_15_code 7 = .ok (.i2b, 1) := by decide +kernel
theorem d18_8 : decode jdk_52_method_15_code 8 = .ok (.ireturn, 1) := by decide +kernel
theorem d19_0 : decode jdk_42_method_57_code 0 = .ok (.aload_n 0, 1) := by decide +kernel
theorem d19_1 : decode jdk_42_method_57_code 1 = .ok (.invokevirtual 492, 3) := by decide +kernel
theorem d19_4 : decode jdk_42_method_57_code 4 = .ok (.ifCond .eq 23, 3) := by decide +kernel
theorem d19_7 : decode jdk_42_method_57_code 7 = .ok (.iload_n 1, 1) := by decide +kernel
theorem d19_8 : decode jdk_42_method_57_code 8 = .ok (.aload_n 0, 1) := by decide +kernel
theorem d19_9 : decode jdk_42_method_57_code 9 = .ok (.getfield 9, 3) := by decide +kernel
theorem d19_12 : decode jdk_42_method_57_code 12 = .ok (.arraylength, 1) := by decide +kernel
theorem d19_13 : decode jdk_42_method_57_code 13 = .ok (.invokestatic 499, 3) := by decide +kernel
theorem d19_16 : decode jdk_42_method_57_code 16 = .ok (.aload_n 0, 1) := by decide +kernel
theorem d19_17 : decode jdk_42_method_57_code 17 = .ok (.getfield 9, 3) := by decide +kernel
theorem d19_20 : decode jdk_42_method_57_code 20 = .ok (.iload_n 1, 1) := by decide +kernel
theorem d19_21 : decode jdk_42_method_57_code 21 = .ok (.baload, 1) := by decide +kernel
theorem d19_22 : decode jdk_42_method_57_code 22 = .ok (.sipush 255, 3) := by decide +kernel
theorem d19_25 : decode jdk_42_method_57_code 25 = .ok (.iand, 1) := by decide +kernel
theorem d19_26 : decode jdk_42_method_57_code 26 = .ok (.ireturn, 1) := by decide +kernel
theorem d19_27 : decode jdk_42_method_57_code 27 = .ok (.aload_n 0, 1) := by decide +kernel
theorem d19_28 : decode jdk_42_method_57_code 28 = .ok (.getfield 9, 3) := by decide +kernel
theorem d19_31 : decode jdk_42_method_57_code 31 = .ok (.arraylength, 1) := by decide +kernel
theorem d19_32 : decode jdk_42_method_57_code 32 = .ok (.iconst 1, 1) := by decide +kernel
theorem d19_33 : decode jdk_42_method_57_code 33 = .ok (.ishr, 1) := by decide +kernel
theorem d19_34 : decode jdk_42_method_57_code 34 = .ok (.istore_n 2, 1) := by decide +kernel
theorem d19_35 : decode jdk_42_method_57_code 35 = .ok (.iload_n 1, 1) := by decide +kernel
theorem d19_36 : decode jdk_42_method_57_code 36 = .ok (.iload_n 2, 1) := by decide +kernel
theorem d19_37 : decode jdk_42_method_57_code 37 = .ok (.invokestatic 499, 3) := by decide +kernel
theorem d19_40 : decode jdk_42_method_57_code 40 = .ok (.aload_n 0, 1) := by decide +kernel
theorem d19_41 : decode jdk_42_method_57_code 41 = .ok (.getfield 9, 3) := by decide +kernel
theorem d19_44 : decode jdk_42_method_57_code 44 = .ok (.iload_n 1, 1) := by decide +kernel
theorem d19_45 : decode jdk_42_method_57_code 45 = .ok (.iload_n 2, 1) := by decide +kernel
theorem d19_46 : decode jdk_42_method_57_code 46 = .ok (.invokestatic 502, 3) := by decide +kernel
theorem d19_49 : decode jdk_42_method_57_code 49 = .ok (.ireturn, 1) := by decide +kernel
theorem d20_0 : decode jdk_42_method_154_code 0 = .ok (.getstatic 38, 3) := by decide +kernel
theorem d20_3 : decode jdk_42_method_154_code 3 = .ok (.ifCond .eq 14, 3) := by decide +kernel
theorem d20_6 : decode jdk_42_method_154_code 6 = .ok (.aload_n 0, 1) := by decide +kernel
theorem d20_7 : decode jdk_42_method_154_code 7 = .ok (.getfield 15, 3) := by decide +kernel
theorem d20_10 : decode jdk_42_method_154_code 10 = .ok (.ifCond .ne 7, 3) := by decide +kernel
theorem d20_13 : decode jdk_42_method_154_code 13 = .ok (.iconst 1, 1) := by decide +kernel
theorem d20_14 : decode jdk_42_method_154_code 14 = .ok (.goto 4, 3) := by decide +kernel
theorem d20_17 : decode jdk_42_method_154_code 17 = .ok (.iconst 0, 1) := by decide +kernel
theorem d20_18 : decode jdk_42_method_154_code 18 = .ok (.ireturn, 1) := by decide +kernel
theorem d21_0 : decode jdk_42_method_155_code 0 = .ok (.iload_n 0, 1) := by decide +kernel
theorem d21_1 : decode jdk_42_method_155_code 1 = .ok (.iload_n 1, 1) := by decide +kernel
theorem d21_2 : decode jdk_42_method_155_code 2 = .ok (.getstatic 1053, 3) := by decide +kernel
theorem d21_5 : decode jdk_42_method_155_code 5 = .ok (.invokestatic 1059, 3) := by decide +kernel
theorem d21_8 : decode jdk_42_method_155_code 8 = .ok (.pop, 1) := by decide +kernel
theorem d21_9 : decode jdk_42_method_155_code 9 = .ok (.return_, 1) := by decide +kernel
theorem d22_0 : decode jdk_41_method_11_code 0 = .ok (.iload_n 0, 1) := by decide +kernel
theorem d22_1 : decode jdk_41_method_11_code 1 = .ok (.ifCond .lt 8, 3) := by decide +kernel
theorem d22_4 : decode jdk_41_method_11_code 4 = .ok (.iload_n 0, 1) := by decide +kernel
theorem d22_5 : decode jdk_41_method_11_code 5 = .ok (.iload_n 1, 1) := by decide +kernel
theorem d22_6 : decode jdk_41_method_11_code 6 = .ok (.if_icmp .lt 10, 3) := by decide +kernel
theorem d22_16 : decode jdk_41_method_11_code 16 = .ok (.iload_n 0, 1) := by decide +kernel
theorem d22_17 : decode jdk_41_method_11_code 17 = .ok (.ireturn, 1) := by decide +kernel
theorem d23_0 : decode prog_9_method_4_code 0 = .ok (.iload_n 0, 1) := by decide +kernel
theorem d23_1 : decode prog_9_method_4_code 1 = .ok (.sipush 128, 3) := by decide +kernel
theorem d23_4 : decode prog_9_method_4_code 4 = .ok (.if_icmp .ge 8, 3) := by decide +kernel
theorem d23_7 : decode prog_9_method_4_code 7 = .ok (.iconst 1, 1) := by decide +kernel
theorem d23_8 : decode prog_9_method_4_code 8 = .ok (.istore_n 1, 1) := by decide +kernel
theorem d23_9 : decode prog_9_method_4_code 9 = .ok (.goto 28, 3) := by decide +kernel
theorem d23_12 : decode prog_9_method_4_code 12 = .ok (.iload_n 0, 1) := by decide +kernel
theorem d23_13 : decode prog_9_method_4_code 13 = .ok (.sipush 2048, 3) := by decide +kernel
theorem d23_16 : decode prog_9_method_4_code 16 = .ok (.if_icmp .ge 8, 3) := by decide +kernel
theorem d23_19 : decode prog_9_method_4_code 19 = .ok (.iconst 2, 1) := by decide +kernel
theorem d23_20 : decode prog_9_method_4_code 20 = .ok (.istore_n 1, 1) := by decide +kernel
theorem d23_21 : decode prog_9_method_4_code 21 = .ok (.goto 16, 3) := by decide +kernel
theorem d23_24 : decode prog_9_method_4_code 24 = .ok (.iload_n 0, 1) := by decide +kernel
theorem d23_25 : decode prog_9_method_4_code 25 = .ok (.ldc 126, 2) := by decide +kernel
theorem d23_27 : decode prog_9_method_4_code 27 = .ok (.if_icmp .ge 8, 3) := by decide +kernel
theorem d23_30 : decode prog_9_method_4_code 30 = .ok (.iconst 3, 1) := by decide +kernel
theorem d23_31 : decode prog_9_method_4_code 31 = .ok (.istore_n 1, 1) := by decide +kernel
theorem d23_32 : decode prog_9_method_4_code 32 = .ok (.goto 5, 3) := by decide +kernel
theorem d23_35 : decode prog_9_method_4_code 35 = .ok (.iconst 4, 1) := by decide +kernel
theorem d23_36 : decode prog_9_method_4_code 36 = .ok (.istore_n 1, 1) := by decide +kernel
theorem d23_37 : decode prog_9_method_4_code 37 = .ok (.iload_n 1, 1) := by decide +kernel
theorem d23_38 : decode prog_9_method_4_code 38 = .ok (.ireturn, 1) := by decide +kernel
theorem d24_0 : decode jdk_89_method_18_code 0 = .ok (.iload_n 0, 1) := by decide +kernel
theorem d24_1 : decode jdk_89_method_18_code 1 = .ok (.ldc 73, 2) := by decide +kernel
theorem d24_3 : decode jdk_89_method_18_code 3 = .ok (.if_icmp .lt 7, 3) := by decide +kernel
theorem d24_6 : decode jdk_89_method_18_code 6 = .ok (.iconst 2, 1) := by decide +kernel
theorem d24_7 : decode jdk_89_method_18_code 7 = .ok (.goto 4, 3) := by decide +kernel
theorem d24_10 : decode jdk_89_method_18_code 10 = .ok (.iconst 1, 1) := by decide +kernel
theorem d24_11 : decode jdk_89_method_18_code 11 = .ok (.ireturn, 1) := by decide +kernel
theorem d25_0 : decode jdk_52_method_14_code 0 = .ok (.iload_n 2, 1) := by decide +kernel
theorem d25_1 : decode jdk_52_method_14_code 1 = .ok (.invokestatic 107, 3) := by decide +kernel
theorem d25_4 : decode jdk_52_method_14_code 4 = .ok (.astore_n 3, 1) := by decide +kernel
theorem d25_5 : decode jdk_52_method_14_code 5 = .ok (.iconst 0, 1) := by decide +kernel
theorem d25_6 : decode jdk_52_method_14_code 6 = .ok (.istore 4, 2) := by decide +kernel
theorem d25_8 : decode jdk_52_method_14_code 8 = .ok (.iload 4, 2) := by decide +kernel
theorem d25_10 : decode jdk_52_method_14_code 10 = .ok (.iload_n 2, 1) := by decide +kernel
theorem d25_11 : decode jdk_52_method_14_code 11 = .ok (.if_icmp .ge 21, 3) := by decide +kernel
theorem d25_14 : decode jdk_52_method_14_code 14 = .ok (.aload_n 3, 1) := by decide +kernel
theorem d25_15 : decode jdk_52_method_14_code 15 = .ok (.iload 4, 2) := by decide +kernel
theorem d25_17 : decode jdk_52_method_14_code 17 = .ok (.aload_n 0, 1) := by decide +kernel
theorem d25_18 : decode jdk_52_method_14_code 18 = .ok (.iload_n 1, 1) := by decide +kernel
theorem d25_19 : decode jdk_52_method_14_code 19 = .ok (.caload, 1) := by decide +kernel
theorem d25_20 : decode jdk_52_method_14_code 20 = .ok (.invokestatic 111, 3) := by decide +kernel
theorem d25_23 : decode jdk_52_method_14_code 23 = .ok (.iinc 1 1, 3) := by decide +kernel
theorem d25_26 : decode jdk_52_method_14_code 26 = .ok (.iinc 4 1, 3) := by decide +kernel
theorem d25_29 : decode jdk_52_method_14_code 29 = .ok (.goto (-21), 3) := by decide +kernel
theorem d25_32 : decode jdk_52_method_14_code 32 = .ok (.aload_n 3, 1) := by decide +kernel
theorem d25_33 : decode jdk_52_method_14_code 33 = .ok (.areturn, 1) := by decide +kernel
theorem d26_0 : decode jdk_52_method_2_code 0 = .ok (.iload_n 0, 1) := by decide +kernel
theorem d26_1 : decode jdk_52_method_2_code 1 = .ok (.invokestatic 11, 3) := by decide +kernel
theorem d26_4 : decode jdk_52_method_2_code 4 = .ok (.newarray .byte, 2) := by decide +kernel
theorem d26_6 : decode jdk_52_method_2_code 6 = .ok (.areturn, 1) := by decide +kernel
theorem d27_0 : decode jdk_52_method_3_code 0 = .ok (.iload_n 0, 1) := by decide +kernel
theorem d27_1 : decode jdk_52_method_3_code 1 = .ok (.ifCond .ge 11, 3) := by decide +kernel
theorem d27_12 : decode jdk_52_method_3_code 12 = .ok (.iload_n 0, 1) := by decide +kernel
theorem d27_13 : decode jdk_52_method_3_code 13 = .ok (.ldc 20, 2) := by decide +kernel
theorem d27_15 : decode jdk_52_method_3_code 15 = .ok (.if_icmp .lt 40, 3) := by decide +kernel
theorem d27_55 : decode jdk_52_method_3_code 55 = .ok (.iload_n 0, 1) := by decide +kernel
theorem d27_56 : decode jdk_52_method_3_code 56 = .ok (.iconst 1, 1) := by decide +kernel
theorem d27_57 : decode jdk_52_method_3_code 57 = .ok (.ishl, 1) := by decide +kernel
theorem d27_58 : decode jdk_52_method_3_code 58 = .ok (.ireturn, 1) := by decide +kernel
theorem d28_0 : decode jdk_52_method_4_code 0 = .ok (.getstatic 44, 3) := by decide +kernel
theorem d28_3 : decode jdk_52_method_4_code 3 = .ok (.ifCond .ne 25, 3) := by decide +kernel
theorem d28_28 : decode jdk_52_method_4_code 28 = .ok (.iload_n 1, 1) := by decide +kernel
theorem d28_29 : decode jdk_52_method_4_code 29 = .ok (.iconst 1, 1) := by decide +kernel
theorem d28_30 : decode jdk_52_method_4_code 30 = .ok (.ishl, 1) := by decide +kernel
theorem d28_31 : decode jdk_52_method_4_code 31 = .ok (.istore_n 1, 1) := by decide +kernel
theorem d28_32 : decode jdk_52_method_4_code 32 = .ok (.aload_n 0, 1) := by decide +kernel
theorem d28_33 : decode jdk_52_method_4_code 33 = .ok (.iload_n 1, 1) := by decide +kernel
theorem d28_34 : decode jdk_52_method_4_code 34 = .ok (.iinc 1 1, 3) := by decide +kernel
theorem d28_37 : decode jdk_52_method_4_code 37 = .ok (.iload_n 2, 1) := by decide +kernel
theorem d28_38 : decode jdk_52_method_4_code 38 = .ok (.getstatic 59, 3) := by decide +kernel
theorem d28_41 : decode jdk_52_method_4_code 41 = .ok (.ishr, 1) := by decide +kernel
theorem d28_42 : decode jdk_52_method_4_code 42 = .ok (.i2b, 1) := by decide +kernel
theorem d28_43 : decode jdk_52_method_4_code 43 = .ok (.bastore, 1) := by decide +kernel
theorem d28_44 : decode jdk_52_method_4_code 44 = .ok (.aload_n 0, 1) := by decide +kernel
theorem d28_45 : decode jdk_52_method_4_code 45 = .ok (.iload_n 1, 1) := by decide +kernel
theorem d28_46 : decode jdk_52_method_4_code 46 = .ok (.iload_n 2, 1) := by decide +kernel
theorem d28_47 : decode jdk_52_method_4_code 47 = .ok (.getstatic 63, 3) := by decide +kernel
theorem d28_50 : decode jdk_52_method_4_code 50 = .ok (.ishr, 1) := by decide +kernel
theorem d28_51 : decode jdk_52_method_4_code 51 = .ok (.i2b, 1) := by decide +kernel
theorem d28_52 : decode jdk_52_method_4_code 52 = .ok (.bastore, 1) := by decide +kernel
theorem d28_53 : decode jdk_52_method_4_code 53 = .ok (.return_, 1) := by decide +kernel
theorem d29_0 : decode jdk_52_method_5_code 0 = .ok (.getstatic 44, 3) := by decide +kernel
theorem d29_3 : decode jdk_52_method_5_code 3 = .ok (.ifCond .ne 25, 3) := by decide +kernel
theorem d29_28 : decode jdk_52_method_5_code 28 = .ok (.iload_n 1, 1) := by decide +kernel
theorem d29_29 : decode jdk_52_method_5_code 29 = .ok (.iconst 1, 1) := by decide +kernel
theorem d29_30 : decode jdk_52_method_5_code 30 = .ok (.ishl, 1) := by decide +kernel
theorem d29_31 : decode jdk_52_method_5_code 31 = .ok (.istore_n 1, 1) := by decide +kernel
theorem d29_32 : decode jdk_52_method_5_code 32 = .ok (.aload_n 0, 1) := by decide +kernel
theorem d29_33 : decode jdk_52_method_5_code 33 = .ok (.iload_n 1, 1) := by decide +kernel
theorem d29_34 : decode jdk_52_method_5_code 34 = .ok (.iinc 1 1, 3) := by decide +kernel
theorem d29_37 : decode jdk_52_method_5_code 37 = .ok (.baload, 1) := by decide +kernel
theorem d29_38 : decode jdk_52_method_5_code 38 = .ok (.sipush 255, 3) := by decide +kernel
theorem d29_41 : decode jdk_52_method_5_code 41 = .ok (.iand, 1) := by decide +kernel
theorem d29_42 : decode jdk_52_method_5_code 42 = .ok (.getstatic 59, 3) := by decide +kernel
theorem d29_45 : decode jdk_52_method_5_code 45 = .ok (.ishl, 1) := by decide +kernel
theorem d29_46 : decode jdk_52_method_5_code 46 = .ok (.aload_n 0, 1) := by decide +kernel
theorem d29_47 : decode jdk_52_method_5_code 47 = .ok (.iload_n 1, 1) := by decide +kernel
theorem d29_48 : decode jdk_52_method_5_code 48 = .ok (.baload, 1) := by decide +kernel
theorem d29_49 : decode jdk_52_method_5_code 49 = .ok (.sipush 255, 3) := by decide +kernel
theorem d29_52 : decode jdk_52_method_5_code 52 = .ok (.iand, 1) := by decide +kernel
theorem d29_53 : decode jdk_52_method_5_code 53 = .ok (.getstatic 63, 3) := by decide +kernel
theorem d29_56 : decode jdk_52_method_5_code 56 = .ok (.ishl, 1) := by decide +kernel
theorem d29_57 : decode jdk_52_method_5_code 57 = .ok (.ior, 1) := by decide +kernel
theorem d29_58 : decode jdk_52_method_5_code 58 = .ok (.i2c, 1) := by decide +kernel
theorem d29_59 : decode jdk_52_method_5_code 59 = .ok (.ireturn, 1) := by decide +kernel
theorem d30_0 : decode jdk_52_method_8_code 0 = .ok (.aload_n 0, 1) := by decide +kernel
theorem d30_1 : decode jdk_52_method_8_code 1 = .ok (.iload_n 1, 1) := by decide +kernel
theorem d30_2 : decode jdk_52_method_8_code 2 = .ok (.iload_n 2, 1) := by decide +kernel
theorem d30_3 : decode jdk_52_method_8_code 3 = .ok (.iconst 0, 1) := by decide +kernel
theorem d30_4 : decode jdk_52_method_8_code 4 = .ok (.invokestatic 88, 3) := by decide +kernel
theorem d30_7 : decode jdk_52_method_8_code 7 = .ok (.ireturn, 1) := by decide +kernel
theorem d31_0 : decode jdk_52_method_7_code 0 = .ok (.getstatic 44, 3) := by decide +kernel
theorem d31_3 : decode jdk_52_method_7_code 3 = .ok (.ifCond .ne 16, 3) := by decide +kernel
theorem d31_19 : decode jdk_52_method_7_code 19 = .ok (.iload_n 3, 1) := by decide +kernel
theorem d31_20 : decode jdk_52_method_7_code 20 = .ok (.ifCond .eq 8, 3) := by decide +kernel
theorem d31_28 : decode jdk_52_method_7_code 28 = .ok (.aload_n 0, 1) := by decide +kernel
theorem d31_29 : decode jdk_52_method_7_code 29 = .ok (.iload_n 1, 1) := by decide +kernel
theorem d31_30 : decode jdk_52_method_7_code 30 = .ok (.invokestatic 71, 3) := by decide +kernel
theorem d31_33 : decode jdk_52_method_7_code 33 = .ok (.istore 4, 2) := by decide +kernel
theorem d31_35 : decode jdk_52_method_7_code 35 = .ok (.iload 4, 2) := by decide +kernel
theorem d31_37 : decode jdk_52_method_7_code 37 = .ok (.invokestatic 75, 3) := by decide +kernel
theorem d31_40 : decode jdk_52_method_7_code 40 = .ok (.ifCond .eq 43, 3) := by decide +kernel
theorem d31_43 : decode jdk_52_method_7_code 43 = .ok (.iinc 1 1, 3) := by decide +kernel
theorem d31_46 : decode jdk_52_method_7_code 46 = .ok (.iload_n 1, 1) := by decide +kernel
theorem d31_47 : decode jdk_52_method_7_code 47 = .ok (.iload_n 2, 1) := by decide +kernel
theorem d31_48 : decode jdk_52_method_7_code 48 = .ok (.if_icmp .ge 35, 3) := by decide +kernel
theorem d31_51 : decode jdk_52_method_7_code 51 = .ok (.iload_n 3, 1) := by decide +kernel
theorem d31_52 : decode jdk_52_method_7_code 52 = .ok (.ifCond .eq 8, 3) := by decide +kernel
theorem d31_60 : decode jdk_52_method_7_code 60 = .ok (.aload_n 0, 1) := by decide +kernel
theorem d31_61 : decode jdk_52_method_7_code 61 = .ok (.iload_n 1, 1) := by decide +kernel
theorem d31_62 : decode jdk_52_method_7_code 62 = .ok (.invokestatic 71, 3) := by decide +kernel
theorem d31_65 : decode jdk_52_method_7_code 65 = .ok (.istore 5, 2) := by decide +kernel
theorem d31_67 : decode jdk_52_method_7_code 67 = .ok (.iload 5, 2) := by decide +kernel
theorem d31_69 : decode jdk_52_method_7_code 69 = .ok (.invokestatic 81, 3) := by decide +kernel
theorem d31_72 : decode jdk_52_method_7_code 72 = .ok (.ifCond .eq 11, 3) := by decide +kernel
theorem d31_75 : decode jdk_52_method_7_code 75 = .ok (.iload 4, 2) := by decide +kernel
theorem d31_77 : decode jdk_52_method_7_code 77 = .ok (.iload 5, 2) := by decide +kernel
theorem d31_79 : decode jdk_52_method_7_code 79 = .ok (.invokestatic 84, 3) := by decide +kernel
theorem d31_82 : decode jdk_52_method_7_code 82 = .ok (.ireturn, 1) := by decide +kernel
theorem d31_83 : decode jdk_52_method_7_code 83 = .ok (.iload 4, 2) := by decide +kernel
theorem d31_85 : decode jdk_52_method_7_code 85 = .ok (.ireturn, 1) := by decide +kernel
theorem d32_0 : decode jdk_89_method_14_code 0 = .ok (.iload_n 0, 1) := by decide +kernel
theorem d32_1 : decode jdk_89_method_14_code 1 = .ok (.ldc 75, 2) := by decide +kernel
theorem d32_3 : decode jdk_89_method_14_code 3 = .ok (.if_icmp .lt 13, 3) := by decide +kernel
theorem d32_6 : decode jdk_89_method_14_code 6 = .ok (.iload_n 0, 1) := by decide +kernel
theorem d32_7 : decode jdk_89_method_14_code 7 = .ok (.ldc 76, 2) := by decide +kernel
theorem d32_9 : decode jdk_89_method_14_code 9 = .ok (.if_icmp .ge 7, 3) := by decide +kernel
theorem d32_12 : decode jdk_89_method_14_code 12 = .ok (.iconst 1, 1) := by decide +kernel
theorem d32_13 : decode jdk_89_method_14_code 13 = .ok (.goto 4, 3) := by decide +kernel
theorem d32_16 : decode jdk_89_method_14_code 16 = .ok (.iconst 0, 1) := by decide +kernel
theorem d32_17 : decode jdk_89_method_14_code 17 = .ok (.ireturn, 1) := by decide +kernel
theorem d33_0 : decode jdk_89_method_15_code 0 = .ok (.iload_n 0, 1) := by decide +kernel
theorem d33_1 : decode jdk_89_method_15_code 1 = .ok (.ldc 76, 2) := by decide +kernel
theorem d33_3 : decode jdk_89_method_15_code 3 = .ok (.if_icmp .lt 13, 3) := by decide +kernel
theorem d33_6 : decode jdk_89_method_15_code 6 = .ok (.iload_n 0, 1) := by decide +kernel
theorem d33_7 : decode jdk_89_method_15_code 7 = .ok (.ldc 77, 2) := by decide +kernel
theorem d33_9 : decode jdk_89_method_15_code 9 = .ok (.if_icmp .ge 7, 3) := by decide +kernel
theorem d33_12 : decode jdk_89_method_15_code 12 = .ok (.iconst 1, 1) := by decide +kernel
theorem d33_13 : decode jdk_89_method_15_code 13 = .ok (.goto 4, 3) := by decide +kernel
theorem d33_16 : decode jdk_89_method_15_code 16 = .ok (.iconst 0, 1) := by decide +kernel
theorem d33_17 : decode jdk_89_method_15_code 17 = .ok (.ireturn, 1) := by decide +kernel
theorem d34_0 : decode jdk_89_method_19_code 0 = .ok (.iload_n 0, 1) := by decide +kernel
theorem d34_1 : decode jdk_89_method_19_code 1 = .ok (.bipush 10, 2) := by decide +kernel
theorem d34_3 : decode jdk_89_method_19_code 3 = .ok (.ishl, 1) := by decide +kernel
theorem d34_4 : decode jdk_89_method_19_code 4 = .ok (.iload_n 1, 1) := by decide +kernel
theorem d34_5 : decode jdk_89_method_19_code 5 = .ok (.iadd, 1) := by decide +kernel
theorem d34_6 : decode jdk_89_method_19_code 6 = .ok (.ldc 85, 2) := by decide +kernel
theorem d34_8 : decode jdk_89_method_19_code 8 = .ok (.iadd, 1) := by decide +kernel
theorem d34_9 : decode jdk_89_method_19_code 9 = .ok (.ireturn, 1) := by decide +kernel
theorem ef_RII_3 (m : MethodId) (x0 : Addr) (x1 : Int32) (x2 : Int32) : entryFrame m #[(.ref x0), (.int x1), (.int x2)] 3 = mkF m 0 #[.val (.ref x0), .val (.int x1), .val (.int x2)] [] := by first | (simp [entryFrame, mkF, argsToLocals, Value.category]; done) | rfl
theorem ef_RI_2 (m : MethodId) (x0 : Addr) (x1 : Int32) : entryFrame m #[(.ref x0), (.int x1)] 2 = mkF m 0 #[.val (.ref x0), .val (.int x1)] [] := by first | (simp [entryFrame, mkF, argsToLocals, Value.category]; done) | rfl
theorem ef_I_1 (m : MethodId) (x0 : Int32) : entryFrame m #[(.int x0)] 1 = mkF m 0 #[.val (.int x0)] [] := by first | (simp [entryFrame, mkF, argsToLocals, Value.category]; done) | rfl
theorem ef_RII_5 (m : MethodId) (x0 : Addr) (x1 : Int32) (x2 : Int32) : entryFrame m #[(.ref x0), (.int x1), (.int x2)] 5 = mkF m 0 #[.val (.ref x0), .val (.int x1), .val (.int x2), .unset, .unset] [] := by first | (simp [entryFrame, mkF, argsToLocals, Value.category]; done) | rfl
theorem ef_RIRII_7 (m : MethodId) (x0 : Addr) (x1 : Int32) (x2 : Addr) (x3 : Int32) (x4 : Int32) : entryFrame m #[(.ref x0), (.int x1), (.ref x2), (.int x3), (.int x4)] 7 = mkF m 0 #[.val (.ref x0), .val (.int x1), .val (.ref x2), .val (.int x3), .val (.int x4), .unset, .unset] [] := by first | (simp [entryFrame, mkF, argsToLocals, Value.category]; done) | rfl
theorem ef_RII_6 (m : MethodId) (x0 : Addr) (x1 : Int32) (x2 : Int32) : entryFrame m #[(.ref x0), (.int x1), (.int x2)] 6 = mkF m 0 #[.val (.ref x0), .val (.int x1), .val (.int x2), .unset, .unset, .unset] [] := by first | (simp [entryFrame, mkF, argsToLocals, Value.category]; done) | rfl
theorem ef_RRIIN_6 (m : MethodId) (x0 : Addr) (x1 : Addr) (x2 : Int32) (x3 : Int32) : entryFrame m #[(.ref x0), (.ref x1), (.int x2), (.int x3), .null] 6 = mkF m 0 #[.val (.ref x0), .val (.ref x1), .val (.int x2), .val (.int x3), .val .null, .unset] [] := by first | (simp [entryFrame, mkF, argsToLocals, Value.category]; done) | rfl
theorem ef_RR_2 (m : MethodId) (x0 : Addr) (x1 : Addr) : entryFrame m #[(.ref x0), (.ref x1)] 2 = mkF m 0 #[.val (.ref x0), .val (.ref x1)] [] := by first | (simp [entryFrame, mkF, argsToLocals, Value.category]; done) | rfl
theorem ef_IIO_3 (m : MethodId) (x0 : Int32) (x1 : Int32) (x2 : Value) (hx2 : x2.isRef = true) : entryFrame m #[(.int x0), (.int x1), x2] 3 = mkF m 0 #[.val (.int x0), .val (.int x1), .val x2] [] := by rcases ref_cases hx2 with rfl | ⟨_, rfl⟩ <;> first | (simp [entryFrame, mkF, argsToLocals, Value.category]; done) | rfl
theorem ef_II_2 (m : MethodId) (x0 : Int32) (x1 : Int32) : entryFrame m #[(.int x0), (.int x1)] 2 = mkF m 0 #[.val (.int x0), .val (.int x1)] [] := by first | (simp [entryFrame, mkF, argsToLocals, Value.category]; done) | rfl
theorem ef_R_1 (m : MethodId) (x0 : Addr) : entryFrame m #[(.ref x0)] 1 = mkF m 0 #[.val (.ref x0)] [] := by first | (simp [entryFrame, mkF, argsToLocals, Value.category]; done) | rfl
theorem ef_RIII_6 (m : MethodId) (x0 : Addr) (x1 : Int32) (x2 : Int32) (x3 : Int32) : entryFrame m #[(.ref x0), (.int x1), (.int x2), (.int x3)] 6 = mkF m 0 #[.val (.ref x0), .val (.int x1), .val (.int x2), .val (.int x3), .unset, .unset] [] := by first | (simp [entryFrame, mkF, argsToLocals, Value.category]; done) | rfl
theorem ef_RI_3 (m : MethodId) (x0 : Addr) (x1 : Int32) : entryFrame m #[(.ref x0), (.int x1)] 3 = mkF m 0 #[.val (.ref x0), .val (.int x1), .unset] [] := by first | (simp [entryFrame, mkF, argsToLocals, Value.category]; done) | rfl
theorem ef_II_4 (m : MethodId) (x0 : Int32) (x1 : Int32) : entryFrame m #[(.int x0), (.int x1)] 4 = mkF m 0 #[.val (.int x0), .val (.int x1), .unset, .unset] [] := by first | (simp [entryFrame, mkF, argsToLocals, Value.category]; done) | rfl
theorem ef_RII_4 (m : MethodId) (x0 : Addr) (x1 : Int32) (x2 : Int32) : entryFrame m #[(.ref x0), (.int x1), (.int x2)] 4 = mkF m 0 #[.val (.ref x0), .val (.int x1), .val (.int x2), .unset] [] := by first | (simp [entryFrame, mkF, argsToLocals, Value.category]; done) | rfl
theorem ef_RRI_3 (m : MethodId) (x0 : Addr) (x1 : Addr) (x2 : Int32) : entryFrame m #[(.ref x0), (.ref x1), (.int x2)] 3 = mkF m 0 #[.val (.ref x0), .val (.ref x1), .val (.int x2)] [] := by first | (simp [entryFrame, mkF, argsToLocals, Value.category]; done) | rfl
theorem ef_I_2 (m : MethodId) (x0 : Int32) : entryFrame m #[(.int x0)] 2 = mkF m 0 #[.val (.int x0), .unset] [] := by first | (simp [entryFrame, mkF, argsToLocals, Value.category]; done) | rfl
theorem ef_RRRI_11 (m : MethodId) (x0 : Addr) (x1 : Addr) (x2 : Addr) (x3 : Int32) : entryFrame m #[(.ref x0), (.ref x1), (.ref x2), (.int x3)] 11 = mkF m 0 #[.val (.ref x0), .val (.ref x1), .val (.ref x2), .val (.int x3), .unset, .unset, .unset, .unset, .unset, .unset, .unset] [] := by first | (simp [entryFrame, mkF, argsToLocals, Value.category]; done) | rfl
theorem ef_IIII_16 (m : MethodId) (x0 : Int32) (x1 : Int32) (x2 : Int32) (x3 : Int32) : entryFrame m #[(.int x0), (.int x1), (.int x2), (.int x3)] 16 = mkF m 0 #[.val (.int x0), .val (.int x1), .val (.int x2), .val (.int x3), .unset, .unset, .unset, .unset, .unset, .unset, .unset, .unset, .unset, .unset, .unset, .unset] [] := by first | (simp [entryFrame, mkF, argsToLocals, Value.category]; done) | rfl
section OwnU16
/-- the two bytes of a char, low first -/
def b0 (c : Int32) : Int32 := (c >>> ((0 : Int32) &&& 31)).toInt8.toInt32
def b1 (c : Int32) : Int32 := (c >>> ((8 : Int32) &&& 31)).toInt8.toInt32
def gchV (x y : Int32) : Int32 := (((x &&& (255 : Int32)) <<< ((0 : Int32) &&& 31)) ||| ((y &&& (255 : Int32)) <<< ((8 : Int32) &&& 31))).toUInt32.toUInt16.toUInt32.toInt32
theorem bv_ofNat {n : Nat} (h : n < 4294967296) : (Int32.ofNat n).toBitVec.toNat = n := by
  show (BitVec.ofNat 32 n).toNat = n
  rw [BitVec.toNat_ofNat]; exact Nat.mod_eq_of_lt h
theorem eqBV {x y : Int32} (h : x.toBitVec.toNat = y.toBitVec.toNat) : x = y := Int32.toBitVec_inj.mp (BitVec.eq_of_toNat_eq h)
theorem low_byte : ∀ b : Fin 256, (Int32.ofNat b.val).toInt8.toInt32 &&& (255 : Int32) = Int32.ofNat b.val := by decide +kernel
theorem toInt8_mod (a b : Nat) : (Int32.ofNat (256 * a + b)).toInt8 = (Int32.ofNat b).toInt8 := by
  apply Int8.toBitVec_inj.mp
  apply BitVec.eq_of_toNat_eq
  rw [Int32.toBitVec_toInt8, Int32.toBitVec_toInt8, BitVec.signExtend_eq_setWidth_of_le _ (by decide), BitVec.signExtend_eq_setWidth_of_le _ (by decide), BitVec.toNat_setWidth, BitVec.toNat_setWidth]
  show (BitVec.ofNat 32 (256 * a + b)).toNat % 2 ^ 8 = (BitVec.ofNat 32 b).toNat % 2 ^ 8
  rw [BitVec.toNat_ofNat, BitVec.toNat_ofNat]; omega
theorem shr8 {n : Nat} (h : n < 65536) : Int32.ofNat n >>> ((8 : Int32) &&& 31) = Int32.ofNat (n / 256) := by
  apply eqBV
  rw [show ((8 : Int32) &&& 31) = 8 from by decide, Int32.toBitVec_shiftRight, show ((8 : Int32).toBitVec.smod 32) = 8#32 from by decide, BitVec.sshiftRight_eq']
  have hm : (Int32.ofNat n).toBitVec.msb = false := by
    rw [BitVec.msb_eq_decide, bv_ofNat (by omega)]; simp; omega
  rw [BitVec.sshiftRight_eq_of_msb_false hm, BitVec.toNat_ushiftRight, bv_ofNat (by omega), bv_ofNat (by omega)]
  rw [show (8#32).toNat = 8 from rfl, Nat.shiftRight_eq_div_pow]
theorem shr0 (c : Int32) : c >>> ((0 : Int32) &&& 31) = c := by
  rw [show ((0 : Int32) &&& 31) = 0 from by decide]; exact Int32.shiftRight_zero
theorem shl0 (c : Int32) : c <<< ((0 : Int32) &&& 31) = c := by
  rw [show ((0 : Int32) &&& 31) = 0 from by decide]; exact Int32.shiftLeft_zero
theorem shl8 {n : Nat} (h : n < 256) : Int32.ofNat n <<< ((8 : Int32) &&& 31) = Int32.ofNat (256 * n) := by
  apply eqBV
  rw [show ((8 : Int32) &&& 31) = 8 from by decide, Int32.toBitVec_shiftLeft, show ((8 : Int32).toBitVec.smod 32) = 8#32 from by decide, BitVec.shiftLeft_eq', BitVec.toNat_shiftLeft, bv_ofNat (by omega), bv_ofNat (by omega)]
  rw [show (8#32).toNat = 8 from rfl, Nat.shiftLeft_eq, Nat.mod_eq_of_lt (by omega)]; omega
theorem or_small {a b : Nat} (ha : a < 256) (hb : b < 256) : Int32.ofNat b ||| Int32.ofNat (256 * a) = Int32.ofNat (256 * a + b) := by
  apply eqBV
  rw [Int32.toBitVec_or, BitVec.toNat_or, bv_ofNat (by omega), bv_ofNat (by omega), bv_ofNat (by omega)]
  have := Nat.two_pow_add_eq_or_of_lt (i := 8) (b := b) (by omega) a
  rw [Nat.or_comm, show 256 * a ||| b = 2 ^ 8 * a + b from this.symm]
theorem char_id {n : Nat} (h : n < 65536) : (Int32.ofNat n).toUInt32.toUInt16.toUInt32.toInt32 = Int32.ofNat n := by
  apply eqBV
  show (((BitVec.ofNat 32 n).setWidth 16).setWidth 32).toNat = _
  rw [BitVec.toNat_setWidth, BitVec.toNat_setWidth, BitVec.toNat_ofNat, bv_ofNat (by omega)]; omega
theorem gch_dec (a b : Fin 256) : gchV (b0 (Int32.ofNat (256 * a.val + b.val))) (b1 (Int32.ofNat (256 * a.val + b.val))) = Int32.ofNat (256 * a.val + b.val) := by
  unfold gchV b0 b1
  rw [shr0, shr8 (by omega), toInt8_mod, show (256 * a.val + b.val) / 256 = a.val from by omega, low_byte b, low_byte a, shl0, shl8 a.isLt, or_small a.isLt b.isLt, char_id (by omega)]
theorem wide_nat {c : Int32} (q : 0 ≤ c.toInt ∧ c.toInt < 65536) : ∃ a b : Fin 256, c = Int32.ofNat (256 * a.val + b.val) := by
  refine ⟨⟨c.toInt.toNat / 256, by omega⟩, ⟨c.toInt.toNat % 256, by omega⟩, eq32 ?_⟩
  rw [show (Int32.ofNat (256 * (c.toInt.toNat / 256) + c.toInt.toNat % 256)).toInt = _ from n32 (by omega)]
  omega
theorem gch_of {c : Int32} (q : 0 ≤ c.toInt ∧ c.toInt < 65536) : gchV (b0 c) (b1 c) = c := by
  obtain ⟨a, b, rfl⟩ := wide_nat q
  exact gch_dec a b
theorem bb_inj {c d : Int32} (q : 0 ≤ c.toInt ∧ c.toInt < 65536) (r : 0 ≤ d.toInt ∧ d.toInt < 65536) (h0 : b0 c = b0 d) (h1 : b1 c = b1 d) : c = d := by
  rw [← gch_of q, ← gch_of r, h0, h1]
def U16B : List Int32 → List Int32
  | [] => []
  | c :: r => b0 c :: b1 c :: U16B r
theorem U16B_len : ∀ cs : List Int32, (U16B cs).length = 2 * cs.length
  | [] => rfl
  | c :: r => by simp only [U16B, List.length_cons, U16B_len r]; omega
theorem U16B_app : ∀ (cs : List Int32) (c : Int32), U16B (cs ++ [c]) = U16B cs ++ [b0 c, b1 c]
  | [], c => rfl
  | d :: r, c => by simp only [U16B, List.cons_append, U16B_app r c]
theorem U16B_get : ∀ (cs : List Int32) (j : Nat) (h : j < cs.length), (U16B cs).getD (2 * j) 0 = b0 cs[j] ∧ (U16B cs).getD (2 * j + 1) 0 = b1 cs[j]
  | c :: r, 0, _ => ⟨rfl, rfl⟩
  | c :: r, j + 1, h => by
    have ih := U16B_get r j (by simpa using h)
    constructor
    · show (b0 c :: b1 c :: U16B r).getD (2 * j + 1 + 1) 0 = _
      simpa using ih.1
    · show (b0 c :: b1 c :: U16B r).getD (2 * j + 1 + 1 + 1) 0 = _
      simpa using ih.2
theorem U16B_inj : ∀ (cs ds : List Int32), (∀ c ∈ cs, 0 ≤ c.toInt ∧ c.toInt < 65536) → (∀ c ∈ ds, 0 ≤ c.toInt ∧ c.toInt < 65536) → U16B cs = U16B ds → cs = ds
  | [], [], _, _, _ => rfl
  | [], d :: r, _, _, q => by simp [U16B] at q
  | c :: r, [], _, _, q => by simp [U16B] at q
  | c :: r, d :: t, hc, hd, q => by
    simp only [U16B, List.cons.injEq] at q
    rw [bb_inj (hc c (by simp)) (hd d (by simp)) q.1 q.2.1, U16B_inj r t (fun x m => hc x (by simp [m])) (fun x m => hd x (by simp [m])) q.2.2]
def Lat (cs : List Int32) : Prop := ∀ c ∈ cs, c.toInt < 256
instance (cs : List Int32) : Decidable (Lat cs) := by unfold Lat; infer_instance
def encC (cs : List Int32) : Int32 := if Lat cs then 0 else 1
def encB (cs : List Int32) : List Int32 := if Lat cs then cs.map fun c => c.toInt8.toInt32 else U16B cs
theorem byte_inj {c d : Int32} (q : 0 ≤ c.toInt ∧ c.toInt < 256) (r : 0 ≤ d.toInt ∧ d.toInt < 256) (h : c.toInt8.toInt32 = d.toInt8.toInt32) : c = d := by
  have e1 : c = Int32.ofNat c.toInt.toNat := eq32 (by rw [show (Int32.ofNat c.toInt.toNat).toInt = _ from n32 (by omega)]; omega)
  have e2 : d = Int32.ofNat d.toInt.toNat := eq32 (by rw [show (Int32.ofNat d.toInt.toNat).toInt = _ from n32 (by omega)]; omega)
  have f1 := low_byte ⟨c.toInt.toNat, by omega⟩
  have f2 := low_byte ⟨d.toInt.toNat, by omega⟩
  dsimp only at f1 f2
  rw [← e1] at f1; rw [← e2] at f2
  rw [← f1, ← f2, h]
theorem bytes_inj : ∀ (cs ds : List Int32), (∀ c ∈ cs, 0 ≤ c.toInt ∧ c.toInt < 256) → (∀ c ∈ ds, 0 ≤ c.toInt ∧ c.toInt < 256) → (cs.map fun c => c.toInt8.toInt32) = (ds.map fun c => c.toInt8.toInt32) → cs = ds
  | [], [], _, _, _ => rfl
  | [], d :: r, _, _, q => by simp at q
  | c :: r, [], _, _, q => by simp at q
  | c :: r, d :: t, hc, hd, q => by
    simp only [List.map_cons, List.cons.injEq] at q
    rw [byte_inj (hc c (by simp)) (hd d (by simp)) q.1, bytes_inj r t (fun x m => hc x (by simp [m])) (fun x m => hd x (by simp [m])) q.2]
theorem enc_iff {cs ds : List Int32} (hc : ∀ c ∈ cs, 0 ≤ c.toInt ∧ c.toInt < 65536) (hd : ∀ c ∈ ds, 0 ≤ c.toInt ∧ c.toInt < 65536) : (encC cs = encC ds ∧ encB cs = encB ds) ↔ cs = ds := by
  constructor
  · rintro ⟨h1, h2⟩
    unfold encC at h1; unfold encB at h2
    by_cases p : Lat cs <;> by_cases q : Lat ds
    · rw [if_pos p, if_pos q] at h2
      exact bytes_inj _ _ (fun c m => ⟨(hc c m).1, p c m⟩) (fun c m => ⟨(hd c m).1, q c m⟩) h2
    · rw [if_pos p, if_neg q] at h1; exact absurd h1 (by decide)
    · rw [if_neg p, if_pos q] at h1; exact absurd h1 (by decide)
    · rw [if_neg p, if_neg q] at h2
      exact U16B_inj _ _ hc hd h2
  · rintro rfl; exact ⟨rfl, rfl⟩
/-- shifts of small numbers -/
theorem shl1 {i : Int32} {j : Nat} (hi : i.toInt = j) (hj : j < 1073741824) : i <<< ((1 : Int32) &&& 31) = Int32.ofNat (2 * j) := by
  obtain rfl : i = Int32.ofNat j := eq32 (hi.trans (n32 (by omega)).symm)
  apply Int32.toBitVec_inj.mp
  apply BitVec.eq_of_toNat_eq
  rw [show ((1 : Int32) &&& 31) = 1 from by decide]
  rw [Int32.toBitVec_shiftLeft]
  have e1 : (Int32.ofNat j).toBitVec.toNat = j := by
    show (BitVec.ofNat 32 j).toNat = j
    rw [BitVec.toNat_ofNat]; exact Nat.mod_eq_of_lt (by omega)
  have e2 : (Int32.ofNat (2 * j)).toBitVec.toNat = 2 * j := by
    show (BitVec.ofNat 32 (2 * j)).toNat = _
    rw [BitVec.toNat_ofNat]; exact Nat.mod_eq_of_lt (by omega)
  rw [e2, show ((1 : Int32).toBitVec.smod 32) = 1#32 from by decide, BitVec.shiftLeft_eq', BitVec.toNat_shiftLeft, e1]
  rw [show (1#32).toNat = 1 from rfl, Nat.shiftLeft_eq]
  rw [Nat.mod_eq_of_lt (by omega)]; omega
theorem sgn1 {x : Int32} (q : x.toInt < 0) : (x.toUInt32 >>> ((31 : Int32) &&& 31).toUInt32).toInt32 = 1 := by
  rw [show ((31 : Int32) &&& 31).toUInt32 = (31 : UInt32) from by decide]
  have e : x.toUInt32 >>> (31 : UInt32) = 1 := by
    apply UInt32.toNat_inj.mp
    rw [UInt32.toNat_shiftRight]
    have h1 : x.toUInt32.toNat = x.toBitVec.toNat := rfl
    have h2 : x.toInt = x.toBitVec.toInt := rfl
    have h3 := BitVec.toInt_eq_toNat_cond x.toBitVec
    have h4 := x.toBitVec.isLt
    rw [h1, show (31 : UInt32).toNat % 32 = 31 from rfl, Nat.shiftRight_eq_div_pow]
    rw [h2, h3] at q
    split at q
    · omega
    · show _ / 2147483648 = 1
      omega
  rw [e]; rfl
theorem set2 (xs r : List Value) (a b x y : Value) {n : Nat} (hn : n = xs.length) : ((xs ++ x :: y :: r).set n a).set (n + 1) b = xs ++ a :: b :: r := by
  subst hn
  rw [List.set_append_right _ _ (Nat.le_refl _), Nat.sub_self]
  rw [List.set_append_right _ _ (Nat.le_succ _), show xs.length.succ - xs.length = 1 from by omega]
  rfl
theorem idxM {i z : Int32} {j k : Nat} (hi : i.toInt = j) (hz : z.toInt = k) (hj : j < k) : (¬ i < 0 ∧ i < z) ∧ i.toNatClampNeg = j := by
  refine ⟨⟨nlt32 (by rw [zero32]; omega), lt32 (by omega)⟩, ?_⟩
  show i.toInt.toNat = j
  omega
theorem nar_wide {c : Int32} (q : 0 ≤ c.toInt ∧ c.toInt < 65536) : nar .char c = c := by
  obtain ⟨a, b, rfl⟩ := wide_nat q
  exact char_id (by omega)
theorem getD_mapI (xs : List Int32) (j : Nat) : (xs.map Value.int).getD j (.int 0) = .int (xs.getD j 0) := by
  simp only [List.getD_eq_getElem?_getD, List.getElem?_map]; cases xs[j]? <;> rfl
theorem getU0 {cs : List Int32} {j : Nat} (h : j < cs.length) : ((U16B cs).map Value.int).getD (2 * j) (.int 0) = .int (b0 cs[j]) := by rw [getD_mapI, (U16B_get cs j h).1]
theorem getU1 {cs : List Int32} {j : Nat} (h : j < cs.length) : ((U16B cs).map Value.int).getD (2 * j + 1) (.int 0) = .int (b1 cs[j]) := by rw [getD_mapI, (U16B_get cs j h).2]
theorem bb8 (x : Int32) : x.toInt8.toInt32.toInt8.toInt32 = x.toInt8.toInt32 := by simp
theorem encC_01 (cs : List Int32) : encC cs = 0 ∨ encC cs = 1 := by unfold encC; split; exact Or.inl rfl; exact Or.inr rfl
theorem coder_nar {c : Int32} (q : c = 0 ∨ c = 1) : narrow .byte (.int c) = .int c := by rcases q with rfl | rfl <;> decide
theorem coder_fit {c : Int32} (q : c = 0 ∨ c = 1) : fits .byte (.int c) = true := by rcases q with rfl | rfl <;> decide
theorem encB_len (cs : List Int32) : (encB cs).length = if Lat cs then cs.length else 2 * cs.length := by
  unfold encB; split; exact List.length_map _; exact U16B_len cs
theorem encB_ne {cs : List Int32} (q : cs ≠ []) : 0 < (encB cs).length := by
  have := List.length_pos_iff.mpr q
  rw [encB_len]; split <;> omega
theorem coder_enc {z zz : Int32} {cs : List Int32} (hz : z.toInt = cs.length) (hzz : zz.toInt = (encB cs).length) (hL : Lat cs → zz = z) (hne : cs ≠ []) (hlen : cs.length ≤ 1000000) : nar .byte (((z - zz).toUInt32 >>> ((31 : Int32) &&& 31).toUInt32).toInt32.toInt8.toInt32) = encC cs := by
  by_cases q : Lat cs
  · rw [hL q, Int32.sub_self, show encC cs = 0 from if_pos q]; decide
  · rw [show encC cs = 1 from if_neg q]
    have hp := List.length_pos_iff.mpr hne
    rw [encB_len, if_neg q] at hzz
    have : (z - zz).toInt < 0 := by
      rw [Int32.toInt_sub, hz, hzz, Int.bmod_eq_of_le (by omega) (by omega)]; omega
    rw [sgn1 this]; decide
theorem wide_of (x : Int32) : 0 ≤ (nar .char x).toInt ∧ (nar .char x).toInt < 65536 := by
  have e : nar .char x = Int32.ofNat (x.toBitVec.toNat % 65536) := by
    apply eqBV
    rw [bv_ofNat (by omega)]
    show ((x.toBitVec.setWidth 16).setWidth 32).toNat = _
    rw [BitVec.toNat_setWidth, BitVec.toNat_setWidth]; omega
  rw [e, ofN (by omega)]; omega
theorem and_nonneg (x : Int32) : 0 ≤ (x &&& (2147483647 : Int32)).toInt := by
  obtain ⟨n, h1, h2⟩ := and_nat x (k := 2147483647) (by decide)
  rw [show (2147483647 : Int32) = Int32.ofNat 2147483647 from rfl, h2, ofN (by omega)]; omega
theorem eqI_v {args : Array Value} {first s : State} {o : Option Outcome} {idx : List Nat} {t : Term} {k : Int32} (h : (Jvm.Cond.eq t (Term.int k)).value args first o s idx = some true) : t.eval args first o idx s = some (.int k) := by
  obtain ⟨x, y, e1, e2, -, k2⟩ := cmp_v (Or.inl h)
  obtain rfl : y = .int k := Option.some.inj (e2.symm.trans (Term.int_eval k))
  obtain ⟨z, rfl⟩ := k2
  obtain rfl : z = k := gotT (Cond.eq_ints e1 (Term.int_eval k)) h
  exact e1
end OwnU16
section OwnUtf8
theorem One1.st {s : Slot} {L : Array Slot} {i : Nat} {v : Value} (h : One1 s) (hx : L[i]? = some s) (hv : v.category = 1) : storeLocals L i v = some (L.setIfInBounds i (.val v)) := by
  rcases h with rfl | ⟨w, rfl, hw⟩
  · exact storeLocals_cat1 hx hv trivial
  · exact storeLocals_cat1 hx hv hw
theorem shrK {n : Nat} (h : n < 2147483648) (k : Int32) (kb : BitVec 32) (e : (k &&& 31).toBitVec.smod 32 = kb) : Int32.ofNat n >>> (k &&& 31) = Int32.ofNat (n / 2 ^ kb.toNat) := by
  apply eqBV
  rw [Int32.toBitVec_shiftRight, e, BitVec.sshiftRight_eq']
  have hm : (Int32.ofNat n).toBitVec.msb = false := by
    rw [BitVec.msb_eq_decide, bv_ofNat (by omega)]; simp; omega
  have hd := Nat.div_le_self n (2 ^ kb.toNat)
  rw [BitVec.sshiftRight_eq_of_msb_false hm, BitVec.toNat_ushiftRight, bv_ofNat (by omega), bv_ofNat (by omega), Nat.shiftRight_eq_div_pow]
theorem ushrK {n : Nat} (h : n < 2147483648) (k : Int32) (ku : UInt32) (e : (k &&& 31).toUInt32 = ku) : ((Int32.ofNat n).toUInt32 >>> (k &&& 31).toUInt32).toInt32 = Int32.ofNat (n / 2 ^ (ku.toNat % 32)) := by
  apply eqBV
  have hd := Nat.div_le_self n (2 ^ (ku.toNat % 32))
  rw [e, bv_ofNat (n := n / 2 ^ (ku.toNat % 32)) (by omega)]
  show ((Int32.ofNat n).toUInt32 >>> ku).toNat = _
  rw [UInt32.toNat_shiftRight, show (Int32.ofNat n).toUInt32.toNat = (Int32.ofNat n).toBitVec.toNat from rfl, bv_ofNat (by omega), Nat.shiftRight_eq_div_pow]
def u6 (x : Int32) : Int32 := (x.toUInt32 >>> ((6 : Int32) &&& 31).toUInt32).toInt32
theorem nat_of {c : Int32} (h : 0 ≤ c.toInt) : ∃ n : Nat, n < 2147483648 ∧ c = Int32.ofNat n ∧ c.toInt = n := by
  have := c.toInt_lt
  refine ⟨c.toInt.toNat, by omega, eq32 ?_, by omega⟩
  rw [ofN (by omega)]; omega
theorem u6_1 {c : Int32} (h : 0 ≤ c.toInt) : u6 c = c >>> ((6 : Int32) &&& 31) := by
  obtain ⟨n, h1, rfl, -⟩ := nat_of h
  unfold u6
  rw [ushrK h1 6 6 (by decide), shrK h1 6 6#32 (by decide)]; rfl
theorem u6_2 {c : Int32} (h : 0 ≤ c.toInt) : u6 (u6 c) = c >>> ((12 : Int32) &&& 31) := by
  obtain ⟨n, h1, rfl, -⟩ := nat_of h
  unfold u6
  have hd := Nat.div_le_self n (2 ^ (6 : UInt32).toNat)
  rw [ushrK h1 6 6 (by decide), ushrK (by have := Nat.div_le_self n (2 ^ ((6 : UInt32).toNat % 32)); omega) 6 6 (by decide), shrK h1 12 12#32 (by decide), Nat.div_div_eq_div_mul]; rfl
theorem u6_3 {c : Int32} (h : 0 ≤ c.toInt) : u6 (u6 (u6 c)) = c >>> ((18 : Int32) &&& 31) := by
  obtain ⟨n, h1, rfl, -⟩ := nat_of h
  have e := u6_2 (c := Int32.ofNat n) (by rw [ofN h1]; omega)
  rw [e, shrK h1 12 12#32 (by decide)]
  unfold u6
  rw [ushrK (by have := Nat.div_le_self n (2 ^ (12#32).toNat); omega) 6 6 (by decide), shrK h1 18 18#32 (by decide), Nat.div_div_eq_div_mul]; rfl
/-- a code point that UTF-8 can carry, not 0 -/
def VCP (c : Int32) : Prop := 1 ≤ c.toInt ∧ c.toInt < 1114112 ∧ (c.toInt < 55296 ∨ 57343 < c.toInt)
def hiC (c : Int32) : Int32 := Int32.ofNat (55296 + (c.toInt.toNat - 65536) / 1024)
def loC (c : Int32) : Int32 := Int32.ofNat (56320 + (c.toInt.toNat - 65536) % 1024)
def chs (c : Int32) : List Int32 := if c.toInt < 65536 then [c] else [hiC c, loC c]
def cnt (c : Int32) : Nat := if c.toInt < 65536 then 1 else 2
theorem chs_len (c : Int32) : (chs c).length = cnt c := by unfold chs cnt; split <;> rfl
theorem sub_nat {a b : Nat} (h : b ≤ a) (ha : a < 2147483648) : Int32.ofNat a - Int32.ofNat b = Int32.ofNat (a - b) := by
  apply eq32
  rw [Int32.toInt_sub, ofN ha, ofN (by omega), ofN (by omega), Int.bmod_eq_of_le (by omega) (by omega)]; omega
theorem hi_raw {c : Int32} (h1 : 65536 ≤ c.toInt) (h2 : c.toInt < 1114112) : nar .char (((55296 : Int32) + (((c - (65536 : Int32)).toUInt32 >>> ((10 : Int32) &&& 31).toUInt32).toInt32)).toUInt32.toUInt16.toUInt32.toInt32) = hiC c := by
  obtain ⟨n, k1, rfl, k2⟩ := nat_of (c := c) (by omega)
  rw [k2] at h1 h2
  have k3 : (Int32.ofNat n).toInt.toNat = n := by omega
  unfold hiC
  rw [k3, show (65536 : Int32) = Int32.ofNat 65536 from rfl, sub_nat (by omega) k1, ushrK (by omega) 10 10 (by decide), show (55296 : Int32) = Int32.ofNat 55296 from rfl, show 2 ^ ((10 : UInt32).toNat % 32) = 1024 from rfl, ofN_add (by omega), char_id (by omega)]
  exact nar_wide (by rw [ofN (by omega)]; omega)
theorem and1023 {n : Nat} (h : n < 2147483648) : Int32.ofNat n &&& (1023 : Int32) = Int32.ofNat (n % 1024) := by
  apply eqBV
  rw [Int32.toBitVec_and, BitVec.toNat_and, bv_ofNat (by omega), bv_ofNat (by omega), show (1023 : Int32).toBitVec.toNat = 2 ^ 10 - 1 from by decide, Nat.and_two_pow_sub_one_eq_mod]
theorem lo_raw {c : Int32} (h1 : 65536 ≤ c.toInt) (h2 : c.toInt < 1114112) : nar .char (((56320 : Int32) + ((c - (65536 : Int32)) &&& (1023 : Int32))).toUInt32.toUInt16.toUInt32.toInt32) = loC c := by
  obtain ⟨n, k1, rfl, k2⟩ := nat_of (c := c) (by omega)
  rw [k2] at h1 h2
  have k3 : (Int32.ofNat n).toInt.toNat = n := by omega
  unfold loC
  rw [k3, show (65536 : Int32) = Int32.ofNat 65536 from rfl, sub_nat (by omega) k1, and1023 (by omega), show (56320 : Int32) = Int32.ofNat 56320 from rfl, ofN_add (by omega), char_id (by omega)]
  exact nar_wide (by rw [ofN (by omega)]; omega)
theorem small_raw {c : Int32} (h1 : 0 ≤ c.toInt) (h2 : c.toInt < 65536) : nar .char (c.toUInt32.toUInt16.toUInt32.toInt32) = c := by
  have e := nar_wide (c := c) ⟨h1, h2⟩
  have e2 : c.toUInt32.toUInt16.toUInt32.toInt32 = c := by obtain ⟨n, k1, rfl, k2⟩ := nat_of h1; exact char_id (by omega)
  rw [e2]; exact e
theorem hiC_val {c : Int32} (h1 : 65536 ≤ c.toInt) (h2 : c.toInt < 1114112) : (hiC c).toInt = 55296 + (c.toInt - 65536) / 1024 ∧ 55296 ≤ (hiC c).toInt ∧ (hiC c).toInt < 56320 := by
  unfold hiC; rw [ofN (by omega)]; omega
theorem loC_val {c : Int32} (h1 : 65536 ≤ c.toInt) (h2 : c.toInt < 1114112) : (loC c).toInt = 56320 + (c.toInt - 65536) % 1024 ∧ 56320 ≤ (loC c).toInt ∧ (loC c).toInt < 57344 := by
  unfold loC; rw [ofN (by omega)]; omega
theorem shl10 {n : Nat} (h : n < 65536) : Int32.ofNat n <<< ((10 : Int32) &&& 31) = Int32.ofNat (1024 * n) := by
  apply eqBV
  rw [show ((10 : Int32) &&& 31) = 10 from by decide, Int32.toBitVec_shiftLeft, show ((10 : Int32).toBitVec.smod 32) = 10#32 from by decide, BitVec.shiftLeft_eq', BitVec.toNat_shiftLeft, bv_ofNat (by omega), bv_ofNat (by omega)]
  rw [show (10#32).toNat = 10 from rfl, Nat.shiftLeft_eq, Nat.mod_eq_of_lt (by omega)]; omega
theorem cp_dec {c : Int32} (h1 : 65536 ≤ c.toInt) (h2 : c.toInt < 1114112) : ((hiC c <<< ((10 : Int32) &&& 31)) + loC c) + (-56613888 : Int32) = c := by
  unfold hiC loC
  rw [shl10 (by omega), ofN_add (by omega)]
  apply eq32
  rw [Int32.toInt_add, ofN (by omega), show (-56613888 : Int32).toInt = -56613888 from by decide, Int.bmod_eq_of_le (by omega) (by omega)]; omega
theorem chs_wide {c : Int32} (h : VCP c) : ∀ x ∈ chs c, 0 ≤ x.toInt ∧ x.toInt < 65536 := by
  obtain ⟨q1, q2, q3⟩ := h
  unfold chs
  split
  · intro x hx; rcases List.mem_singleton.mp hx with rfl; omega
  · intro x hx
    have a := hiC_val (c := c) (by omega) q2
    have b := loC_val (c := c) (by omega) q2
    simp only [List.mem_cons, List.not_mem_nil, or_false] at hx
    rcases hx with rfl | rfl <;> omega
def usz (c : Int32) : Nat := if c.toInt < 128 then 1 else if c.toInt < 2048 then 2 else if c.toInt < 65536 then 3 else 4
def bb (x : Int32) : Int32 := x.toInt8.toInt32
/-- the bytes of a code point, written at p -/
def wr1 (xs : List Int32) (p : Nat) (c : Int32) : List Int32 :=
  if c.toInt < 128 then xs.set p (bb c)
  else if c.toInt < 2048 then (xs.set p (bb ((192 : Int32) ||| (c >>> ((6 : Int32) &&& 31))))).set (p + 1) (bb ((128 : Int32) ||| (c &&& (63 : Int32))))
  else if c.toInt < 65536 then ((xs.set p (bb ((224 : Int32) ||| (c >>> ((12 : Int32) &&& 31))))).set (p + 1) (bb ((128 : Int32) ||| ((c >>> ((6 : Int32) &&& 31)) &&& (63 : Int32))))).set (p + 2) (bb ((128 : Int32) ||| (c &&& (63 : Int32))))
  else (((xs.set p (bb ((240 : Int32) ||| (c >>> ((18 : Int32) &&& 31))))).set (p + 1) (bb ((128 : Int32) ||| ((c >>> ((12 : Int32) &&& 31)) &&& (63 : Int32))))).set (p + 2) (bb ((128 : Int32) ||| ((c >>> ((6 : Int32) &&& 31)) &&& (63 : Int32))))).set (p + 3) (bb ((128 : Int32) ||| (c &&& (63 : Int32))))
theorem wr1_len (xs : List Int32) (p : Nat) (c : Int32) : (wr1 xs p c).length = xs.length := by
  unfold wr1
  split
  · simp only [List.length_set]
  split
  · simp only [List.length_set]
  split <;> simp only [List.length_set]
def wrs (xs : List Int32) (p : Nat) : List Int32 → List Int32
  | [] => xs
  | c :: r => wrs (wr1 xs p c) (p + usz c) r
def usum : List Int32 → Nat
  | [] => 0
  | c :: r => usz c + usum r
theorem usum_app : ∀ a b : List Int32, usum (a ++ b) = usum a + usum b
  | [], b => by simp [usum]
  | c :: r, b => by simp only [usum, List.cons_append, usum_app r b]; omega
theorem wrs_snoc : ∀ (a : List Int32) (xs : List Int32) (p : Nat) (c : Int32), wrs xs p (a ++ [c]) = wr1 (wrs xs p a) (p + usum a) c
  | [], xs, p, c => rfl
  | d :: r, xs, p, c => by simp only [wrs, usum, List.cons_append, wrs_snoc r, Nat.add_assoc]
theorem wrs_len : ∀ (a : List Int32) (xs : List Int32) (p : Nat), (wrs xs p a).length = xs.length
  | [], xs, p => rfl
  | c :: r, xs, p => by simp only [wrs, wrs_len r, wr1_len]
theorem usz_01 (c : Int32) : usz c = 1 ∨ usz c = 2 ∨ usz c = 3 ∨ usz c = 4 := by
  unfold usz
  split
  · simp
  split
  · simp
  split <;> simp
theorem usz1 {c : Int32} (h : usz c = 1) : c.toInt < 128 := by unfold usz at h; split at h; assumption; split at h; omega; split at h <;> omega
theorem usz2 {c : Int32} (h : usz c = 2) : ¬ c.toInt < 128 ∧ c.toInt < 2048 := by unfold usz at h; split at h; omega; split at h; exact ⟨by assumption, by assumption⟩; split at h <;> omega
theorem usz3 {c : Int32} (h : usz c = 3) : ¬ c.toInt < 128 ∧ ¬ c.toInt < 2048 ∧ c.toInt < 65536 := by unfold usz at h; split at h; omega; split at h; omega; split at h; exact ⟨by assumption, by assumption, by assumption⟩; omega
theorem usz4 {c : Int32} (h : usz c = 4) : ¬ c.toInt < 128 ∧ ¬ c.toInt < 2048 ∧ ¬ c.toInt < 65536 := by unfold usz at h; split at h; omega; split at h; omega; split at h; omega; exact ⟨by assumption, by assumption, by assumption⟩
theorem mset (xs : List Int32) (p : Nat) (x : Int32) : (xs.map Value.int).set p (.int x) = (xs.set p x).map Value.int := (List.map_set ..).symm
theorem enc1 {xs : List Int32} {p : Nat} {c : Int32} (hs : usz c = 1) : (xs.map Value.int).set p (.int (((0 : Int32) ||| c)).toInt8.toInt32) = (wr1 xs p c).map Value.int := by
  rw [Int32.zero_or, mset]; unfold wr1; rw [if_pos (usz1 hs)]; rfl
theorem enc2 {xs : List Int32} {p : Nat} {c : Int32} (hs : usz c = 2) : ((xs.map Value.int).set (p + 1) (.int ((128 : Int32) ||| (c &&& (63 : Int32))).toInt8.toInt32)).set p (.int ((192 : Int32) ||| u6 c).toInt8.toInt32) = (wr1 xs p c).map Value.int := by
  obtain ⟨h1, h2⟩ := usz2 hs
  rw [u6_1 (by omega), mset, mset]; unfold wr1; rw [if_neg h1, if_pos h2, List.set_comm _ _ (by omega)]; rfl
theorem enc3 {xs : List Int32} {p : Nat} {c : Int32} (hs : usz c = 3) : (((xs.map Value.int).set (p + 2) (.int ((128 : Int32) ||| (c &&& (63 : Int32))).toInt8.toInt32)).set (p + 1) (.int ((128 : Int32) ||| (u6 c &&& (63 : Int32))).toInt8.toInt32)).set p (.int ((224 : Int32) ||| u6 (u6 c)).toInt8.toInt32) = (wr1 xs p c).map Value.int := by
  obtain ⟨h1, h2, h3⟩ := usz3 hs
  rw [u6_2 (by omega), u6_1 (by omega), mset, mset, mset]; unfold wr1; rw [if_neg h1, if_neg h2, if_pos h3]
  show List.map Value.int ((((xs.set (p + 2) (bb _)).set (p + 1) (bb _)).set p (bb _))) = _
  generalize bb ((224 : Int32) ||| _) = x0
  generalize bb ((128 : Int32) ||| (c >>> _ &&& _)) = x1
  generalize bb ((128 : Int32) ||| (c &&& _)) = x2
  rw [List.set_comm x1 x0 (by omega), List.set_comm x2 x0 (by omega), List.set_comm x2 x1 (by omega)]
theorem enc4 {xs : List Int32} {p : Nat} {c : Int32} (hs : usz c = 4) : ((((xs.map Value.int).set (p + 3) (.int ((128 : Int32) ||| (c &&& (63 : Int32))).toInt8.toInt32)).set (p + 2) (.int ((128 : Int32) ||| (u6 c &&& (63 : Int32))).toInt8.toInt32)).set (p + 1) (.int ((128 : Int32) ||| (u6 (u6 c) &&& (63 : Int32))).toInt8.toInt32)).set p (.int ((240 : Int32) ||| u6 (u6 (u6 c))).toInt8.toInt32) = (wr1 xs p c).map Value.int := by
  obtain ⟨h1, h2, h3⟩ := usz4 hs
  rw [u6_3 (by omega), u6_2 (by omega), u6_1 (by omega), mset, mset, mset, mset]; unfold wr1; rw [if_neg h1, if_neg h2, if_neg h3]
  show List.map Value.int (((((xs.set (p + 3) (bb _)).set (p + 2) (bb _)).set (p + 1) (bb _)).set p (bb _))) = _
  generalize bb ((240 : Int32) ||| _) = x0
  generalize bb ((128 : Int32) ||| (c >>> ((12 : Int32) &&& 31) &&& _)) = x1
  generalize bb ((128 : Int32) ||| (c >>> ((6 : Int32) &&& 31) &&& _)) = x2
  generalize bb ((128 : Int32) ||| (c &&& _)) = x3
  rw [List.set_comm x1 x0 (by omega), List.set_comm x2 x0 (by omega), List.set_comm x3 x0 (by omega), List.set_comm x2 x1 (by omega), List.set_comm x3 x1 (by omega), List.set_comm x3 x2 (by omega)]
theorem len_enc {zz : Int32} {cs : List Int32} (lz : zz.toInt = (encB cs).length) (hlen : cs.length ≤ 1000000) : zz >>> (encC cs &&& 31) = Int32.ofNat cs.length := by
  by_cases q : Lat cs
  · rw [encB_len, if_pos q] at lz
    rw [show encC cs = 0 from if_pos q, shr0]
    exact eq32 (by rw [lz, ofN (by omega)])
  · rw [encB_len, if_neg q] at lz
    obtain rfl : zz = Int32.ofNat (2 * cs.length) := eq32 (by rw [lz, ofN (by omega)])
    rw [show encC cs = 1 from if_neg q, shrK (by omega) 1 1#32 (by decide), show 2 ^ (1#32).toNat = 2 from rfl]
    congr 1; omega
theorem len16 {zz : Int32} {cs : List Int32} (lz : zz.toInt = (encB cs).length) (hL : ¬ Lat cs) (hlen : cs.length ≤ 1000000) : zz >>> ((1 : Int32) &&& 31) = Int32.ofNat cs.length := by
  have e := len_enc lz hlen
  rwa [show encC cs = 1 from if_neg hL] at e
theorem byteAnd {c : Int32} (q : 0 ≤ c.toInt ∧ c.toInt < 256) : c.toInt8.toInt32 &&& (255 : Int32) = c := by
  have e : c = Int32.ofNat c.toInt.toNat := eq32 (by rw [ofN (by omega)]; omega)
  have f := low_byte ⟨c.toInt.toNat, by omega⟩
  dsimp only at f
  rwa [← e] at f
/-- at the place j of cs stands the code point c -/
def AtCP (cs : List Int32) (j : Nat) (c : Int32) : Prop := (c.toInt < 65536 ∧ ∃ h : j < cs.length, cs[j] = c) ∨ (65536 ≤ c.toInt ∧ ∃ h : j + 1 < cs.length, cs[j] = hiC c ∧ cs[j + 1] = loC c)
theorem AtCP.of (a b : List Int32) (c : Int32) : AtCP (a ++ (chs c ++ b)) a.length c := by
  by_cases q : c.toInt < 65536
  · refine Or.inl ⟨q, ?_⟩
    rw [show chs c = [c] from if_pos q]
    exact ⟨by simp, by simp⟩
  · refine Or.inr ⟨by omega, ?_⟩
    rw [show chs c = [hiC c, loC c] from if_neg q]
    refine ⟨by simp, by simp, ?_⟩
    rw [List.getElem_append_right (by omega)]; simp
theorem AtCP.lt {cs : List Int32} {j : Nat} {c : Int32} (h : AtCP cs j c) : j < cs.length := by
  rcases h with ⟨-, q, -⟩ | ⟨-, q, -⟩ <;> omega
theorem clen_snoc (a : List Int32) (c : Int32) : ((a ++ [c]).flatMap chs).length = (a.flatMap chs).length + cnt c := by
  rw [List.flatMap_append, List.length_append, List.flatMap_cons, List.flatMap_nil, List.append_nil, chs_len]
theorem len_lt {args : Array Value} {first s : State} {o : Option Outcome} {idx : List Nat} {t : Term} {v : Value} {x : Addr} {cl : Cell} (h : (Term.length t).eval args first o idx s = some v) (ht : t.eval args first o idx s = some (.ref x)) (ha : s.arrayAt? x = some cl) : cl.slots.size < 2 ^ 31 := by
  simp [Term.eval, ht, ha] at h
  exact h.1
end OwnUtf8
def Q_pch (Z : State) (n0 : Nat) (d : Addr) (kd : ClassId) (i cc zz : Int32) (j : Nat) (vs : List Value) (h0 : Heap) (v : Option Value) (h : Heap) : Prop := v = none ∧ Keep h0 h [d] ∧ Arv Z h d kd .byte zz ((vs.set (2 * j) (.int (b0 cc))).set (2 * j + 1) (.int (b1 cc))) (.int 0)
set_option maxRecDepth 65536 in
set_option maxHeartbeats 40000000 in
theorem ct_pch {l : Launch} {Z : State} {a0 : Array Value} (hw : ∀ d ∈ tables_1, d.before a0 Z = true) (hEL : EW Z a0 EL0) {n0 : Nat} (cds : List Jvm.Cond) (d : Addr) (kd : ClassId) (i cc zz : Int32) (j : Nat) (vs : List Value) (h0 : Heap) (Vd : Arv Z h0 d kd .byte zz vs (.int 0)) (hz : zz.toInt = vs.length) (hi : i.toInt = j) (hj : 2 * j + 1 < vs.length) (n0_d : n0 ≤ d) (SAD : Sta Z Z.heap "java/lang/StringUTF16" "$assertionsDisabled" "Z" (.int 1)) (SHI : Sta Z Z.heap "java/lang/StringUTF16" "HI_BYTE_SHIFT" "I" (.int 0)) (SLO : Sta Z Z.heap "java/lang/StringUTF16" "LO_BYTE_SHIFT" "I" (.int 8)) :
    Ct l Z a0 EL0 n0 false true (⟨"java/lang/StringUTF16", "putChar", "([BII)V"⟩ : MethodName) jdk_52_method_4_code 3 (Option.none : Option Jvm.ClassFile.FieldType) cds ({ frames := 0, cells := 0, slots := 0, locals := 0 } : Room) [d] #[(.ref d), (.int i), (.int cc)] h0 (Q_pch Z n0 d kd i cc zz j vs h0) := by
  refine Ct.of (plainFor_of_name pn_0) hEL ?_
  intro p e s m below meth c T0 W0 hret hnm hs0
  refine Go.cast (ef_RII_3 m d i cc) ?_
  show Go p e below _ T0 (mkF m 0 #[.val (.ref d), .val (.int i), .val (.int cc)] [])
  have bz := zz.toInt_lt
  have lt_d := natlt Vd.lt
  refine gGetS W0 (host := "") (Or.inl (w_139 hw)) Via.refl (SAD.ext W0.old.2) d28_0 (pc' := 3) rfl ?_
  intro T1 W1
  refine s_ifne W1 d28_3 (by decide) (pc1 := 28) (by decide) (pc2 := 6) rfl ?_ (fun q => absurd q (by decide))
  intro q3
  refine s_iloadN W1 d28_28 rfl (pc' := 29) rfl ?_
  refine s_iconst W1 d28_29 (v := (1 : Int32)) (by decide) (pc' := 30) rfl ?_
  refine s_ishl W1 d28_30 (pc' := 31) rfl ?_
  rw [shl1 hi (by omega)]
  refine s_istoreN W1 d28_31 (l' := #[.val (.ref d), .val (.int (Int32.ofNat (2 * j))), .val (.int cc)]) rfl (pc' := 32) rfl ?_
  refine s_aloadN W1 d28_32 rfl rfl (pc' := 33) rfl ?_
  refine s_iloadN W1 d28_33 rfl (pc' := 34) rfl ?_
  refine s_iinc W1 d28_34 (v := (1 : Int32)) (by decide) rfl (l' := #[.val (.ref d), .val (.int ((Int32.ofNat (2 * j)) + (1 : Int32))), .val (.int cc)]) rfl (pc' := 37) rfl ?_
  rw [show Int32.ofNat (2 * j) + (1 : Int32) = Int32.ofNat (2 * j + 1) from n32s _]
  refine s_iloadN W1 d28_37 rfl (pc' := 38) rfl ?_
  refine gGetS W1 (host := "") (Or.inl (w_140 hw)) Via.refl (SHI.ext W1.old.2) d28_38 (pc' := 41) rfl ?_
  intro T2 W2
  refine s_ishr W2 d28_41 (pc' := 42) rfl ?_
  refine s_i2b W2 d28_42 (pc' := 43) rfl ?_
  refine gStB W2 n0_d (List.mem_of_getElem? (i := 0) rfl) Vd (idxM (ofN (by omega)) hz (by omega)).1 (i := (2 * j)) (idxM (ofN (by omega)) hz (by omega)).2 (by omega) d28_43 (pc' := 44) rfl ?_
  intro T3 h3 W3 K3 V1
  rw [bb8] at V1
  have z3 : h0.size ≤ h3.size := K3.1
  refine s_aloadN W3 d28_44 rfl rfl (pc' := 45) rfl ?_
  refine s_iloadN W3 d28_45 rfl (pc' := 46) rfl ?_
  refine s_iloadN W3 d28_46 rfl (pc' := 47) rfl ?_
  refine gGetS W3 (host := "") (Or.inl (w_141 hw)) Via.refl (SLO.ext W3.old.2) d28_47 (pc' := 50) rfl ?_
  intro T4 W4
  refine s_ishr W4 d28_50 (pc' := 51) rfl ?_
  refine s_i2b W4 d28_51 (pc' := 52) rfl ?_
  refine gStB W4 n0_d (List.mem_of_getElem? (i := 0) rfl) V1 (idxM (ofN (by omega)) hz (by omega)).1 (i := (2 * j + 1)) (idxM (ofN (by omega)) hz (by omega)).2 (by rw [List.length_set]; omega) d28_52 (pc' := 53) rfl ?_
  intro T5 h5 W5 K5 V2
  rw [bb8] at V2
  have z5 : h3.size ≤ h5.size := K5.1
  exact gRetV W5 hret d28_53 (by decide) (by decide) ⟨rfl, (((Keep.refl h0 [d]).trans K3 (allS (Or.inl (by simp)) all0)).trans K5 (allS (Or.inl (by simp)) all0)), V2⟩
def Q_gch (Z : State) (n0 : Nat) (d : Addr) (kd : ClassId) (i zz : Int32) (cs : List Int32) (j : Nat) (hjl : j < cs.length) (h0 : Heap) (v : Option Value) (h : Heap) : Prop := v = some (.int cs[j]) ∧ h0 = h
set_option maxRecDepth 65536 in
set_option maxHeartbeats 40000000 in
theorem ct_gch {l : Launch} {Z : State} {a0 : Array Value} (hw : ∀ d ∈ tables_1, d.before a0 Z = true) (hEL : EW Z a0 EL0) {n0 : Nat} (cds : List Jvm.Cond) (d : Addr) (kd : ClassId) (i zz : Int32) (cs : List Int32) (j : Nat) (hjl : j < cs.length) (h0 : Heap) (Vd : Arv Z h0 d kd .byte zz ((U16B cs).map Value.int) (.int 0)) (hz : zz.toInt = (2 * cs.length : Nat)) (hi : i.toInt = j) (hcs : ∀ c ∈ cs, 0 ≤ c.toInt ∧ c.toInt < 65536) (SAD : Sta Z Z.heap "java/lang/StringUTF16" "$assertionsDisabled" "Z" (.int 1)) (SHI : Sta Z Z.heap "java/lang/StringUTF16" "HI_BYTE_SHIFT" "I" (.int 0)) (SLO : Sta Z Z.heap "java/lang/StringUTF16" "LO_BYTE_SHIFT" "I" (.int 8)) :
    Ct l Z a0 EL0 n0 false true (⟨"java/lang/StringUTF16", "getChar", "([BI)C"⟩ : MethodName) jdk_52_method_5_code 2 (Option.some Jvm.ClassFile.FieldType.char) cds ({ frames := 0, cells := 0, slots := 0, locals := 0 } : Room) [] #[(.ref d), (.int i)] h0 (Q_gch Z n0 d kd i zz cs j hjl h0) := by
  refine Ct.of (plainFor_of_name pn_0) hEL ?_
  intro p e s m below meth c T0 W0 hret hnm hs0
  refine Go.cast (ef_RI_2 m d i) ?_
  show Go p e below _ T0 (mkF m 0 #[.val (.ref d), .val (.int i)] [])
  have bz := zz.toInt_lt
  have hw' := hcs cs[j] (List.getElem_mem hjl)
  refine gGetS W0 (host := "") (Or.inl (w_139 hw)) Via.refl (SAD.ext W0.old.2) d29_0 (pc' := 3) rfl ?_
  intro T1 W1
  refine s_ifne W1 d29_3 (by decide) (pc1 := 28) (by decide) (pc2 := 6) rfl ?_ (fun q => absurd q (by decide))
  intro q3
  refine s_iloadN W1 d29_28 rfl (pc' := 29) rfl ?_
  refine s_iconst W1 d29_29 (v := (1 : Int32)) (by decide) (pc' := 30) rfl ?_
  refine s_ishl W1 d29_30 (pc' := 31) rfl ?_
  rw [shl1 hi (by omega)]
  refine s_istoreN W1 d29_31 (l' := #[.val (.ref d), .val (.int (Int32.ofNat (2 * j)))]) rfl (pc' := 32) rfl ?_
  refine s_aloadN W1 d29_32 rfl rfl (pc' := 33) rfl ?_
  refine s_iloadN W1 d29_33 rfl (pc' := 34) rfl ?_
  refine s_iinc W1 d29_34 (v := (1 : Int32)) (by decide) rfl (l' := #[.val (.ref d), .val (.int ((Int32.ofNat (2 * j)) + (1 : Int32)))]) rfl (pc' := 37) rfl ?_
  rw [show Int32.ofNat (2 * j) + (1 : Int32) = Int32.ofNat (2 * j + 1) from n32s _]
  refine gLdB W1 Vd (idxM (j := 2 * j) (k := 2 * cs.length) (ofN (by omega)) hz (by omega)).1 (v := .int (b0 cs[j])) (by rw [(idxM (j := 2 * j) (k := 2 * cs.length) (ofN (by omega)) hz (by omega)).2]; exact getU0 hjl) d29_37 (pc' := 38) rfl ?_
  refine s_sipush W1 d29_38 (v := (255 : Int32)) (by decide) (pc' := 41) rfl ?_
  refine s_iand W1 d29_41 (pc' := 42) rfl ?_
  refine gGetS W1 (host := "") (Or.inl (w_140 hw)) Via.refl (SHI.ext W1.old.2) d29_42 (pc' := 45) rfl ?_
  intro T2 W2
  refine s_ishl W2 d29_45 (pc' := 46) rfl ?_
  refine s_aloadN W2 d29_46 rfl rfl (pc' := 47) rfl ?_
  refine s_iloadN W2 d29_47 rfl (pc' := 48) rfl ?_
  refine gLdB W2 Vd (idxM (j := 2 * j + 1) (k := 2 * cs.length) (ofN (by omega)) hz (by omega)).1 (v := .int (b1 cs[j])) (by rw [(idxM (j := 2 * j + 1) (k := 2 * cs.length) (ofN (by omega)) hz (by omega)).2]; exact getU1 hjl) d29_48 (pc' := 49) rfl ?_
  refine s_sipush W2 d29_49 (v := (255 : Int32)) (by decide) (pc' := 52) rfl ?_
  refine s_iand W2 d29_52 (pc' := 53) rfl ?_
  refine gGetS W2 (host := "") (Or.inl (w_141 hw)) Via.refl (SLO.ext W2.old.2) d29_53 (pc' := 56) rfl ?_
  intro T3 W3
  refine s_ishl W3 d29_56 (pc' := 57) rfl ?_
  refine s_ior W3 d29_57 (pc' := 58) rfl ?_
  refine s_i2c W3 d29_58 (pc' := 59) rfl ?_
  exact gRetN W3 hret (by simp) d29_59 (by decide) (by decide) ⟨by show some (Value.int (nar .char (gchV (b0 cs[j]) (b1 cs[j])))) = _; rw [gch_of hw', nar_wide hw'], rfl⟩
def Q_nbl (Z : State) (n0 : Nat) (z : Int32) (h0 : Heap) (v : Option Value) (h : Heap) : Prop := v = some (.int (z <<< ((1 : Int32) &&& 31))) ∧ h0 = h
set_option maxRecDepth 65536 in
set_option maxHeartbeats 40000000 in
theorem ct_nbl {l : Launch} {Z : State} {a0 : Array Value} (hw : ∀ d ∈ tables_1, d.before a0 Z = true) (hEL : EW Z a0 EL0) {n0 : Nat} (cds : List Jvm.Cond) (z : Int32) (h0 : Heap) (h1 : 0 ≤ z.toInt) (h2 : z.toInt < 1073741823) :
    Ct l Z a0 EL0 n0 false true (⟨"java/lang/StringUTF16", "newBytesLength", "(I)I"⟩ : MethodName) jdk_52_method_3_code 1 (Option.some Jvm.ClassFile.FieldType.int) cds ({ frames := 0, cells := 0, slots := 0, locals := 0 } : Room) [] #[(.int z)] h0 (Q_nbl Z n0 z h0) := by
  refine Ct.of (plainFor_of_name pn_0) hEL ?_
  intro p e s m below meth c T0 W0 hret hnm hs0
  refine Go.cast (ef_I_1 m z) ?_
  show Go p e below _ T0 (mkF m 0 #[.val (.int z)] [])
  refine s_iloadN W0 d27_0 rfl (pc' := 1) rfl ?_
  refine s_ifge W0 d27_1 (by decide) (pc1 := 12) (by decide) (pc2 := 4) rfl ?_ (fun q => absurd q (nlt32 (by rw [zero32]; omega)))
  intro q1
  refine s_iloadN W0 d27_12 rfl (pc' := 13) rfl ?_
  refine s_ldcI W0 (w_135 hw) d27_13 (pc' := 15) rfl ?_
  refine s_icmplt W0 d27_15 (by decide) (pc1 := 55) (by decide) (pc2 := 18) rfl ?_ (fun q => absurd q (fun q' => q' (lt32 (by rw [show (1073741823 : Int32).toInt = 1073741823 from by decide]; omega))))
  intro q15
  refine s_iloadN W0 d27_55 rfl (pc' := 56) rfl ?_
  refine s_iconst W0 d27_56 (v := (1 : Int32)) (by decide) (pc' := 57) rfl ?_
  refine s_ishl W0 d27_57 (pc' := 58) rfl ?_
  exact gRetI W0 hret d27_58 (by decide) (by decide) ⟨rfl, rfl⟩
def Q_nbf (Z : State) (n0 : Nat) (z : Int32) (k : Nat) (h0 : Heap) (v : Option Value) (h : Heap) : Prop := ∃ d kd, v = some (.ref d) ∧ Keep h0 h [] ∧ h0.size ≤ d ∧ Arv Z h d kd .byte (Int32.ofNat (2 * k)) [] (.int 0)
set_option maxRecDepth 65536 in
set_option maxHeartbeats 40000000 in
theorem ct_nbf {l : Launch} {Z : State} {a0 : Array Value} (hw : ∀ d ∈ tables_1, d.before a0 Z = true) (hEL : EW Z a0 EL0) {n0 : Nat} (cds : List Jvm.Cond) (z : Int32) (k : Nat) (h0 : Heap) (hz : z.toInt = k) (hk : k ≤ 4) :
    CtS l Z a0 EL0 n0 false true (⟨"java/lang/StringUTF16", "newBytesFor", "(I)[B"⟩ : MethodName) jdk_52_method_2_code 1 (Option.some (Jvm.ClassFile.FieldType.array Jvm.ClassFile.FieldType.byte)) cds ({ frames := 1, cells := 1, slots := 8, locals := 12 } : Room) [] #[(.int z)] h0 (Q_nbf Z n0 z k h0) := by
  refine CtS.of (plainFor_of_name pn_0) hEL ?_
  intro p e s m below meth c T0 W0 hret hnm hs0
  refine Go.cast (ef_I_1 m z) ?_
  show Go p e below _ T0 (mkF m 0 #[.val (.int z)] [])
  refine s_iloadN W0 d26_0 rfl (pc' := 1) rfl ?_
  refine gStatic W0 (w_132 hw) (w_133 hw) (w_87 hw) (w_134 hw) (by decide) pd_0 (ct_nbl hw hEL [] z h0 (by omega) (by omega)) (by simp) d26_1 (pc' := 4) rfl rfl (argsL := [(.int z)]) rfl rfl (rest := []) rfl (wt := 0) (Nat.le_of_eq rfl) (by decide) (by decide) (by decide) (by decide) ?_
  rintro v1 T1 h1 W1 z1 ⟨rfl, rfl⟩
  rw [shl1 hz (by omega)]
  show Go p e below _ T1 (mkF m 4 #[.val (.int z)] [(.int (Int32.ofNat (2 * k)))])
  refine gNewP (aty := .byte) W1 (w_12 hw) (ad := "[B") (by decide +kernel) d26_4 (pc' := 6) rfl (nlt32 (by rw [zero32, ofN (show 2 * k < 2147483648 by omega)]; omega)) (cap := 8) (by rw [show (Int32.ofNat (2 * k)).toNatClampNeg = 2 * k from n32c (by omega)]; omega) (by decide) (by decide) (by decide) ?_
  intro T2 h2 b2 g2 W2 E2 ⟨k2, V2, A2⟩
  have z2 : h0.size ≤ h2.size := E2.1
  have lt_b2 := natlt A2.lt
  have gg2 := nateq g2
  have n0_b2 : n0 ≤ b2 := by have := W1.n0le; omega
  have Vp2 : Arv Z h2 b2 k2 .byte (Int32.ofNat (2 * k)) [] (.int (0 : Int32)) := V2
  exact gRetAS W2 (List.mem_of_getElem? (i := 0) rfl) hret rfl d26_6 (by decide) (by decide) ⟨_, _, rfl, ((Keep.refl h0 []).ext E2), natle (by omega), Vp2⟩
def Q_tb3 (Z : State) (n0 : Nat) (b : Addr) (kb : ClassId) (z : Int32) (cs : List Int32) (h0 : Heap) (v : Option Value) (h : Heap) : Prop := ∃ d kd, v = some (.ref d) ∧ Keep h0 h [] ∧ h0.size ≤ d ∧ Arv Z h d kd .byte (Int32.ofNat (2 * cs.length)) ((U16B cs).map Value.int) (.int 0)
set_option maxRecDepth 65536 in
set_option maxHeartbeats 40000000 in
theorem ct_tb3 {l : Launch} {Z : State} {a0 : Array Value} (hw : ∀ d ∈ tables_1, d.before a0 Z = true) (hEL : EW Z a0 EL0) {n0 : Nat} (cds : List Jvm.Cond) (b : Addr) (kb : ClassId) (z : Int32) (cs : List Int32) (h0 : Heap) (hz : z.toInt = cs.length) (hlen : cs.length ≤ 4) (Vb : Arv Z h0 b kb .char z (cs.map Value.int) (.int 0)) (SAD : Sta Z Z.heap "java/lang/StringUTF16" "$assertionsDisabled" "Z" (.int 1)) (SHI : Sta Z Z.heap "java/lang/StringUTF16" "HI_BYTE_SHIFT" "I" (.int 0)) (SLO : Sta Z Z.heap "java/lang/StringUTF16" "LO_BYTE_SHIFT" "I" (.int 8)) :
    CtS l Z a0 EL0 n0 false true (⟨"java/lang/StringUTF16", "toBytes", "([CII)[B"⟩ : MethodName) jdk_52_method_14_code 5 (Option.some (Jvm.ClassFile.FieldType.array Jvm.ClassFile.FieldType.byte)) cds ({ frames := 2, cells := 1, slots := 8, locals := 24 } : Room) [] #[(.ref b), (.int (0 : Int32)), (.int z)] h0 (Q_tb3 Z n0 b kb z cs h0) := by
  refine CtS.of (plainFor_of_name pn_0) hEL ?_
  intro p e s m below meth c T0 W0 hret hnm hs0
  refine Go.cast (ef_RII_5 m b (0 : Int32) z) ?_
  show Go p e below _ T0 (mkF m 0 #[.val (.ref b), .val (.int (0 : Int32)), .val (.int z), .unset, .unset] [])
  have lt_b := natlt Vb.lt
  refine s_iloadN W0 d25_0 rfl (pc' := 1) rfl ?_
  refine gStaticS W0 (w_129 hw) (w_130 hw) (w_87 hw) (w_131 hw) (by decide) pd_1 (ct_nbf hw hEL [] z cs.length h0 hz hlen) (by simp) d25_1 (pc' := 4) rfl rfl (argsL := [(.int z)]) rfl rfl (rest := []) rfl (wt := 0) (Nat.le_of_eq rfl) (by decide) (by decide) (by decide) (by decide) ?_
  rintro v1 T1 h1 Wf1 z1 ⟨d, kd, rfl, Kn, gn, Vn⟩
  have W1 := Wf1 [d] (fun x hx => (List.mem_cons.mp hx).elim (fun q => Or.inr (by rw [q])) Or.inl)
  have gd0 := natle gn
  have lt_d := natlt Vn.lt
  have n0_d : n0 ≤ d := by have := W0.n0le; omega
  show Go p e below _ T1 (mkF m 4 #[.val (.ref b), .val (.int (0 : Int32)), .val (.int z), .unset, .unset] [(.ref d)])
  refine s_astoreN W1 d25_4 rfl (l' := #[.val (.ref b), .val (.int (0 : Int32)), .val (.int z), .val (.ref d), .unset]) rfl (pc' := 5) rfl ?_
  refine s_iconst W1 d25_5 (v := (0 : Int32)) (by decide) (pc' := 6) rfl ?_
  refine s_istore W1 d25_6 (l' := #[.val (.ref b), .val (.int (0 : Int32)), .val (.int z), .val (.ref d), .val (.int (0 : Int32))]) rfl (pc' := 8) rfl ?_
  have zz : (Int32.ofNat (2 * cs.length)).toInt = (2 * cs.length : Nat) := ofN (by omega)
  suffices loop : ∀ (r j : Nat), j + r = cs.length → ∀ (T : State) (h : Heap), Wk p l e ({ frames := 2, cells := 1, slots := 8, locals := 24 } : Room) s m #[(.ref b), (.int (0 : Int32)), (.int z)] below meth c Z a0 EL0 n0 false true "java/lang/StringUTF16" jdk_52_method_14_code 5 [d] T h 1 8 → Keep h1 h [d] → Arv Z h d kd .byte (Int32.ofNat (2 * cs.length)) ((U16B (cs.take j)).map Value.int ++ List.replicate (2 * r) (.int 0)) (.int 0) → Go p e below (PoS s Z EL0 n0 true ({ frames := 2, cells := 1, slots := 8, locals := 24 } : Room).cells ({ frames := 2, cells := 1, slots := 8, locals := 24 } : Room).slots (Q_tb3 Z n0 b kb z cs h0)) T (mkF m 8 #[.val (.ref b), .val (.int j.toInt32), .val (.int z), .val (.ref d), .val (.int j.toInt32)] []) from
    loop cs.length 0 (Nat.zero_add _) T1 h1 W1 (Keep.refl _ _) (Arv.pad Vn (pad_rep [] (.int 0) (2 * cs.length)))
  intro r
  induction r with
  | zero =>
    intro j hj T1 h1 W1 K1 Vj
    have ej : j.toInt32.toInt = j := n32 (by omega)
    refine s_iload W1 d25_8 rfl (pc' := 10) rfl ?_
    refine s_iloadN W1 d25_10 rfl (pc' := 11) rfl ?_
    refine s_icmpge W1 d25_11 (by decide) (pc1 := 32) (by decide) (pc2 := 14) rfl ?_ (fun q => absurd q (nlt32 (by omega)))
    intro q11
    refine s_aloadN W1 d25_32 rfl rfl (pc' := 33) rfl ?_
    exact gRetAS W1 (List.mem_of_getElem? (i := 0) rfl) hret rfl d25_33 (by decide) (by decide) ⟨d, kd, rfl, Kn.trans K1 (allS (Or.inr gd0) all0), gd0, by rw [List.take_of_length_le (by omega), Nat.mul_zero, List.replicate_zero, List.append_nil] at Vj; exact Vj⟩
  | succ r ih =>
    intro j hj T1 h1 W1 K1 Vj
    have ej : j.toInt32.toInt = j := n32 (by omega)
    have hjl : j < cs.length := by omega
    have Vb1 := (Vb.keep Kn nin0).keep K1 (ninS (ane (by omega)) nin0)
    refine s_iload W1 d25_8 rfl (pc' := 10) rfl ?_
    refine s_iloadN W1 d25_10 rfl (pc' := 11) rfl ?_
    refine s_icmpge W1 d25_11 (by decide) (pc1 := 32) (by decide) (pc2 := 14) rfl (fun q => absurd q (fun q' => q' (lt32 (by omega)))) ?_
    intro q11
    refine s_aloadN W1 d25_14 rfl rfl (pc' := 15) rfl ?_
    refine s_iload W1 d25_15 rfl (pc' := 17) rfl ?_
    refine s_aloadN W1 d25_17 rfl rfl (pc' := 18) rfl ?_
    refine s_iloadN W1 d25_18 rfl (pc' := 19) rfl ?_
    refine gLdC W1 Vb1 (idxM ej hz hjl).1 (v := .int cs[j]) (by rw [(idxM ej hz hjl).2]; exact getD_map' _ _ _ hjl) d25_19 (pc' := 20) rfl ?_
    have ln : ((U16B (cs.take j)).map Value.int).length = 2 * j := by rw [List.length_map, U16B_len, List.length_take]; omega
    have lv : ((U16B (cs.take j)).map Value.int ++ List.replicate (2 * (r + 1)) (Value.int 0)).length = 2 * cs.length := by rw [List.length_append, ln, List.length_replicate]; omega
    refine gStatic W1 (w_136 hw) (w_137 hw) (w_87 hw) (w_138 hw) (by decide) pd_2 (ct_pch hw hEL [] d kd j.toInt32 cs[j] (Int32.ofNat (2 * cs.length)) j ((U16B (cs.take j)).map Value.int ++ List.replicate (2 * (r + 1)) (Value.int 0)) h1 Vj (by rw [lv]; exact zz) ej (by rw [lv]; omega) n0_d SAD SHI SLO) (fun x hx => hx) d25_20 (pc' := 23) rfl rfl (argsL := [(.ref d), (.int j.toInt32), (.int cs[j])]) rfl rfl (rest := []) rfl (wt := 0) (Nat.le_of_eq rfl) (by decide) (by decide) (by decide) (by decide) ?_
    rintro v2 T2 h2 W2 z2 ⟨rfl, Kp, Vp⟩
    show Go p e below _ T2 (mkF m 23 #[.val (.ref b), .val (.int j.toInt32), .val (.int z), .val (.ref d), .val (.int j.toInt32)] [])
    refine s_iinc W2 d25_23 (v := (1 : Int32)) (by decide) rfl (l' := #[.val (.ref b), .val (.int (j.toInt32 + (1 : Int32))), .val (.int z), .val (.ref d), .val (.int j.toInt32)]) rfl (pc' := 26) rfl ?_
    refine s_iinc W2 d25_26 (v := (1 : Int32)) (by decide) rfl (l' := #[.val (.ref b), .val (.int (j.toInt32 + (1 : Int32))), .val (.int z), .val (.ref d), .val (.int (j.toInt32 + (1 : Int32)))]) rfl (pc' := 29) rfl ?_
    refine s_goto W2 d25_29 (by decide) (pc' := 8) (by decide) ?_
    rw [n32s]
    refine ih (j + 1) (by omega) T2 h2 W2 (K1.trans Kp (allS (Or.inl (by simp)) all0)) ?_
    have e1 : List.replicate (2 * (r + 1)) (Value.int 0) = Value.int 0 :: Value.int 0 :: List.replicate (2 * r) (Value.int 0) := by rw [show 2 * (r + 1) = 2 * r + 1 + 1 from by omega, List.replicate_succ, List.replicate_succ]
    rw [e1, set2 _ _ _ _ _ _ ln.symm] at Vp
    rw [List.take_succ_eq_append_getElem hjl, U16B_app, List.map_append, List.append_assoc]
    exact Vp
def Q_cmp5g (Z : State) (n0 : Nat) (b d : Addr) (kb kd : ClassId) (z : Int32) (cs : List Int32) (h0 : Heap) (v : Option Value) (h : Heap) : Prop := Keep h0 h [d] ∧ ((v = some (.int z) ∧ Lat cs ∧ Arv Z h d kd .byte z (cs.map fun c => Value.int c.toInt8.toInt32) (.int 0)) ∨ ∃ f, ∃ hf : f < cs.length, v = some (.int f.toInt32) ∧ 256 ≤ cs[f].toInt)
set_option maxRecDepth 65536 in
set_option maxHeartbeats 40000000 in
theorem ct_cmp5g {l : Launch} {Z : State} {a0 : Array Value} (hw : ∀ d ∈ tables_1, d.before a0 Z = true) (hEL : EW Z a0 EL0) {n0 : Nat} (cds : List Jvm.Cond) (b d : Addr) (kb kd : ClassId) (z : Int32) (cs : List Int32) (h0 : Heap) (hz : z.toInt = cs.length) (hlen : cs.length ≤ 4) (Vb : Arv Z h0 b kb .char z (cs.map Value.int) (.int 0)) (Vd : Arv Z h0 d kd .byte z [] (.int 0)) (n0_d : n0 ≤ d) (hne : b ≠ d) :
    Ct l Z a0 EL0 n0 false true (⟨"java/lang/StringUTF16", "compress", "([CI[BII)I"⟩ : MethodName) jdk_52_method_21_code 7 (Option.some Jvm.ClassFile.FieldType.int) cds ({ frames := 0, cells := 0, slots := 0, locals := 0 } : Room) [d] #[(.ref b), (.int (0 : Int32)), (.ref d), (.int (0 : Int32)), (.int z)] h0 (Q_cmp5g Z n0 b d kb kd z cs h0) := by
  refine Ct.of (plainFor_of_name pn_0) hEL ?_
  intro p e s m below meth c T0 W0 hret hnm hs0
  refine Go.cast (ef_RIRII_7 m b (0 : Int32) d (0 : Int32) z) ?_
  show Go p e below _ T0 (mkF m 0 #[.val (.ref b), .val (.int (0 : Int32)), .val (.ref d), .val (.int (0 : Int32)), .val (.int z), .unset, .unset] [])
  refine s_iconst W0 d17_0 (v := (0 : Int32)) (by decide) (pc' := 1) rfl ?_
  refine s_istore W0 d17_1 (l' := #[.val (.ref b), .val (.int (0 : Int32)), .val (.ref d), .val (.int (0 : Int32)), .val (.int z), .val (.int (0 : Int32)), .unset]) rfl (pc' := 3) rfl ?_
  suffices loop : ∀ (r j : Nat), j + r = cs.length → ∀ (T : State) (h : Heap) (s6 : Slot), One1 s6 → Wk p l e ({ frames := 0, cells := 0, slots := 0, locals := 0 } : Room) s m #[(.ref b), (.int (0 : Int32)), (.ref d), (.int (0 : Int32)), (.int z)] below meth c Z a0 EL0 n0 false true "java/lang/StringUTF16" jdk_52_method_21_code 7 [d] T h 0 0 → Keep h0 h [d] → (∀ i, ∀ hi : i < cs.length, i < j → cs[i].toInt < 256) → Arv Z h d kd .byte z ((cs.take j).map fun c => Value.int c.toInt8.toInt32) (.int 0) → Go p e below (Po s Z EL0 n0 true ({ frames := 0, cells := 0, slots := 0, locals := 0 } : Room).cells ({ frames := 0, cells := 0, slots := 0, locals := 0 } : Room).slots (Q_cmp5g Z n0 b d kb kd z cs h0)) T (mkF m 3 #[.val (.ref b), .val (.int j.toInt32), .val (.ref d), .val (.int j.toInt32), .val (.int z), .val (.int j.toInt32), s6] []) from
    loop cs.length 0 (Nat.zero_add _) T0 h0 .unset One1.u W0 (Keep.refl _ _) (fun i _ q => absurd q (Nat.not_lt_zero _)) Vd
  intro r
  induction r with
  | zero =>
    intro j hj T1 h1 s6 h6 W1 K1 HL Vj
    have ej : j.toInt32.toInt = j := n32 (by omega)
    refine s_iload W1 d17_3 rfl (pc' := 5) rfl ?_
    refine s_iload W1 d17_5 rfl (pc' := 7) rfl ?_
    refine s_icmpge W1 d17_7 (by decide) (pc1 := 44) (by decide) (pc2 := 10) rfl ?_ (fun q => absurd q (nlt32 (by omega)))
    intro q7
    refine s_iload W1 d17_44 rfl (pc' := 46) rfl ?_
    exact gRetI W1 hret d17_46 (by decide) (by decide) ⟨K1, Or.inl ⟨rfl, (fun c hc => by obtain ⟨i, hi, rfl⟩ := List.getElem_of_mem hc; exact HL i hi (by omega)), by rw [List.take_of_length_le (by omega)] at Vj; exact Vj⟩⟩
  | succ r ih =>
    intro j hj T1 h1 s6 h6 W1 K1 HL Vj
    have ej : j.toInt32.toInt = j := n32 (by omega)
    have hjl : j < cs.length := by omega
    have os : storeLocals #[.val (.ref b), .val (.int j.toInt32), .val (.ref d), .val (.int j.toInt32), .val (.int z), .val (.int j.toInt32), s6] 6 (.int cs[j]) = some #[.val (.ref b), .val (.int j.toInt32), .val (.ref d), .val (.int j.toInt32), .val (.int z), .val (.int j.toInt32), .val (.int cs[j])] := by
      rcases h6 with rfl | ⟨w, rfl, hw⟩
      · rfl
      · cases w <;> first | rfl | (simp [Value.category] at hw)
    refine s_iload W1 d17_3 rfl (pc' := 5) rfl ?_
    refine s_iload W1 d17_5 rfl (pc' := 7) rfl ?_
    refine s_icmpge W1 d17_7 (by decide) (pc1 := 44) (by decide) (pc2 := 10) rfl (fun q => absurd q (fun q' => q' (lt32 (by omega)))) ?_
    intro q7
    refine s_aloadN W1 d17_10 rfl rfl (pc' := 11) rfl ?_
    refine s_iloadN W1 d17_11 rfl (pc' := 12) rfl ?_
    have Vb1 := Vb.keep K1 (ninS hne nin0)
    refine gLdC W1 Vb1 (idxM ej hz hjl).1 (v := .int cs[j]) (by rw [(idxM ej hz hjl).2]; exact getD_map' _ _ _ hjl) d17_12 (pc' := 13) rfl ?_
    refine s_istore W1 d17_13 (l' := #[.val (.ref b), .val (.int j.toInt32), .val (.ref d), .val (.int j.toInt32), .val (.int z), .val (.int j.toInt32), .val (.int cs[j])]) os (pc' := 15) rfl ?_
    refine s_iload W1 d17_15 rfl (pc' := 17) rfl ?_
    refine s_sipush W1 d17_17 (v := (255 : Int32)) (by decide) (pc' := 20) rfl ?_
    refine s_icmple W1 d17_20 (by decide) (pc1 := 26) (by decide) (pc2 := 23) rfl ?_ ?_
    · intro q20
      have qb : cs[j].toInt < 256 := Classical.byContradiction fun r => q20 (lt32 (by rw [show (255 : Int32).toInt = 255 from by decide]; omega))
      refine s_aloadN W1 d17_26 rfl rfl (pc' := 27) rfl ?_
      refine s_iloadN W1 d17_27 rfl (pc' := 28) rfl ?_
      refine s_iload W1 d17_28 rfl (pc' := 30) rfl ?_
      refine s_i2b W1 d17_30 (pc' := 31) rfl ?_
      have Vp := Arv.pad Vj (pad_rep _ (.int 0) 1)
      refine gStB W1 n0_d (List.mem_of_getElem? (i := 0) rfl) Vp (idxM ej hz hjl).1 (i := j) (idxM ej hz hjl).2 (by simp; omega) d17_31 (pc' := 32) rfl ?_
      intro T2 h2 W2 K2 V2
      refine s_iinc W2 d17_32 (v := (1 : Int32)) (by decide) rfl (l' := #[.val (.ref b), .val (.int (j.toInt32 + (1 : Int32))), .val (.ref d), .val (.int j.toInt32), .val (.int z), .val (.int j.toInt32), .val (.int cs[j])]) rfl (pc' := 35) rfl ?_
      refine s_iinc W2 d17_35 (v := (1 : Int32)) (by decide) rfl (l' := #[.val (.ref b), .val (.int (j.toInt32 + (1 : Int32))), .val (.ref d), .val (.int (j.toInt32 + (1 : Int32))), .val (.int z), .val (.int j.toInt32), .val (.int cs[j])]) rfl (pc' := 38) rfl ?_
      refine s_iinc W2 d17_38 (v := (1 : Int32)) (by decide) rfl (l' := #[.val (.ref b), .val (.int (j.toInt32 + (1 : Int32))), .val (.ref d), .val (.int (j.toInt32 + (1 : Int32))), .val (.int z), .val (.int (j.toInt32 + (1 : Int32))), .val (.int cs[j])]) rfl (pc' := 41) rfl ?_
      refine s_goto W2 d17_41 (by decide) (pc' := 3) (by decide) ?_
      rw [n32s]
      refine ih (j + 1) (by omega) T2 h2 _ (One1.i _) W2 (K1.trans K2 (allS (Or.inl (by simp)) all0)) (fun i hi q => (Nat.lt_succ_iff_lt_or_eq.mp q).elim (HL i hi) (fun e => by subst e; exact qb)) ?_
      rw [take_succ' _ _ hjl]
      rw [set_last _ _ _ (by simp; omega), bb8] at V2
      exact V2
    · intro q20
      have qb : 256 ≤ cs[j].toInt := by have := Int32.lt_iff_toInt_lt.mp q20; rw [show (255 : Int32).toInt = 255 from by decide] at this; omega
      refine s_iload W1 d17_23 rfl (pc' := 25) rfl ?_
      exact gRetI W1 hret d17_25 (by decide) (by decide) ⟨K1, Or.inr ⟨j, hjl, rfl, qb⟩⟩
def Q_cmp3g (Z : State) (n0 : Nat) (b : Addr) (kb : ClassId) (z : Int32) (cs : List Int32) (h0 : Heap) (v : Option Value) (h : Heap) : Prop := ∃ d kd, ∃ zz : Int32, v = some (.ref d) ∧ Keep h0 h [] ∧ h0.size ≤ d ∧ zz.toInt = (encB cs).length ∧ (Lat cs → zz = z) ∧ Arv Z h d kd .byte zz ((encB cs).map Value.int) (.int 0)
set_option maxRecDepth 65536 in
set_option maxHeartbeats 40000000 in
theorem ct_cmp3g {l : Launch} {Z : State} {a0 : Array Value} (hw : ∀ d ∈ tables_1, d.before a0 Z = true) (hEL : EW Z a0 EL0) {n0 : Nat} (cds : List Jvm.Cond) (b : Addr) (kb : ClassId) (z : Int32) (cs : List Int32) (h0 : Heap) (hz : z.toInt = cs.length) (hlen : cs.length ≤ 4) (hcs : ∀ c ∈ cs, 0 ≤ c.toInt ∧ c.toInt < 65536) (Vb : Arv Z h0 b kb .char z (cs.map Value.int) (.int 0)) (SAD : Sta Z Z.heap "java/lang/StringUTF16" "$assertionsDisabled" "Z" (.int 1)) (SHI : Sta Z Z.heap "java/lang/StringUTF16" "HI_BYTE_SHIFT" "I" (.int 0)) (SLO : Sta Z Z.heap "java/lang/StringUTF16" "LO_BYTE_SHIFT" "I" (.int 8)) :
    Ct l Z a0 EL0 n0 false true (⟨"java/lang/StringUTF16", "compress", "([CII)[B"⟩ : MethodName) jdk_52_method_16_code 6 (Option.some (Jvm.ClassFile.FieldType.array Jvm.ClassFile.FieldType.byte)) cds ({ frames := 3, cells := 2, slots := 12, locals := 40 } : Room) [] #[(.ref b), (.int (0 : Int32)), (.int z)] h0 (Q_cmp3g Z n0 b kb z cs h0) := by
  refine Ct.of (plainFor_of_name pn_0) hEL ?_
  intro p e s m below meth c T0 W0 hret hnm hs0
  refine Go.cast (ef_RII_6 m b (0 : Int32) z) ?_
  show Go p e below _ T0 (mkF m 0 #[.val (.ref b), .val (.int (0 : Int32)), .val (.int z), .unset, .unset, .unset] [])
  have lt_b := natlt Vb.lt
  refine s_iloadN W0 d16_0 rfl (pc' := 1) rfl ?_
  refine gNewP (aty := .byte) W0 (w_12 hw) (ad := "[B") (by decide +kernel) d16_1 (pc' := 3) rfl (nlt32 (by rw [zero32]; omega)) (cap := 4) (by show z.toInt.toNat ≤ _; omega) (by decide) (by decide) (by decide) ?_
  intro T1 h1 b1 g1 W1 E1 ⟨k1, V1, A1⟩
  have z1 : h0.size ≤ h1.size := E1.1
  have lt_b1 := natlt A1.lt
  have gg1 := nateq g1
  have n0_b1 : n0 ≤ b1 := by have := W0.n0le; omega
  have Vp1 : Arv Z h1 b1 k1 .byte z [] (.int (0 : Int32)) := V1
  refine s_astoreN W1 d16_3 rfl (l' := #[.val (.ref b), .val (.int (0 : Int32)), .val (.int z), .val (.ref b1), .unset, .unset]) rfl (pc' := 4) rfl ?_
  refine s_aloadN W1 d16_4 rfl rfl (pc' := 5) rfl ?_
  refine s_iloadN W1 d16_5 rfl (pc' := 6) rfl ?_
  refine s_aloadN W1 d16_6 rfl rfl (pc' := 7) rfl ?_
  refine s_iconst W1 d16_7 (v := (0 : Int32)) (by decide) (pc' := 8) rfl ?_
  refine s_iloadN W1 d16_8 rfl (pc' := 9) rfl ?_
  have fx2 := (Vb.ext E1)
  refine gStatic W1 (w_89 hw) (w_90 hw) (w_87 hw) (w_91 hw) (by decide) pd_3 (ct_cmp5g hw hEL [] b b1 kb k1 z cs h1 hz hlen fx2 Vp1 n0_b1 (ane (by omega))) (by simp) d16_9 (pc' := 12) rfl rfl (argsL := [(.ref b), (.int (0 : Int32)), (.ref b1), (.int (0 : Int32)), (.int z)]) rfl rfl (rest := []) rfl (wt := 0) (Nat.le_of_eq rfl) (by decide) (by decide) (by decide) (by decide) ?_
  rintro v3 T3 h3 W3 z3 ⟨K, Q⟩
  rcases Q with ⟨rfl, hL, V⟩ | ⟨f, hf, rfl, hbig⟩
  · show Go p e below _ T3 (mkF m 12 #[.val (.ref b), .val (.int (0 : Int32)), .val (.int z), .val (.ref b1), .unset, .unset] [(.int z)])
    refine s_istore W3 d16_12 (l' := #[.val (.ref b), .val (.int (0 : Int32)), .val (.int z), .val (.ref b1), .val (.int z), .unset]) rfl (pc' := 14) rfl ?_
    refine s_iload W3 d16_14 rfl (pc' := 16) rfl ?_
    refine s_iloadN W3 d16_16 rfl (pc' := 17) rfl ?_
    refine s_icmpeq W3 d16_17 (by decide) (pc1 := 57) (by decide) (pc2 := 20) rfl ?_ (fun q => (q rfl).elim)
    intro q17
    refine s_aloadN W3 d16_57 rfl rfl (pc' := 58) rfl ?_
    exact gRetA W3 hret rfl rfl d16_58 (by decide) (by decide) ⟨_, _, z, rfl, (((Keep.refl h0 []).ext E1).trans K (allS (Or.inr (natle (by omega))) all0)), natle (by omega), by rw [show encB cs = _ from if_pos hL, List.length_map]; exact hz, fun _ => rfl, by rw [show encB cs = _ from if_pos hL, List.map_map]; exact V⟩
  · show Go p e below _ T3 (mkF m 12 #[.val (.ref b), .val (.int (0 : Int32)), .val (.int z), .val (.ref b1), .unset, .unset] [(.int f.toInt32)])
    have ef : f.toInt32.toInt = f := n32 (by omega)
    have hL : ¬ Lat cs := fun q => by have := q _ (List.getElem_mem hf); omega
    refine s_istore W3 d16_12 (l' := #[.val (.ref b), .val (.int (0 : Int32)), .val (.int z), .val (.ref b1), .val (.int f.toInt32), .unset]) rfl (pc' := 14) rfl ?_
    refine s_iload W3 d16_14 rfl (pc' := 16) rfl ?_
    refine s_iloadN W3 d16_16 rfl (pc' := 17) rfl ?_
    refine s_icmpeq W3 d16_17 (by decide) (pc1 := 57) (by decide) (pc2 := 20) rfl (fun q => absurd q (fun q' => by have := congrArg Int32.toInt q'; omega)) ?_
    intro q17
    refine s_aloadN W3 d16_20 rfl rfl (pc' := 21) rfl ?_
    refine s_iloadN W3 d16_21 rfl (pc' := 22) rfl ?_
    refine s_iloadN W3 d16_22 rfl (pc' := 23) rfl ?_
    have fx4 := (fx2.keep K (ninS (ane (by omega)) nin0))
    refine gStaticS W3 (w_126 hw) (w_127 hw) (w_87 hw) (w_128 hw) (by decide) pd_4 (ct_tb3 hw hEL [] b kb z cs h3 hz hlen fx4 SAD SHI SLO) (by simp) d16_23 (pc' := 26) rfl rfl (argsL := [(.ref b), (.int (0 : Int32)), (.int z)]) rfl rfl (rest := []) rfl (wt := 0) (Nat.le_of_eq rfl) (by decide) (by decide) (by decide) (by decide) ?_
    rintro v5 T5 h5 Wf5 z5 ⟨d2, kd2, rfl, K2, g2, V2⟩
    have W5 := Wf5 [d2, b1] (fun x hx => (List.mem_cons.mp hx).elim (fun q => Or.inr (by rw [q])) Or.inl)
    have gd2 := natle g2
    show Go p e below _ T5 (mkF m 26 #[.val (.ref b), .val (.int (0 : Int32)), .val (.int z), .val (.ref b1), .val (.int f.toInt32), .unset] [(.ref d2)])
    refine s_astore W5 d16_26 rfl (l' := #[.val (.ref b), .val (.int (0 : Int32)), .val (.int z), .val (.ref b1), .val (.int f.toInt32), .val (.ref d2)]) rfl (pc' := 28) rfl ?_
    refine s_aload W5 d16_28 rfl rfl (pc' := 30) rfl ?_
    refine s_iload W5 d16_30 rfl (pc' := 32) rfl ?_
    refine gStatic W5 (w_142 hw) (w_143 hw) (w_87 hw) (w_144 hw) (by decide) pd_5 (ct_gch hw hEL [] d2 kd2 f.toInt32 (Int32.ofNat (2 * cs.length)) cs f hf h5 V2 (ofN (by omega)) ef hcs SAD SHI SLO) (by simp) d16_32 (pc' := 35) rfl rfl (argsL := [(.ref d2), (.int f.toInt32)]) rfl rfl (rest := []) rfl (wt := 0) (Nat.le_of_eq rfl) (by decide) (by decide) (by decide) (by decide) ?_
    rintro v6 T6 h6 W6 z6 ⟨rfl, rfl⟩
    show Go p e below _ T6 (mkF m 35 #[.val (.ref b), .val (.int (0 : Int32)), .val (.int z), .val (.ref b1), .val (.int f.toInt32), .val (.ref d2)] [(.int cs[f])])
    refine s_sipush W6 d16_35 (v := (255 : Int32)) (by decide) (pc' := 38) rfl ?_
    refine s_icmpgt W6 d16_38 (by decide) (pc1 := 54) (by decide) (pc2 := 41) rfl ?_ (fun q => absurd q (fun q' => q' (lt32 (by rw [show (255 : Int32).toInt = 255 from by decide]; omega))))
    intro q38
    refine s_aload W6 d16_54 rfl rfl (pc' := 56) rfl ?_
    exact gRetA W6 hret rfl rfl d16_56 (by decide) (by decide) ⟨d2, kd2, _, rfl, ((((Keep.refl h0 []).ext E1).trans K (allS (Or.inr (natle (by omega))) all0)).trans K2 all0), natle (by omega), by rw [show encB cs = _ from if_neg hL, U16B_len]; exact ofN (by omega), fun q => absurd q hL, by rw [show encB cs = _ from if_neg hL]; exact V2⟩
def Q_coder (Z : State) (n0 : Nat) (d : Addr) (kd : ClassId) (z zz : Int32) (vs : List Value) (h0 : Heap) (v : Option Value) (h : Heap) : Prop := v = some (.int (nar .byte (((z - zz).toUInt32 >>> ((31 : Int32) &&& 31).toUInt32).toInt32.toInt8.toInt32))) ∧ h0 = h
set_option maxRecDepth 65536 in
set_option maxHeartbeats 40000000 in
theorem ct_coder {l : Launch} {Z : State} {a0 : Array Value} (hw : ∀ d ∈ tables_1, d.before a0 Z = true) (hEL : EW Z a0 EL0) {n0 : Nat} (cds : List Jvm.Cond) (d : Addr) (kd : ClassId) (z zz : Int32) (vs : List Value) (h0 : Heap) (Vd : Arv Z h0 d kd .byte zz vs (.int 0)) :
    Ct l Z a0 EL0 n0 false true (⟨"java/lang/StringUTF16", "coderFromArrayLen", "([BI)B"⟩ : MethodName) jdk_52_method_15_code 2 (Option.some Jvm.ClassFile.FieldType.byte) cds ({ frames := 0, cells := 0, slots := 0, locals := 0 } : Room) [] #[(.ref d), (.int z)] h0 (Q_coder Z n0 d kd z zz vs h0) := by
  refine Ct.of (plainFor_of_name pn_0) hEL ?_
  intro p e s m below meth c T0 W0 hret hnm hs0
  refine Go.cast (ef_RI_2 m d z) ?_
  show Go p e below _ T0 (mkF m 0 #[.val (.ref d), .val (.int z)] [])
  refine s_iloadN W0 d18_0 rfl (pc' := 1) rfl ?_
  refine s_aloadN W0 d18_1 rfl rfl (pc' := 2) rfl ?_
  refine gLen W0 Vd d18_2 (pc' := 3) rfl ?_
  refine s_isub W0 d18_3 (pc' := 4) rfl ?_
  refine s_bipush W0 d18_4 (v := (31 : Int32)) (by decide) (pc' := 6) rfl ?_
  refine s_iushr W0 d18_6 (pc' := 7) rfl ?_
  refine s_i2b W0 d18_7 (pc' := 8) rfl ?_
  exact gRetN W0 hret (by simp) d18_8 (by decide) (by decide) ⟨rfl, rfl⟩
theorem wS {Z : State} {a0 : Array Value} (hw : ∀ d ∈ tables_1, d.before a0 Z = true) : ∀ a ∈ Bundle.stringAtoms, a.before a0 Z = true := (allC (P := fun a => a.before a0 Z = true) (w_18 hw) (allC (P := fun a => a.before a0 Z = true) (w_17 hw) (allC (P := fun a => a.before a0 Z = true) (w_12 hw) (allC (P := fun a => a.before a0 Z = true) (w_30 hw) (allC (P := fun a => a.before a0 Z = true) (w_31 hw) (allC (P := fun a => a.before a0 Z = true) (w_32 hw) (allC (P := fun a => a.before a0 Z = true) (w_33 hw) allC0)))))))
def Q_str4g (Z : State) (n0 : Nat) (a b : Addr) (kb : ClassId) (z ccs : Int32) (cs : List Int32) (h0 : Heap) (v : Option Value) (h : Heap) : Prop := v = none ∧ Keep h0 h [a] ∧ ∃ d kd zz, Str Z h a d kd (encC cs) zz ((encB cs).map Value.int) ∧ zz.toInt = (encB cs).length ∧ h0.size ≤ d
set_option maxRecDepth 65536 in
set_option maxHeartbeats 40000000 in
theorem ct_str4g {l : Launch} {Z : State} {a0 : Array Value} (hw : ∀ d ∈ tables_1, d.before a0 Z = true) (hEL : EW Z a0 EL0) {n0 : Nat} (cds : List Jvm.Cond) (a b : Addr) (kb : ClassId) (z ccs : Int32) (cs : List Int32) (h0 : Heap) (hz : z.toInt = cs.length) (hlen : cs.length ≤ 4) (hcs : ∀ c ∈ cs, 0 ≤ c.toInt ∧ c.toInt < 65536) (Vb : Arv Z h0 b kb .char z (cs.map Value.int) (.int 0)) (Ea : Exa Z h0 a "java/lang/String") (Fv : Fld Z h0 a "java/lang/String" "value" "[B" .null) (Fc : Fld Z h0 a "java/lang/String" "coder" "B" (.int 0)) (n0_a : n0 ≤ a) (SCS : Sta Z Z.heap "java/lang/String" "COMPACT_STRINGS" "Z" (.int ccs)) (hccs : ¬ ccs = 0) (hne0 : cs ≠ []) (SAD : Sta Z Z.heap "java/lang/StringUTF16" "$assertionsDisabled" "Z" (.int 1)) (SHI : Sta Z Z.heap "java/lang/StringUTF16" "HI_BYTE_SHIFT" "I" (.int 0)) (SLO : Sta Z Z.heap "java/lang/StringUTF16" "LO_BYTE_SHIFT" "I" (.int 8)) :
    Ct l Z a0 EL0 n0 false true (⟨"java/lang/String", "<init>", "([CIILjava/lang/Void;)V"⟩ : MethodName) jdk_42_method_149_code 6 (Option.none : Option Jvm.ClassFile.FieldType) cds ({ frames := 4, cells := 2, slots := 12, locals := 57 } : Room) [a] #[(.ref a), (.ref b), (.int (0 : Int32)), (.int z), .null] h0 (Q_str4g Z n0 a b kb z ccs cs h0) := by
  refine Ct.of (plainFor_of_name pn_1) hEL ?_
  intro p e s m below meth c T0 W0 hret hnm hs0
  refine Go.cast (ef_RRIIN_6 m a b (0 : Int32) z) ?_
  show Go p e below _ T0 (mkF m 0 #[.val (.ref a), .val (.ref b), .val (.int (0 : Int32)), .val (.int z), .val .null, .unset] [])
  have lt_a := natlt Ea.lt
  have lt_b := natlt Vb.lt
  have hz0 : ¬ z = 0 := fun q => hne0 (List.eq_nil_of_length_eq_zero (by rw [q, zero32] at hz; omega))
  refine s_aloadN W0 d5_0 rfl rfl (pc' := 1) rfl ?_
  refine gInitO W0 (w_26 hw) (w_27 hw) (w_28 hw) d5_1 (pc' := 4) rfl rfl (by decide) (wt := 0) (Nat.le_of_eq rfl) (by decide) ?_
  intro T1 W1
  refine s_iloadN W1 d5_4 rfl (pc' := 5) rfl ?_
  refine s_ifne W1 d5_5 (by decide) (pc1 := 27) (by decide) (pc2 := 8) rfl ?_ (fun q => absurd q hz0)
  intro q5
  refine gGetS W1 (host := "") (Or.inl (w_74 hw)) Via.refl (SCS.ext W1.old.2) d5_27 (pc' := 30) rfl ?_
  intro T2 W2
  refine s_ifeq W2 d5_30 (by decide) (pc1 := 58) (by decide) (pc2 := 33) rfl (fun q => absurd q hccs) ?_
  intro q30
  refine s_aloadN W2 d5_33 rfl rfl (pc' := 34) rfl ?_
  refine s_iloadN W2 d5_34 rfl (pc' := 35) rfl ?_
  refine s_iloadN W2 d5_35 rfl (pc' := 36) rfl ?_
  refine gStatic W2 (w_85 hw) (w_86 hw) (w_87 hw) (w_88 hw) (by decide) pd_4 (ct_cmp3g hw hEL [] b kb z cs h0 hz hlen hcs Vb SAD SHI SLO) (by simp) d5_36 (pc' := 39) rfl rfl (argsL := [(.ref b), (.int (0 : Int32)), (.int z)]) rfl rfl (rest := []) rfl (wt := 0) (Nat.le_of_eq rfl) (by decide) (by decide) (by decide) (by decide) ?_
  rintro v3 T3 h3 W3 z3 ⟨d, kd, zz, rfl, K3, g3, hzz, hLz, V3⟩
  have lt_d := natlt V3.lt
  have gd := natle g3
  show Go p e below _ T3 (mkF m 39 #[.val (.ref a), .val (.ref b), .val (.int (0 : Int32)), .val (.int z), .val .null, .unset] [(.ref d)])
  refine s_astore W3 d5_39 rfl (l' := #[.val (.ref a), .val (.ref b), .val (.int (0 : Int32)), .val (.int z), .val .null, .val (.ref d)]) rfl (pc' := 41) rfl ?_
  refine s_aloadN W3 d5_41 rfl rfl (pc' := 42) rfl ?_
  refine s_aload W3 d5_42 rfl rfl (pc' := 44) rfl ?_
  refine s_iloadN W3 d5_44 rfl (pc' := 45) rfl ?_
  refine gStatic W3 (w_92 hw) (w_93 hw) (w_87 hw) (w_94 hw) (by decide) pd_6 (ct_coder hw hEL [] d kd z zz _ h3 V3) (by simp) d5_45 (pc' := 48) rfl rfl (argsL := [(.ref d), (.int z)]) rfl rfl (rest := [(.ref a)]) rfl (wt := 1) (Nat.le_of_eq rfl) (by decide) (by decide) (by decide) (by decide) ?_
  rintro v4 T4 h4 W4 z4 ⟨rfl, rfl⟩
  rw [coder_enc hz hzz hLz hne0 (by omega)]
  show Go p e below _ T4 (mkF m 48 #[.val (.ref a), .val (.ref b), .val (.int (0 : Int32)), .val (.int z), .val .null, .val (.ref d)] [(.int (encC cs)), (.ref a)])
  have fx6 := (Fc.keep K3 nin0)
  have fx7 := (Ea.keep K3)
  refine gPutFN W4 n0_a (Or.inl (List.mem_of_getElem? (i := 0) rfl)) (w_35 hw) Via.refl fx6 fx7 (Or.inr ⟨(w_31 hw), rfl, hnm⟩) (w_17 hw) (ty := .byte) (v' := (.int (encC cs))) (by decide) (coder_nar (encC_01 cs)) (coder_fit (encC_01 cs)) d5_48 (pc' := 51) rfl ?_
  intro T5 h5 W5 Wr5
  have Fw5 := fx6.same Wr5
  have z5 : h3.size ≤ h5.size := Nat.le_of_eq Wr5.size.symm
  refine s_aloadN W5 d5_51 rfl rfl (pc' := 52) rfl ?_
  refine s_aload W5 d5_52 rfl rfl (pc' := 54) rfl ?_
  have fx9 := ((Fv.keep K3 nin0).other Wr5 (Or.inr (slot_ne (Or.inr (w_30 hw)) (Or.inr (w_31 hw)) (by decide) (t := (.array .byte)) (t' := .byte) (by decide) (by decide))))
  have fx10 := (fx7.wr Wr5)
  refine gPutF W5 n0_a (Or.inl (List.mem_of_getElem? (i := 0) rfl)) (host := "") (Or.inl (w_34 hw)) Via.refl fx9 fx10 (Or.inr ⟨(w_30 hw), rfl, hnm⟩) (w_17 hw) (ty := (.array .byte)) (by decide) rfl rfl d5_54 (pc' := 57) rfl ?_
  intro T8 h8 W8 Wr8
  have Fw8 := fx9.same Wr8
  have z8 : h5.size ≤ h8.size := Nat.le_of_eq Wr8.size.symm
  have fx11 := (fx10.wr Wr8)
  have fx12 := (Fw5.other Wr8 (Or.inr (slot_ne (Or.inr (w_31 hw)) (Or.inr (w_30 hw)) (by decide) (t := .byte) (t' := (.array .byte)) (by decide) (by decide))))
  have fx13 := ((V3.other Wr5 (ane (by omega))).other Wr8 (ane (by omega)))
  exact gRetV W8 hret d5_57 (by decide) (by decide) ⟨rfl, ((((Keep.refl h0 [a]).trans K3 all0).wr Wr5 (Or.inl (by simp))).wr Wr8 (Or.inl (by simp))), d, kd, zz, ⟨fx11, Fw8, fx12, fx13⟩, hzz, natle (by omega)⟩
def Q_str1g (Z : State) (n0 : Nat) (a b : Addr) (kb : ClassId) (z ccs : Int32) (cs : List Int32) (h0 : Heap) (v : Option Value) (h : Heap) : Prop := v = none ∧ Keep h0 h [a] ∧ ∃ d kd zz, Str Z h a d kd (encC cs) zz ((encB cs).map Value.int) ∧ zz.toInt = (encB cs).length ∧ h0.size ≤ d
set_option maxRecDepth 65536 in
set_option maxHeartbeats 40000000 in
theorem ct_str1g {l : Launch} {Z : State} {a0 : Array Value} (hw : ∀ d ∈ tables_1, d.before a0 Z = true) (hEL : EW Z a0 EL0) {n0 : Nat} (cds : List Jvm.Cond) (a b : Addr) (kb : ClassId) (z ccs : Int32) (cs : List Int32) (h0 : Heap) (hz : z.toInt = cs.length) (hlen : cs.length ≤ 4) (hcs : ∀ c ∈ cs, 0 ≤ c.toInt ∧ c.toInt < 65536) (Vb : Arv Z h0 b kb .char z (cs.map Value.int) (.int 0)) (Ea : Exa Z h0 a "java/lang/String") (Fv : Fld Z h0 a "java/lang/String" "value" "[B" .null) (Fc : Fld Z h0 a "java/lang/String" "coder" "B" (.int 0)) (n0_a : n0 ≤ a) (SCS : Sta Z Z.heap "java/lang/String" "COMPACT_STRINGS" "Z" (.int ccs)) (hccs : ¬ ccs = 0) (hne0 : cs ≠ []) (SAD : Sta Z Z.heap "java/lang/StringUTF16" "$assertionsDisabled" "Z" (.int 1)) (SHI : Sta Z Z.heap "java/lang/StringUTF16" "HI_BYTE_SHIFT" "I" (.int 0)) (SLO : Sta Z Z.heap "java/lang/StringUTF16" "LO_BYTE_SHIFT" "I" (.int 8)) :
    Ct l Z a0 EL0 n0 false true (⟨"java/lang/String", "<init>", "([C)V"⟩ : MethodName) jdk_42_method_3_code 2 (Option.none : Option Jvm.ClassFile.FieldType) cds ({ frames := 5, cells := 2, slots := 12, locals := 74 } : Room) [a] #[(.ref a), (.ref b)] h0 (Q_str1g Z n0 a b kb z ccs cs h0) := by
  refine Ct.of (plainFor_of_name pn_1) hEL ?_
  intro p e s m below meth c T0 W0 hret hnm hs0
  refine Go.cast (ef_RR_2 m a b) ?_
  show Go p e below _ T0 (mkF m 0 #[.val (.ref a), .val (.ref b)] [])
  refine s_aloadN W0 d4_0 rfl rfl (pc' := 1) rfl ?_
  refine s_aloadN W0 d4_1 rfl rfl (pc' := 2) rfl ?_
  refine s_iconst W0 d4_2 (v := (0 : Int32)) (by decide) (pc' := 3) rfl ?_
  refine s_aloadN W0 d4_3 rfl rfl (pc' := 4) rfl ?_
  refine gLen W0 Vb d4_4 (pc' := 5) rfl ?_
  refine s_aconst_null W0 d4_5 (pc' := 6) rfl ?_
  refine gSpecial W0 rfl (w_22 hw) (w_23 hw) (w_18 hw) (w_25 hw) (by decide) pd_7 (ct_str4g hw hEL [] a b kb z ccs cs h0 hz hlen hcs Vb Ea Fv Fc n0_a SCS hccs hne0 SAD SHI SLO) (fun x hx => hx) d4_6 (pc' := 9) rfl rfl (argsL := [(.ref b), (.int (0 : Int32)), (.int z), .null]) rfl rfl (rest := []) rfl (wt := 0) (Nat.le_of_eq rfl) (by decide) (by decide) (by decide) (by decide) ?_
  rintro v1 T1 h1 W1 z1 ⟨rfl, K, S⟩
  show Go p e below _ T1 (mkF m 9 #[.val (.ref a), .val (.ref b)] [])
  exact gRetV W1 hret d4_9 (by decide) (by decide) ⟨rfl, K, S⟩
def Q_str4e (Z : State) (n0 : Nat) (a b : Addr) (h0 : Heap) (v : Option Value) (h : Heap) : Prop := v = none ∧ Keep h0 h [a] ∧ ∃ d kd, Str Z h a d kd 0 0 []
set_option maxRecDepth 65536 in
set_option maxHeartbeats 40000000 in
theorem ct_str4e {l : Launch} {Z : State} {a0 : Array Value} (hw : ∀ d ∈ tables_1, d.before a0 Z = true) (hEL : EW Z a0 EL0) {n0 : Nat} (cds : List Jvm.Cond) (a b : Addr) (h0 : Heap) (Ea : Exa Z h0 a "java/lang/String") (Fv : Fld Z h0 a "java/lang/String" "value" "[B" .null) (Fc : Fld Z h0 a "java/lang/String" "coder" "B" (.int 0)) (n0_a : n0 ≤ a) :
    Ct l Z a0 EL0 n0 false true (⟨"java/lang/String", "<init>", "([CIILjava/lang/Void;)V"⟩ : MethodName) jdk_42_method_149_code 6 (Option.none : Option Jvm.ClassFile.FieldType) cds ({ frames := 1, cells := 4, slots := 8, locals := 12 } : Room) [a] #[(.ref a), (.ref b), (.int (0 : Int32)), (.int (0 : Int32)), .null] h0 (Q_str4e Z n0 a b h0) := by
  refine Ct.of (plainFor_of_name pn_1) hEL ?_
  intro p e s m below meth c T0 W0 hret hnm hs0
  refine Go.cast (ef_RRIIN_6 m a b (0 : Int32) (0 : Int32)) ?_
  show Go p e below _ T0 (mkF m 0 #[.val (.ref a), .val (.ref b), .val (.int (0 : Int32)), .val (.int (0 : Int32)), .val .null, .unset] [])
  have lt_a := natlt Ea.lt
  refine s_aloadN W0 d5_0 rfl rfl (pc' := 1) rfl ?_
  refine gInitO W0 (w_26 hw) (w_27 hw) (w_28 hw) d5_1 (pc' := 4) rfl rfl (by decide) (wt := 0) (Nat.le_of_eq rfl) (by decide) ?_
  intro T1 W1
  refine s_iloadN W1 d5_4 rfl (pc' := 5) rfl ?_
  refine s_ifne W1 d5_5 (by decide) (pc1 := 27) (by decide) (pc2 := 8) rfl (fun q => absurd q (by decide)) ?_
  intro q5
  refine s_aloadN W1 d5_8 rfl rfl (pc' := 9) rfl ?_
  refine gLdcS W1 (w_29 hw) (wS hw) (List.mem_of_getElem? (i := 1) rfl) (vs := []) (z := (0 : Int32)) ⟨by decide +kernel, by decide +kernel⟩ (by decide) (by decide) d5_9 (pc' := 11) rfl (nn := 0) (by decide) (by decide) (by decide) (by decide) ?_
  intro T2 h2 s2 d2 k2 W2 E2 A2 C2 F2 V2 N2
  have z2 : h0.size ≤ h2.size := E2.1
  have lt_s2 := natlt A2.lt
  have lt_d2 := natlt V2.lt
  refine gGetF W2 (host := "") (Or.inl (w_34 hw)) Via.refl F2 d5_11 (pc' := 14) rfl ?_
  intro T3 W3
  have fx5 := (Fv.ext E2)
  have fx6 := (Ea.ext E2)
  refine gPutF W3 n0_a (Or.inl (List.mem_of_getElem? (i := 0) rfl)) (host := "") (Or.inl (w_34 hw)) Via.refl fx5 fx6 (Or.inr ⟨(w_30 hw), rfl, hnm⟩) (w_17 hw) (ty := (.array .byte)) (by decide) rfl rfl d5_14 (pc' := 17) rfl ?_
  intro T4 h4 W4 Wr4
  have Fw4 := fx5.same Wr4
  have z4 : h2.size ≤ h4.size := Nat.le_of_eq Wr4.size.symm
  refine s_aloadN W4 d5_17 rfl rfl (pc' := 18) rfl ?_
  refine gLdcS W4 (w_29 hw) (wS hw) (List.mem_of_getElem? (i := 1) rfl) (vs := []) (z := (0 : Int32)) ⟨by decide +kernel, by decide +kernel⟩ (by decide) (by decide) d5_18 (pc' := 20) rfl (nn := 0) (by decide) (by decide) (by decide) (by decide) ?_
  intro T7 h7 s7 d7 k7 W7 E7 A7 C7 F7 V7 N7
  have z7 : h4.size ≤ h7.size := E7.1
  have lt_s7 := natlt A7.lt
  have lt_d7 := natlt V7.lt
  refine gGetF W7 (host := "") (Or.inl (w_35 hw)) Via.refl C7 d5_20 (pc' := 23) rfl ?_
  intro T8 W8
  have fx10 := (((Fc.ext E2).other Wr4 (Or.inr (slot_ne (Or.inr (w_31 hw)) (Or.inr (w_30 hw)) (by decide) (t := .byte) (t' := (.array .byte)) (by decide) (by decide)))).ext E7)
  have fx11 := ((fx6.wr Wr4).ext E7)
  refine gPutFN W8 n0_a (Or.inl (List.mem_of_getElem? (i := 0) rfl)) (w_35 hw) Via.refl fx10 fx11 (Or.inr ⟨(w_31 hw), rfl, hnm⟩) (w_17 hw) (ty := .byte) (v' := (.int (0 : Int32))) (by decide) (by decide) (by decide) d5_23 (pc' := 26) rfl ?_
  intro T9 h9 W9 Wr9
  have Fw9 := fx10.same Wr9
  have z9 : h7.size ≤ h9.size := Nat.le_of_eq Wr9.size.symm
  have fx12 := (fx11.wr Wr9)
  have fx13 := ((Fw4.ext E7).other Wr9 (Or.inr (slot_ne (Or.inr (w_30 hw)) (Or.inr (w_31 hw)) (by decide) (t := (.array .byte)) (t' := .byte) (by decide) (by decide))))
  have fx14 := (((V2.other Wr4 (Ne.symm (N2 _ (List.mem_of_getElem? (i := 0) rfl)).2)).ext E7).other Wr9 (Ne.symm (N2 _ (List.mem_of_getElem? (i := 0) rfl)).2))
  exact gRetV W9 hret d5_26 (by decide) (by decide) ⟨rfl, (((((Keep.refl h0 [a]).ext E2).wr Wr4 (Or.inl (by simp))).ext E7).wr Wr9 (Or.inl (by simp))), d2, _, ⟨fx12, fx13, Fw9, fx14⟩⟩
def Q_str1e (Z : State) (n0 : Nat) (a b : Addr) (kb : ClassId) (h0 : Heap) (v : Option Value) (h : Heap) : Prop := v = none ∧ Keep h0 h [a] ∧ ∃ d kd, Str Z h a d kd 0 0 []
set_option maxRecDepth 65536 in
set_option maxHeartbeats 40000000 in
theorem ct_str1e {l : Launch} {Z : State} {a0 : Array Value} (hw : ∀ d ∈ tables_1, d.before a0 Z = true) (hEL : EW Z a0 EL0) {n0 : Nat} (cds : List Jvm.Cond) (a b : Addr) (kb : ClassId) (h0 : Heap) (Vb : Arv Z h0 b kb .char 0 [] (.int 0)) (Ea : Exa Z h0 a "java/lang/String") (Fv : Fld Z h0 a "java/lang/String" "value" "[B" .null) (Fc : Fld Z h0 a "java/lang/String" "coder" "B" (.int 0)) (n0_a : n0 ≤ a) :
    Ct l Z a0 EL0 n0 false true (⟨"java/lang/String", "<init>", "([C)V"⟩ : MethodName) jdk_42_method_3_code 2 (Option.none : Option Jvm.ClassFile.FieldType) cds ({ frames := 2, cells := 4, slots := 8, locals := 29 } : Room) [a] #[(.ref a), (.ref b)] h0 (Q_str1e Z n0 a b kb h0) := by
  refine Ct.of (plainFor_of_name pn_1) hEL ?_
  intro p e s m below meth c T0 W0 hret hnm hs0
  refine Go.cast (ef_RR_2 m a b) ?_
  show Go p e below _ T0 (mkF m 0 #[.val (.ref a), .val (.ref b)] [])
  refine s_aloadN W0 d4_0 rfl rfl (pc' := 1) rfl ?_
  refine s_aloadN W0 d4_1 rfl rfl (pc' := 2) rfl ?_
  refine s_iconst W0 d4_2 (v := (0 : Int32)) (by decide) (pc' := 3) rfl ?_
  refine s_aloadN W0 d4_3 rfl rfl (pc' := 4) rfl ?_
  refine gLen W0 Vb d4_4 (pc' := 5) rfl ?_
  refine s_aconst_null W0 d4_5 (pc' := 6) rfl ?_
  refine gSpecial W0 rfl (w_22 hw) (w_23 hw) (w_18 hw) (w_25 hw) (by decide) pd_7 (ct_str4e hw hEL [] a b h0 Ea Fv Fc n0_a) (fun x hx => hx) d4_6 (pc' := 9) rfl rfl (argsL := [(.ref b), (.int (0 : Int32)), (.int (0 : Int32)), .null]) rfl rfl (rest := []) rfl (wt := 0) (Nat.le_of_eq rfl) (by decide) (by decide) (by decide) (by decide) ?_
  rintro v1 T1 h1 W1 z1 ⟨rfl, K, S⟩
  show Go p e below _ T1 (mkF m 9 #[.val (.ref a), .val (.ref b)] [])
  exact gRetV W1 hret d4_9 (by decide) (by decide) ⟨rfl, K, S⟩
def Q_pci (Z : State) (n0 : Nat) (i z : Int32) (fo : Value) (h0 : Heap) (v : Option Value) (h : Heap) : Prop := v = some (.int i) ∧ h0 = h
set_option maxRecDepth 65536 in
set_option maxHeartbeats 40000000 in
theorem ct_pci {l : Launch} {Z : State} {a0 : Array Value} (hw : ∀ d ∈ tables_1, d.before a0 Z = true) (hEL : EW Z a0 EL0) {n0 : Nat} (cds : List Jvm.Cond) (i z : Int32) (fo : Value) (h0 : Heap) (hi : 0 ≤ i.toInt ∧ i.toInt < z.toInt) (rfo : fo.isRef = true) :
    Ct l Z a0 EL0 n0 false true (⟨"jdk/internal/util/Preconditions", "checkIndex", "(IILjava/util/function/BiFunction;)I"⟩ : MethodName) jdk_41_method_11_code 3 (Option.some Jvm.ClassFile.FieldType.int) cds ({ frames := 0, cells := 0, slots := 0, locals := 0 } : Room) [] #[(.int i), (.int z), fo] h0 (Q_pci Z n0 i z fo h0) := by
  refine Ct.of (plainFor_of_name pn_2) hEL ?_
  intro p e s m below meth c T0 W0 hret hnm hs0
  refine Go.cast (ef_IIO_3 m i z fo rfo) ?_
  show Go p e below _ T0 (mkF m 0 #[.val (.int i), .val (.int z), .val fo] [])
  refine s_iloadN W0 d22_0 rfl (pc' := 1) rfl ?_
  refine s_iflt W0 d22_1 (by decide) (pc1 := 9) (by decide) (pc2 := 4) rfl (fun q => absurd q (nlt32 (by rw [zero32]; omega))) ?_
  intro q1
  refine s_iloadN W0 d22_4 rfl (pc' := 5) rfl ?_
  refine s_iloadN W0 d22_5 rfl (pc' := 6) rfl ?_
  refine s_icmplt W0 d22_6 (by decide) (pc1 := 16) (by decide) (pc2 := 9) rfl ?_ (fun q => absurd q (fun q' => q' (lt32 (by omega))))
  intro q6
  refine s_iloadN W0 d22_16 rfl (pc' := 17) rfl ?_
  exact gRetI W0 hret d22_17 (by decide) (by decide) ⟨rfl, rfl⟩
def Q_sci (Z : State) (n0 : Nat) (i z : Int32) (fo : Value) (h0 : Heap) (v : Option Value) (h : Heap) : Prop := v = none ∧ h0 = h
set_option maxRecDepth 65536 in
set_option maxHeartbeats 40000000 in
theorem ct_sci {l : Launch} {Z : State} {a0 : Array Value} (hw : ∀ d ∈ tables_1, d.before a0 Z = true) (hEL : EW Z a0 EL0) {n0 : Nat} (cds : List Jvm.Cond) (i z : Int32) (fo : Value) (h0 : Heap) (hi : 0 ≤ i.toInt ∧ i.toInt < z.toInt) (SFO : Sta Z Z.heap "jdk/internal/util/Preconditions" "SIOOBE_FORMATTER" "Ljava/util/function/BiFunction;" fo) (rfo : fo.isRef = true) :
    Ct l Z a0 EL0 n0 false true (⟨"java/lang/String", "checkIndex", "(II)V"⟩ : MethodName) jdk_42_method_155_code 2 (Option.none : Option Jvm.ClassFile.FieldType) cds ({ frames := 1, cells := 0, slots := 0, locals := 14 } : Room) [] #[(.int i), (.int z)] h0 (Q_sci Z n0 i z fo h0) := by
  refine Ct.of (plainFor_of_name pn_1) hEL ?_
  intro p e s m below meth c T0 W0 hret hnm hs0
  refine Go.cast (ef_II_2 m i z) ?_
  show Go p e below _ T0 (mkF m 0 #[.val (.int i), .val (.int z)] [])
  refine s_iloadN W0 d21_0 rfl (pc' := 1) rfl ?_
  refine s_iloadN W0 d21_1 rfl (pc' := 2) rfl ?_
  refine gGetS W0 (host := "") (Or.inl (w_108 hw)) Via.refl (SFO.ext W0.old.2) d21_2 (pc' := 5) rfl ?_
  intro T1 W1
  refine gStatic W1 (w_110 hw) (w_111 hw) (w_109 hw) (w_112 hw) (by decide) pd_8 (ct_pci hw hEL [] i z fo h0 hi rfo) (by simp) d21_5 (pc' := 8) rfl rfl (argsL := [(.int i), (.int z), fo]) rfl rfl (rest := []) rfl (wt := 0) (Nat.le_of_eq rfl) (by decide) (by decide) (by decide) (by decide) ?_
  rintro v2 T2 h2 W2 z2 ⟨rfl, rfl⟩
  show Go p e below _ T2 (mkF m 8 #[.val (.int i), .val (.int z)] [(.int i)])
  refine s_pop W2 d21_8 rfl (pc' := 9) rfl ?_
  exact gRetV W2 hret d21_9 (by decide) (by decide) ⟨rfl, rfl⟩
def Q_isl (Z : State) (n0 : Nat) (a : Addr) (cd ccs : Int32) (h0 : Heap) (v : Option Value) (h : Heap) : Prop := v = some (.int (if cd = 0 then 1 else 0)) ∧ h0 = h
set_option maxRecDepth 65536 in
set_option maxHeartbeats 40000000 in
theorem ct_isl {l : Launch} {Z : State} {a0 : Array Value} (hw : ∀ d ∈ tables_1, d.before a0 Z = true) (hEL : EW Z a0 EL0) {n0 : Nat} (cds : List Jvm.Cond) (a : Addr) (cd ccs : Int32) (h0 : Heap) (Fc : Fld Z h0 a "java/lang/String" "coder" "B" (.int cd)) (SCS : Sta Z Z.heap "java/lang/String" "COMPACT_STRINGS" "Z" (.int ccs)) (hccs : ¬ ccs = 0) :
    Ct l Z a0 EL0 n0 false true (⟨"java/lang/String", "isLatin1", "()Z"⟩ : MethodName) jdk_42_method_154_code 1 (Option.some Jvm.ClassFile.FieldType.boolean) cds ({ frames := 0, cells := 0, slots := 0, locals := 0 } : Room) [] #[(.ref a)] h0 (Q_isl Z n0 a cd ccs h0) := by
  refine Ct.of (plainFor_of_name pn_1) hEL ?_
  intro p e s m below meth c T0 W0 hret hnm hs0
  refine Go.cast (ef_R_1 m a) ?_
  show Go p e below _ T0 (mkF m 0 #[.val (.ref a)] [])
  refine gGetS W0 (host := "") (Or.inl (w_74 hw)) Via.refl (SCS.ext W0.old.2) d20_0 (pc' := 3) rfl ?_
  intro T1 W1
  refine s_ifeq W1 d20_3 (by decide) (pc1 := 17) (by decide) (pc2 := 6) rfl (fun q => absurd q hccs) ?_
  intro q3
  refine s_aloadN W1 d20_6 rfl rfl (pc' := 7) rfl ?_
  refine gGetF W1 (host := "") (Or.inl (w_35 hw)) Via.refl Fc d20_7 (pc' := 10) rfl ?_
  intro T2 W2
  refine s_ifne W2 d20_10 (by decide) (pc1 := 17) (by decide) (pc2 := 13) rfl ?_ ?_
  · intro q10
    refine s_iconst W2 d20_17 (v := (0 : Int32)) (by decide) (pc' := 18) rfl ?_
    exact gRetN W2 hret (by simp) d20_18 (by decide) (by decide) ⟨by rw [if_neg q10]; rfl, rfl⟩
  · intro q10
    refine s_iconst W2 d20_13 (v := (1 : Int32)) (by decide) (pc' := 14) rfl ?_
    refine s_goto W2 d20_14 (by decide) (pc' := 18) (by decide) ?_
    exact gRetN W2 hret (by simp) d20_18 (by decide) (by decide) ⟨by rw [if_pos q10]; rfl, rfl⟩
def Q_scod (Z : State) (n0 : Nat) (a : Addr) (cd ccs : Int32) (h0 : Heap) (v : Option Value) (h : Heap) : Prop := v = some (.int cd) ∧ h0 = h
set_option maxRecDepth 65536 in
set_option maxHeartbeats 40000000 in
theorem ct_scod {l : Launch} {Z : State} {a0 : Array Value} (hw : ∀ d ∈ tables_1, d.before a0 Z = true) (hEL : EW Z a0 EL0) {n0 : Nat} (cds : List Jvm.Cond) (a : Addr) (cd ccs : Int32) (h0 : Heap) (Fc : Fld Z h0 a "java/lang/String" "coder" "B" (.int cd)) (hcd : cd = 0 ∨ cd = 1) (SCS : Sta Z Z.heap "java/lang/String" "COMPACT_STRINGS" "Z" (.int ccs)) (hccs : ¬ ccs = 0) :
    Ct l Z a0 EL0 n0 false true (⟨"java/lang/String", "coder", "()B"⟩ : MethodName) jdk_42_method_152_code 1 (Option.some Jvm.ClassFile.FieldType.byte) cds ({ frames := 0, cells := 0, slots := 0, locals := 0 } : Room) [] #[(.ref a)] h0 (Q_scod Z n0 a cd ccs h0) := by
  refine Ct.of (plainFor_of_name pn_1) hEL ?_
  intro p e s m below meth c T0 W0 hret hnm hs0
  refine Go.cast (ef_R_1 m a) ?_
  show Go p e below _ T0 (mkF m 0 #[.val (.ref a)] [])
  refine gGetS W0 (host := "") (Or.inl (w_74 hw)) Via.refl (SCS.ext W0.old.2) d12_0 (pc' := 3) rfl ?_
  intro T1 W1
  refine s_ifeq W1 d12_3 (by decide) (pc1 := 13) (by decide) (pc2 := 6) rfl (fun q => absurd q hccs) ?_
  intro q3
  refine s_aloadN W1 d12_6 rfl rfl (pc' := 7) rfl ?_
  refine gGetF W1 (host := "") (Or.inl (w_35 hw)) Via.refl Fc d12_7 (pc' := 10) rfl ?_
  intro T2 W2
  refine s_goto W2 d12_10 (by decide) (pc' := 14) (by decide) ?_
  exact gRetN W2 hret (by simp) d12_14 (by decide) (by decide) ⟨by rcases hcd with rfl | rfl <;> rfl, rfl⟩
def Q_slen (Z : State) (n0 : Nat) (a d : Addr) (kd : ClassId) (zz ccs : Int32) (cs : List Int32) (h0 : Heap) (v : Option Value) (h : Heap) : Prop := v = some (.int (Int32.ofNat cs.length)) ∧ h0 = h
set_option maxRecDepth 65536 in
set_option maxHeartbeats 40000000 in
theorem ct_slen {l : Launch} {Z : State} {a0 : Array Value} (hw : ∀ d ∈ tables_1, d.before a0 Z = true) (hEL : EW Z a0 EL0) {n0 : Nat} (cds : List Jvm.Cond) (a d : Addr) (kd : ClassId) (zz ccs : Int32) (cs : List Int32) (h0 : Heap) (Sa : Str Z h0 a d kd (encC cs) zz ((encB cs).map Value.int)) (lz : zz.toInt = (encB cs).length) (hlen : cs.length ≤ 1000000) (SCS : Sta Z Z.heap "java/lang/String" "COMPACT_STRINGS" "Z" (.int ccs)) (hccs : ¬ ccs = 0) :
    Ct l Z a0 EL0 n0 false true (⟨"java/lang/String", "length", "()I"⟩ : MethodName) jdk_42_method_54_code 1 (Option.some Jvm.ClassFile.FieldType.int) cds ({ frames := 1, cells := 0, slots := 0, locals := 13 } : Room) [] #[(.ref a)] h0 (Q_slen Z n0 a d kd zz ccs cs h0) := by
  refine Ct.of (plainFor_of_name pn_1) hEL ?_
  intro p e s m below meth c T0 W0 hret hnm hs0
  refine Go.cast (ef_R_1 m a) ?_
  show Go p e below _ T0 (mkF m 0 #[.val (.ref a)] [])
  obtain ⟨Ea, Fv, Fc, Vd⟩ := id Sa
  refine s_aloadN W0 d11_0 rfl rfl (pc' := 1) rfl ?_
  refine gGetF W0 (host := "") (Or.inl (w_34 hw)) Via.refl Fv d11_1 (pc' := 4) rfl ?_
  intro T1 W1
  refine gLen W1 Vd d11_4 (pc' := 5) rfl ?_
  refine s_aloadN W1 d11_5 rfl rfl (pc' := 6) rfl ?_
  refine gVirtual W1 Ea (w_69 hw) (w_70 hw) (fun s hZ => notFace_of_selects (args := #[]) (mv hZ (w_72 hw))) (w_72 hw) (w_71 hw) (w_18 hw) (w_73 hw) (by decide) pd_9 (ct_scod hw hEL [] a (encC cs) ccs h0 Fc (encC_01 cs) SCS hccs) (by simp) d11_6 (pc' := 9) rfl rfl (argsL := []) rfl rfl (rest := [(.int zz)]) rfl (wt := 1) (Nat.le_of_eq rfl) (by decide) (by decide) (by decide) (by decide) ?_
  rintro v2 T2 h2 W2 z2 ⟨rfl, rfl⟩
  show Go p e below _ T2 (mkF m 9 #[.val (.ref a)] [(.int (encC cs)), (.int zz)])
  refine s_ishr W2 d11_9 (pc' := 10) rfl ?_
  exact gRetI W2 hret d11_10 (by decide) (by decide) ⟨by rw [len_enc lz hlen], rfl⟩
def Q_ihs (Z : State) (n0 : Nat) (cc : Int32) (h0 : Heap) (v : Option Value) (h : Heap) : Prop := v = some (.int (if 55296 ≤ cc.toInt ∧ cc.toInt < 56320 then 1 else 0)) ∧ h0 = h
set_option maxRecDepth 65536 in
set_option maxHeartbeats 40000000 in
theorem ct_ihs {l : Launch} {Z : State} {a0 : Array Value} (hw : ∀ d ∈ tables_1, d.before a0 Z = true) (hEL : EW Z a0 EL0) {n0 : Nat} (cds : List Jvm.Cond) (cc : Int32) (h0 : Heap)  :
    Ct l Z a0 EL0 n0 false true (⟨"java/lang/Character", "isHighSurrogate", "(C)Z"⟩ : MethodName) jdk_89_method_14_code 1 (Option.some Jvm.ClassFile.FieldType.boolean) cds ({ frames := 0, cells := 0, slots := 0, locals := 0 } : Room) [] #[(.int cc)] h0 (Q_ihs Z n0 cc h0) := by
  refine Ct.of (plainFor_of_name pn_3) hEL ?_
  intro p e s m below meth c T0 W0 hret hnm hs0
  refine Go.cast (ef_I_1 m cc) ?_
  show Go p e below _ T0 (mkF m 0 #[.val (.int cc)] [])
  refine s_iloadN W0 d32_0 rfl (pc' := 1) rfl ?_
  refine s_ldcI W0 (w_154 hw) d32_1 (pc' := 3) rfl ?_
  refine s_icmplt W0 d32_3 (by decide) (pc1 := 16) (by decide) (pc2 := 6) rfl ?_ ?_
  · intro q3
    have r3 := Int32.lt_iff_toInt_lt.mp q3
    rw [show (55296 : Int32).toInt = 55296 from by decide] at r3
    refine s_iconst W0 d32_16 (v := (0 : Int32)) (by decide) (pc' := 17) rfl ?_
    exact gRetN W0 hret (by simp) d32_17 (by decide) (by decide) ⟨by rw [if_neg (by omega)]; rfl, rfl⟩
  · intro q3
    have r3 : ¬ cc.toInt < 55296 := fun q => q3 (lt32 (by rw [show (55296 : Int32).toInt = 55296 from by decide]; exact q))
    refine s_iloadN W0 d32_6 rfl (pc' := 7) rfl ?_
    refine s_ldcI W0 (w_155 hw) d32_7 (pc' := 9) rfl ?_
    refine s_icmpge W0 d32_9 (by decide) (pc1 := 16) (by decide) (pc2 := 12) rfl ?_ ?_
    · intro q9
      have r9 : ¬ cc.toInt < 56320 := fun q => q9 (lt32 (by rw [show (56320 : Int32).toInt = 56320 from by decide]; exact q))
      refine s_iconst W0 d32_16 (v := (0 : Int32)) (by decide) (pc' := 17) rfl ?_
      exact gRetN W0 hret (by simp) d32_17 (by decide) (by decide) ⟨by rw [if_neg (by omega)]; rfl, rfl⟩
    · intro q9
      have r9 : cc.toInt < 56320 := by have := Int32.lt_iff_toInt_lt.mp q9; rw [show (56320 : Int32).toInt = 56320 from by decide] at this; exact this
      refine s_iconst W0 d32_12 (v := (1 : Int32)) (by decide) (pc' := 13) rfl ?_
      refine s_goto W0 d32_13 (by decide) (pc' := 17) (by decide) ?_
      exact gRetN W0 hret (by simp) d32_17 (by decide) (by decide) ⟨by rw [if_pos (by omega)]; rfl, rfl⟩
def Q_ils (Z : State) (n0 : Nat) (cc : Int32) (h0 : Heap) (v : Option Value) (h : Heap) : Prop := v = some (.int (if 56320 ≤ cc.toInt ∧ cc.toInt < 57344 then 1 else 0)) ∧ h0 = h
set_option maxRecDepth 65536 in
set_option maxHeartbeats 40000000 in
theorem ct_ils {l : Launch} {Z : State} {a0 : Array Value} (hw : ∀ d ∈ tables_1, d.before a0 Z = true) (hEL : EW Z a0 EL0) {n0 : Nat} (cds : List Jvm.Cond) (cc : Int32) (h0 : Heap)  :
    Ct l Z a0 EL0 n0 false true (⟨"java/lang/Character", "isLowSurrogate", "(C)Z"⟩ : MethodName) jdk_89_method_15_code 1 (Option.some Jvm.ClassFile.FieldType.boolean) cds ({ frames := 0, cells := 0, slots := 0, locals := 0 } : Room) [] #[(.int cc)] h0 (Q_ils Z n0 cc h0) := by
  refine Ct.of (plainFor_of_name pn_3) hEL ?_
  intro p e s m below meth c T0 W0 hret hnm hs0
  refine Go.cast (ef_I_1 m cc) ?_
  show Go p e below _ T0 (mkF m 0 #[.val (.int cc)] [])
  refine s_iloadN W0 d33_0 rfl (pc' := 1) rfl ?_
  refine s_ldcI W0 (w_155 hw) d33_1 (pc' := 3) rfl ?_
  refine s_icmplt W0 d33_3 (by decide) (pc1 := 16) (by decide) (pc2 := 6) rfl ?_ ?_
  · intro q3
    have r3 := Int32.lt_iff_toInt_lt.mp q3
    rw [show (56320 : Int32).toInt = 56320 from by decide] at r3
    refine s_iconst W0 d33_16 (v := (0 : Int32)) (by decide) (pc' := 17) rfl ?_
    exact gRetN W0 hret (by simp) d33_17 (by decide) (by decide) ⟨by rw [if_neg (by omega)]; rfl, rfl⟩
  · intro q3
    have r3 : ¬ cc.toInt < 56320 := fun q => q3 (lt32 (by rw [show (56320 : Int32).toInt = 56320 from by decide]; exact q))
    refine s_iloadN W0 d33_6 rfl (pc' := 7) rfl ?_
    refine s_ldcI W0 (w_159 hw) d33_7 (pc' := 9) rfl ?_
    refine s_icmpge W0 d33_9 (by decide) (pc1 := 16) (by decide) (pc2 := 12) rfl ?_ ?_
    · intro q9
      have r9 : ¬ cc.toInt < 57344 := fun q => q9 (lt32 (by rw [show (57344 : Int32).toInt = 57344 from by decide]; exact q))
      refine s_iconst W0 d33_16 (v := (0 : Int32)) (by decide) (pc' := 17) rfl ?_
      exact gRetN W0 hret (by simp) d33_17 (by decide) (by decide) ⟨by rw [if_neg (by omega)]; rfl, rfl⟩
    · intro q9
      have r9 : cc.toInt < 57344 := by have := Int32.lt_iff_toInt_lt.mp q9; rw [show (57344 : Int32).toInt = 57344 from by decide] at this; exact this
      refine s_iconst W0 d33_12 (v := (1 : Int32)) (by decide) (pc' := 13) rfl ?_
      refine s_goto W0 d33_13 (by decide) (pc' := 17) (by decide) ?_
      exact gRetN W0 hret (by simp) d33_17 (by decide) (by decide) ⟨by rw [if_pos (by omega)]; rfl, rfl⟩
def Q_tocp (Z : State) (n0 : Nat) (ca cb : Int32) (h0 : Heap) (v : Option Value) (h : Heap) : Prop := v = some (.int (((ca <<< ((10 : Int32) &&& 31)) + cb) + (-56613888 : Int32))) ∧ h0 = h
set_option maxRecDepth 65536 in
set_option maxHeartbeats 40000000 in
theorem ct_tocp {l : Launch} {Z : State} {a0 : Array Value} (hw : ∀ d ∈ tables_1, d.before a0 Z = true) (hEL : EW Z a0 EL0) {n0 : Nat} (cds : List Jvm.Cond) (ca cb : Int32) (h0 : Heap)  :
    Ct l Z a0 EL0 n0 false true (⟨"java/lang/Character", "toCodePoint", "(CC)I"⟩ : MethodName) jdk_89_method_19_code 2 (Option.some Jvm.ClassFile.FieldType.int) cds ({ frames := 0, cells := 0, slots := 0, locals := 0 } : Room) [] #[(.int ca), (.int cb)] h0 (Q_tocp Z n0 ca cb h0) := by
  refine Ct.of (plainFor_of_name pn_3) hEL ?_
  intro p e s m below meth c T0 W0 hret hnm hs0
  refine Go.cast (ef_II_2 m ca cb) ?_
  show Go p e below _ T0 (mkF m 0 #[.val (.int ca), .val (.int cb)] [])
  refine s_iloadN W0 d34_0 rfl (pc' := 1) rfl ?_
  refine s_bipush W0 d34_1 (v := (10 : Int32)) (by decide) (pc' := 3) rfl ?_
  refine s_ishl W0 d34_3 (pc' := 4) rfl ?_
  refine s_iloadN W0 d34_4 rfl (pc' := 5) rfl ?_
  refine s_iadd W0 d34_5 (pc' := 6) rfl ?_
  refine s_ldcI W0 (w_163 hw) d34_6 (pc' := 8) rfl ?_
  refine s_iadd W0 d34_8 (pc' := 9) rfl ?_
  exact gRetI W0 hret d34_9 (by decide) (by decide) ⟨rfl, rfl⟩
def Q_ccnt (Z : State) (n0 : Nat) (cx : Int32) (h0 : Heap) (v : Option Value) (h : Heap) : Prop := v = some (.int (Int32.ofNat (cnt cx))) ∧ h0 = h
set_option maxRecDepth 65536 in
set_option maxHeartbeats 40000000 in
theorem ct_ccnt {l : Launch} {Z : State} {a0 : Array Value} (hw : ∀ d ∈ tables_1, d.before a0 Z = true) (hEL : EW Z a0 EL0) {n0 : Nat} (cds : List Jvm.Cond) (cx : Int32) (h0 : Heap)  :
    Ct l Z a0 EL0 n0 false true (⟨"java/lang/Character", "charCount", "(I)I"⟩ : MethodName) jdk_89_method_18_code 1 (Option.some Jvm.ClassFile.FieldType.int) cds ({ frames := 0, cells := 0, slots := 0, locals := 0 } : Room) [] #[(.int cx)] h0 (Q_ccnt Z n0 cx h0) := by
  refine Ct.of (plainFor_of_name pn_3) hEL ?_
  intro p e s m below meth c T0 W0 hret hnm hs0
  refine Go.cast (ef_I_1 m cx) ?_
  show Go p e below _ T0 (mkF m 0 #[.val (.int cx)] [])
  refine s_iloadN W0 d24_0 rfl (pc' := 1) rfl ?_
  refine s_ldcI W0 (w_123 hw) d24_1 (pc' := 3) rfl ?_
  refine s_icmplt W0 d24_3 (by decide) (pc1 := 10) (by decide) (pc2 := 6) rfl ?_ ?_
  · intro q3
    have r3 := Int32.lt_iff_toInt_lt.mp q3
    rw [show (65536 : Int32).toInt = 65536 from by decide] at r3
    refine s_iconst W0 d24_10 (v := (1 : Int32)) (by decide) (pc' := 11) rfl ?_
    exact gRetI W0 hret d24_11 (by decide) (by decide) ⟨by unfold cnt; rw [if_pos r3]; rfl, rfl⟩
  · intro q3
    have r3 : ¬ cx.toInt < 65536 := fun q => q3 (lt32 (by rw [show (65536 : Int32).toInt = 65536 from by decide]; exact q))
    refine s_iconst W0 d24_6 (v := (2 : Int32)) (by decide) (pc' := 7) rfl ?_
    refine s_goto W0 d24_7 (by decide) (pc' := 11) (by decide) ?_
    exact gRetI W0 hret d24_11 (by decide) (by decide) ⟨by unfold cnt; rw [if_neg r3]; rfl, rfl⟩
def Q_cpU4 (Z : State) (n0 : Nat) (d : Addr) (kd : ClassId) (zz cx : Int32) (j : Nat) (cs : List Int32) (h0 : Heap) (v : Option Value) (h : Heap) : Prop := v = some (.int cx) ∧ h0 = h
set_option maxRecDepth 65536 in
set_option maxHeartbeats 40000000 in
theorem ct_cpU4 {l : Launch} {Z : State} {a0 : Array Value} (hw : ∀ d ∈ tables_1, d.before a0 Z = true) (hEL : EW Z a0 EL0) {n0 : Nat} (cds : List Jvm.Cond) (d : Addr) (kd : ClassId) (zz cx : Int32) (j : Nat) (cs : List Int32) (h0 : Heap) (Vd : Arv Z h0 d kd .byte zz ((U16B cs).map Value.int) (.int 0)) (hz : zz.toInt = (2 * cs.length : Nat)) (hcs : ∀ c ∈ cs, 0 ≤ c.toInt ∧ c.toInt < 65536) (hlen : cs.length ≤ 1000000) (hv : VCP cx) (hat : AtCP cs j cx) (SAD : Sta Z Z.heap "java/lang/StringUTF16" "$assertionsDisabled" "Z" (.int 1)) (SHI : Sta Z Z.heap "java/lang/StringUTF16" "HI_BYTE_SHIFT" "I" (.int 0)) (SLO : Sta Z Z.heap "java/lang/StringUTF16" "LO_BYTE_SHIFT" "I" (.int 8)) :
    Ct l Z a0 EL0 n0 false true (⟨"java/lang/StringUTF16", "codePointAt", "([BIIZ)I"⟩ : MethodName) jdk_52_method_7_code 6 (Option.some Jvm.ClassFile.FieldType.int) cds ({ frames := 1, cells := 0, slots := 0, locals := 13 } : Room) [] #[(.ref d), (.int (Int32.ofNat j)), (.int (Int32.ofNat cs.length)), (.int (0 : Int32))] h0 (Q_cpU4 Z n0 d kd zz cx j cs h0) := by
  refine Ct.of (plainFor_of_name pn_0) hEL ?_
  intro p e s m below meth c T0 W0 hret hnm hs0
  refine Go.cast (ef_RIII_6 m d (Int32.ofNat j) (Int32.ofNat cs.length) (0 : Int32)) ?_
  show Go p e below _ T0 (mkF m 0 #[.val (.ref d), .val (.int (Int32.ofNat j)), .val (.int (Int32.ofNat cs.length)), .val (.int (0 : Int32)), .unset, .unset] [])
  obtain ⟨v1, v2, v3⟩ := hv
  have hjl := hat.lt
  have ej : (Int32.ofNat j).toInt = j := ofN (by omega)
  have el : (Int32.ofNat cs.length).toInt = cs.length := ofN (by omega)
  rcases hat with ⟨r1, hj1, rj⟩ | ⟨r1, hj1, rj, rk⟩
  · show Go p e below _ T0 (mkF m 0 #[.val (.ref d), .val (.int (Int32.ofNat j)), .val (.int (Int32.ofNat cs.length)), .val (.int (0 : Int32)), .unset, .unset] [])
    refine gGetS W0 (host := "") (Or.inl (w_139 hw)) Via.refl (SAD.ext W0.old.2) d31_0 (pc' := 3) rfl ?_
    intro T1 W1
    refine s_ifne W1 d31_3 (by decide) (pc1 := 19) (by decide) (pc2 := 6) rfl ?_ (fun q => absurd q (by decide))
    intro q3
    refine s_iloadN W1 d31_19 rfl (pc' := 20) rfl ?_
    refine s_ifeq W1 d31_20 (by decide) (pc1 := 28) (by decide) (pc2 := 23) rfl ?_ (fun q => absurd q (by decide))
    intro q20
    refine s_aloadN W1 d31_28 rfl rfl (pc' := 29) rfl ?_
    refine s_iloadN W1 d31_29 rfl (pc' := 30) rfl ?_
    refine gStatic W1 (w_142 hw) (w_143 hw) (w_87 hw) (w_144 hw) (by decide) pd_5 (ct_gch hw hEL [] d kd (Int32.ofNat j) zz cs j hj1 h0 Vd hz ej hcs SAD SHI SLO) (by simp) d31_30 (pc' := 33) rfl rfl (argsL := [(.ref d), (.int (Int32.ofNat j))]) rfl rfl (rest := []) rfl (wt := 0) (Nat.le_of_eq rfl) (by decide) (by decide) (by decide) (by decide) ?_
    rintro v2 T2 h2 W2 z2 ⟨rfl, rfl⟩
    rw [rj]
    show Go p e below _ T2 (mkF m 33 #[.val (.ref d), .val (.int (Int32.ofNat j)), .val (.int (Int32.ofNat cs.length)), .val (.int (0 : Int32)), .unset, .unset] [(.int cx)])
    refine s_istore W2 d31_33 (l' := #[.val (.ref d), .val (.int (Int32.ofNat j)), .val (.int (Int32.ofNat cs.length)), .val (.int (0 : Int32)), .val (.int cx), .unset]) rfl (pc' := 35) rfl ?_
    refine s_iload W2 d31_35 rfl (pc' := 37) rfl ?_
    refine gStatic W2 (w_151 hw) (w_152 hw) (w_121 hw) (w_153 hw) (by decide) pd_10 (ct_ihs hw hEL [] cx h0) (by simp) d31_37 (pc' := 40) rfl rfl (argsL := [(.int cx)]) rfl rfl (rest := []) rfl (wt := 0) (Nat.le_of_eq rfl) (by decide) (by decide) (by decide) (by decide) ?_
    rintro v3 T3 h3 W3 z3 ⟨rfl, rfl⟩
    rw [if_neg (by omega)]
    show Go p e below _ T3 (mkF m 40 #[.val (.ref d), .val (.int (Int32.ofNat j)), .val (.int (Int32.ofNat cs.length)), .val (.int (0 : Int32)), .val (.int cx), .unset] [(.int (0 : Int32))])
    refine s_ifeq W3 d31_40 (by decide) (pc1 := 83) (by decide) (pc2 := 43) rfl ?_ (fun q => absurd q (by decide))
    intro q40
    refine s_iload W3 d31_83 rfl (pc' := 85) rfl ?_
    exact gRetI W3 hret d31_85 (by decide) (by decide) ⟨rfl, rfl⟩
  · show Go p e below _ T0 (mkF m 0 #[.val (.ref d), .val (.int (Int32.ofNat j)), .val (.int (Int32.ofNat cs.length)), .val (.int (0 : Int32)), .unset, .unset] [])
    have hh := hiC_val r1 v2
    have hl2 := loC_val r1 v2
    refine gGetS W0 (host := "") (Or.inl (w_139 hw)) Via.refl (SAD.ext W0.old.2) d31_0 (pc' := 3) rfl ?_
    intro T4 W4
    refine s_ifne W4 d31_3 (by decide) (pc1 := 19) (by decide) (pc2 := 6) rfl ?_ (fun q => absurd q (by decide))
    intro q3
    refine s_iloadN W4 d31_19 rfl (pc' := 20) rfl ?_
    refine s_ifeq W4 d31_20 (by decide) (pc1 := 28) (by decide) (pc2 := 23) rfl ?_ (fun q => absurd q (by decide))
    intro q20
    refine s_aloadN W4 d31_28 rfl rfl (pc' := 29) rfl ?_
    refine s_iloadN W4 d31_29 rfl (pc' := 30) rfl ?_
    refine gStatic W4 (w_142 hw) (w_143 hw) (w_87 hw) (w_144 hw) (by decide) pd_5 (ct_gch hw hEL [] d kd (Int32.ofNat j) zz cs j (by omega) h0 Vd hz ej hcs SAD SHI SLO) (by simp) d31_30 (pc' := 33) rfl rfl (argsL := [(.ref d), (.int (Int32.ofNat j))]) rfl rfl (rest := []) rfl (wt := 0) (Nat.le_of_eq rfl) (by decide) (by decide) (by decide) (by decide) ?_
    rintro v5 T5 h5 W5 z5 ⟨rfl, rfl⟩
    rw [rj]
    show Go p e below _ T5 (mkF m 33 #[.val (.ref d), .val (.int (Int32.ofNat j)), .val (.int (Int32.ofNat cs.length)), .val (.int (0 : Int32)), .unset, .unset] [(.int (hiC cx))])
    refine s_istore W5 d31_33 (l' := #[.val (.ref d), .val (.int (Int32.ofNat j)), .val (.int (Int32.ofNat cs.length)), .val (.int (0 : Int32)), .val (.int (hiC cx)), .unset]) rfl (pc' := 35) rfl ?_
    refine s_iload W5 d31_35 rfl (pc' := 37) rfl ?_
    refine gStatic W5 (w_151 hw) (w_152 hw) (w_121 hw) (w_153 hw) (by decide) pd_10 (ct_ihs hw hEL [] (hiC cx) h0) (by simp) d31_37 (pc' := 40) rfl rfl (argsL := [(.int (hiC cx))]) rfl rfl (rest := []) rfl (wt := 0) (Nat.le_of_eq rfl) (by decide) (by decide) (by decide) (by decide) ?_
    rintro v6 T6 h6 W6 z6 ⟨rfl, rfl⟩
    rw [if_pos (by omega)]
    show Go p e below _ T6 (mkF m 40 #[.val (.ref d), .val (.int (Int32.ofNat j)), .val (.int (Int32.ofNat cs.length)), .val (.int (0 : Int32)), .val (.int (hiC cx)), .unset] [(.int (1 : Int32))])
    refine s_ifeq W6 d31_40 (by decide) (pc1 := 83) (by decide) (pc2 := 43) rfl (fun q => absurd q (by decide)) ?_
    intro q40
    refine s_iinc W6 d31_43 (v := (1 : Int32)) (by decide) rfl (l' := #[.val (.ref d), .val (.int ((Int32.ofNat j) + (1 : Int32))), .val (.int (Int32.ofNat cs.length)), .val (.int (0 : Int32)), .val (.int (hiC cx)), .unset]) rfl (pc' := 46) rfl ?_
    rw [show (Int32.ofNat j) + (1 : Int32) = Int32.ofNat (j + 1) from n32s _]
    show Go p e below _ T6 (mkF m 46 #[.val (.ref d), .val (.int (Int32.ofNat (j + 1))), .val (.int (Int32.ofNat cs.length)), .val (.int (0 : Int32)), .val (.int (hiC cx)), .unset] [])
    refine s_iloadN W6 d31_46 rfl (pc' := 47) rfl ?_
    refine s_iloadN W6 d31_47 rfl (pc' := 48) rfl ?_
    refine s_icmpge W6 d31_48 (by decide) (pc1 := 83) (by decide) (pc2 := 51) rfl (fun q => absurd q (fun q' => q' (lt32 (by rw [ofN (by omega), el]; omega)))) ?_
    intro q48
    refine s_iloadN W6 d31_51 rfl (pc' := 52) rfl ?_
    refine s_ifeq W6 d31_52 (by decide) (pc1 := 60) (by decide) (pc2 := 55) rfl ?_ (fun q => absurd q (by decide))
    intro q52
    refine s_aloadN W6 d31_60 rfl rfl (pc' := 61) rfl ?_
    refine s_iloadN W6 d31_61 rfl (pc' := 62) rfl ?_
    refine gStatic W6 (w_142 hw) (w_143 hw) (w_87 hw) (w_144 hw) (by decide) pd_5 (ct_gch hw hEL [] d kd (Int32.ofNat (j + 1)) zz cs (j + 1) hj1 h0 Vd hz (ofN (by omega)) hcs SAD SHI SLO) (by simp) d31_62 (pc' := 65) rfl rfl (argsL := [(.ref d), (.int (Int32.ofNat (j + 1)))]) rfl rfl (rest := []) rfl (wt := 0) (Nat.le_of_eq rfl) (by decide) (by decide) (by decide) (by decide) ?_
    rintro v7 T7 h7 W7 z7 ⟨rfl, rfl⟩
    rw [rk]
    show Go p e below _ T7 (mkF m 65 #[.val (.ref d), .val (.int (Int32.ofNat (j + 1))), .val (.int (Int32.ofNat cs.length)), .val (.int (0 : Int32)), .val (.int (hiC cx)), .unset] [(.int (loC cx))])
    refine s_istore W7 d31_65 (l' := #[.val (.ref d), .val (.int (Int32.ofNat (j + 1))), .val (.int (Int32.ofNat cs.length)), .val (.int (0 : Int32)), .val (.int (hiC cx)), .val (.int (loC cx))]) rfl (pc' := 67) rfl ?_
    refine s_iload W7 d31_67 rfl (pc' := 69) rfl ?_
    refine gStatic W7 (w_156 hw) (w_157 hw) (w_121 hw) (w_158 hw) (by decide) pd_10 (ct_ils hw hEL [] (loC cx) h0) (by simp) d31_69 (pc' := 72) rfl rfl (argsL := [(.int (loC cx))]) rfl rfl (rest := []) rfl (wt := 0) (Nat.le_of_eq rfl) (by decide) (by decide) (by decide) (by decide) ?_
    rintro v8 T8 h8 W8 z8 ⟨rfl, rfl⟩
    rw [if_pos (by omega)]
    show Go p e below _ T8 (mkF m 72 #[.val (.ref d), .val (.int (Int32.ofNat (j + 1))), .val (.int (Int32.ofNat cs.length)), .val (.int (0 : Int32)), .val (.int (hiC cx)), .val (.int (loC cx))] [(.int (1 : Int32))])
    refine s_ifeq W8 d31_72 (by decide) (pc1 := 83) (by decide) (pc2 := 75) rfl (fun q => absurd q (by decide)) ?_
    intro q72
    refine s_iload W8 d31_75 rfl (pc' := 77) rfl ?_
    refine s_iload W8 d31_77 rfl (pc' := 79) rfl ?_
    refine gStatic W8 (w_160 hw) (w_161 hw) (w_121 hw) (w_162 hw) (by decide) pd_11 (ct_tocp hw hEL [] (hiC cx) (loC cx) h0) (by simp) d31_79 (pc' := 82) rfl rfl (argsL := [(.int (hiC cx)), (.int (loC cx))]) rfl rfl (rest := []) rfl (wt := 0) (Nat.le_of_eq rfl) (by decide) (by decide) (by decide) (by decide) ?_
    rintro v9 T9 h9 W9 z9 ⟨rfl, rfl⟩
    rw [cp_dec r1 v2]
    show Go p e below _ T9 (mkF m 82 #[.val (.ref d), .val (.int (Int32.ofNat (j + 1))), .val (.int (Int32.ofNat cs.length)), .val (.int (0 : Int32)), .val (.int (hiC cx)), .val (.int (loC cx))] [(.int cx)])
    exact gRetI W9 hret d31_82 (by decide) (by decide) ⟨rfl, rfl⟩
def Q_cpU3 (Z : State) (n0 : Nat) (d : Addr) (kd : ClassId) (zz cx : Int32) (j : Nat) (cs : List Int32) (h0 : Heap) (v : Option Value) (h : Heap) : Prop := v = some (.int cx) ∧ h0 = h
set_option maxRecDepth 65536 in
set_option maxHeartbeats 40000000 in
theorem ct_cpU3 {l : Launch} {Z : State} {a0 : Array Value} (hw : ∀ d ∈ tables_1, d.before a0 Z = true) (hEL : EW Z a0 EL0) {n0 : Nat} (cds : List Jvm.Cond) (d : Addr) (kd : ClassId) (zz cx : Int32) (j : Nat) (cs : List Int32) (h0 : Heap) (Vd : Arv Z h0 d kd .byte zz ((U16B cs).map Value.int) (.int 0)) (hz : zz.toInt = (2 * cs.length : Nat)) (hcs : ∀ c ∈ cs, 0 ≤ c.toInt ∧ c.toInt < 65536) (hlen : cs.length ≤ 1000000) (hv : VCP cx) (hat : AtCP cs j cx) (SAD : Sta Z Z.heap "java/lang/StringUTF16" "$assertionsDisabled" "Z" (.int 1)) (SHI : Sta Z Z.heap "java/lang/StringUTF16" "HI_BYTE_SHIFT" "I" (.int 0)) (SLO : Sta Z Z.heap "java/lang/StringUTF16" "LO_BYTE_SHIFT" "I" (.int 8)) :
    Ct l Z a0 EL0 n0 false true (⟨"java/lang/StringUTF16", "codePointAt", "([BII)I"⟩ : MethodName) jdk_52_method_8_code 3 (Option.some Jvm.ClassFile.FieldType.int) cds ({ frames := 2, cells := 0, slots := 0, locals := 30 } : Room) [] #[(.ref d), (.int (Int32.ofNat j)), (.int (Int32.ofNat cs.length))] h0 (Q_cpU3 Z n0 d kd zz cx j cs h0) := by
  refine Ct.of (plainFor_of_name pn_0) hEL ?_
  intro p e s m below meth c T0 W0 hret hnm hs0
  refine Go.cast (ef_RII_3 m d (Int32.ofNat j) (Int32.ofNat cs.length)) ?_
  show Go p e below _ T0 (mkF m 0 #[.val (.ref d), .val (.int (Int32.ofNat j)), .val (.int (Int32.ofNat cs.length))] [])
  refine s_aloadN W0 d30_0 rfl rfl (pc' := 1) rfl ?_
  refine s_iloadN W0 d30_1 rfl (pc' := 2) rfl ?_
  refine s_iloadN W0 d30_2 rfl (pc' := 3) rfl ?_
  refine s_iconst W0 d30_3 (v := (0 : Int32)) (by decide) (pc' := 4) rfl ?_
  refine gStatic W0 (w_148 hw) (w_149 hw) (w_87 hw) (w_150 hw) (by decide) pd_12 (ct_cpU4 hw hEL [] d kd zz cx j cs h0 Vd hz hcs hlen hv hat SAD SHI SLO) (by simp) d30_4 (pc' := 7) rfl rfl (argsL := [(.ref d), (.int (Int32.ofNat j)), (.int (Int32.ofNat cs.length)), (.int (0 : Int32))]) rfl rfl (rest := []) rfl (wt := 0) (Nat.le_of_eq rfl) (by decide) (by decide) (by decide) (by decide) ?_
  rintro v1 T1 h1 W1 z1 ⟨rfl, rfl⟩
  show Go p e below _ T1 (mkF m 7 #[.val (.ref d), .val (.int (Int32.ofNat j)), .val (.int (Int32.ofNat cs.length))] [(.int cx)])
  exact gRetI W1 hret d30_7 (by decide) (by decide) ⟨rfl, rfl⟩
def Q_cpA (Z : State) (n0 : Nat) (a d : Addr) (kd : ClassId) (zz ccs cx : Int32) (fo : Value) (j : Nat) (cs : List Int32) (h0 : Heap) (v : Option Value) (h : Heap) : Prop := v = some (.int cx) ∧ h0 = h
set_option maxRecDepth 65536 in
set_option maxHeartbeats 40000000 in
theorem ct_cpA {l : Launch} {Z : State} {a0 : Array Value} (hw : ∀ d ∈ tables_1, d.before a0 Z = true) (hEL : EW Z a0 EL0) {n0 : Nat} (cds : List Jvm.Cond) (a d : Addr) (kd : ClassId) (zz ccs cx : Int32) (fo : Value) (j : Nat) (cs : List Int32) (h0 : Heap) (Sa : Str Z h0 a d kd (encC cs) zz ((encB cs).map Value.int)) (lz : zz.toInt = (encB cs).length) (hcs : ∀ c ∈ cs, 0 ≤ c.toInt ∧ c.toInt < 65536) (hlen : cs.length ≤ 1000000) (hv : VCP cx) (hat : AtCP cs j cx) (SCS : Sta Z Z.heap "java/lang/String" "COMPACT_STRINGS" "Z" (.int ccs)) (hccs : ¬ ccs = 0) (SFO : Sta Z Z.heap "jdk/internal/util/Preconditions" "SIOOBE_FORMATTER" "Ljava/util/function/BiFunction;" fo) (rfo : fo.isRef = true) (SAD : Sta Z Z.heap "java/lang/StringUTF16" "$assertionsDisabled" "Z" (.int 1)) (SHI : Sta Z Z.heap "java/lang/StringUTF16" "HI_BYTE_SHIFT" "I" (.int 0)) (SLO : Sta Z Z.heap "java/lang/StringUTF16" "LO_BYTE_SHIFT" "I" (.int 8)) :
    Ct l Z a0 EL0 n0 false true (⟨"java/lang/String", "codePointAt", "(I)I"⟩ : MethodName) jdk_42_method_57_code 3 (Option.some Jvm.ClassFile.FieldType.int) cds ({ frames := 3, cells := 0, slots := 0, locals := 44 } : Room) [] #[(.ref a), (.int (Int32.ofNat j))] h0 (Q_cpA Z n0 a d kd zz ccs cx fo j cs h0) := by
  refine Ct.of (plainFor_of_name pn_1) hEL ?_
  intro p e s m below meth c T0 W0 hret hnm hs0
  refine Go.cast (ef_RI_3 m a (Int32.ofNat j)) ?_
  show Go p e below _ T0 (mkF m 0 #[.val (.ref a), .val (.int (Int32.ofNat j)), .unset] [])
  obtain ⟨Ea, Fv, Fc, Vd⟩ := id Sa
  have hjl := hat.lt
  have ej : (Int32.ofNat j).toInt = j := ofN (by omega)
  have el : (Int32.ofNat cs.length).toInt = cs.length := ofN (by omega)
  by_cases hL : Lat cs
  · have lz2 : zz.toInt = cs.length := by rw [lz, encB_len, if_pos hL]
    have hx : cs[j] = cx := by
      rcases hat with ⟨-, h1, h2⟩ | ⟨r1, h1, h2, -⟩
      · exact h2
      · have q1 := hL cs[j] (List.getElem_mem hjl); have q2 := hiC_val r1 hv.2.1; rw [h2] at q1; omega
    refine s_aloadN W0 d19_0 rfl rfl (pc' := 1) rfl ?_
    refine gVirtual W0 Ea (w_100 hw) (w_101 hw) (fun s hZ => notFace_of_selects (args := #[]) (mv hZ (w_103 hw))) (w_103 hw) (w_102 hw) (w_18 hw) (w_104 hw) (by decide) pd_13 (ct_isl hw hEL [] a (encC cs) ccs h0 Fc SCS hccs) (by simp) d19_1 (pc' := 4) rfl rfl (argsL := []) rfl rfl (rest := []) rfl (wt := 0) (Nat.le_of_eq rfl) (by decide) (by decide) (by decide) (by decide) ?_
    rintro v1 T1 h1 W1 z1 ⟨rfl, rfl⟩
    rw [if_pos (show encC cs = 0 from if_pos hL)]
    show Go p e below _ T1 (mkF m 4 #[.val (.ref a), .val (.int (Int32.ofNat j)), .unset] [(.int (1 : Int32))])
    refine s_ifeq W1 d19_4 (by decide) (pc1 := 27) (by decide) (pc2 := 7) rfl (fun q => absurd q (by decide)) ?_
    intro q4
    refine s_iloadN W1 d19_7 rfl (pc' := 8) rfl ?_
    refine s_aloadN W1 d19_8 rfl rfl (pc' := 9) rfl ?_
    refine gGetF W1 (host := "") (Or.inl (w_34 hw)) Via.refl Fv d19_9 (pc' := 12) rfl ?_
    intro T2 W2
    refine gLen W2 Vd d19_12 (pc' := 13) rfl ?_
    refine gStatic W2 (w_105 hw) (w_106 hw) (w_18 hw) (w_107 hw) (by decide) pd_14 (ct_sci hw hEL [] (Int32.ofNat j) zz fo h0 ⟨by omega, by omega⟩ SFO rfo) (by simp) d19_13 (pc' := 16) rfl rfl (argsL := [(.int (Int32.ofNat j)), (.int zz)]) rfl rfl (rest := []) rfl (wt := 0) (Nat.le_of_eq rfl) (by decide) (by decide) (by decide) (by decide) ?_
    rintro v3 T3 h3 W3 z3 ⟨rfl, rfl⟩
    show Go p e below _ T3 (mkF m 16 #[.val (.ref a), .val (.int (Int32.ofNat j)), .unset] [])
    refine s_aloadN W3 d19_16 rfl rfl (pc' := 17) rfl ?_
    refine gGetF W3 (host := "") (Or.inl (w_34 hw)) Via.refl Fv d19_17 (pc' := 20) rfl ?_
    intro T4 W4
    refine s_iloadN W4 d19_20 rfl (pc' := 21) rfl ?_
    refine gLdB W4 Vd (idxM ej lz2 hjl).1 (v := .int cs[j].toInt8.toInt32) (by rw [(idxM ej lz2 hjl).2, show encB cs = _ from if_pos hL, List.map_map]; exact getD_map' _ _ _ hjl) d19_21 (pc' := 22) rfl ?_
    refine s_sipush W4 d19_22 (v := (255 : Int32)) (by decide) (pc' := 25) rfl ?_
    refine s_iand W4 d19_25 (pc' := 26) rfl ?_
    exact gRetI W4 hret d19_26 (by decide) (by decide) ⟨by rw [byteAnd ⟨(hcs _ (List.getElem_mem hjl)).1, hL _ (List.getElem_mem hjl)⟩, hx], rfl⟩
  · have lz2 : zz.toInt = (2 * cs.length : Nat) := by rw [lz, encB_len, if_neg hL]
    rw [show encB cs = _ from if_neg hL] at Vd
    refine s_aloadN W0 d19_0 rfl rfl (pc' := 1) rfl ?_
    refine gVirtual W0 Ea (w_100 hw) (w_101 hw) (fun s hZ => notFace_of_selects (args := #[]) (mv hZ (w_103 hw))) (w_103 hw) (w_102 hw) (w_18 hw) (w_104 hw) (by decide) pd_13 (ct_isl hw hEL [] a (encC cs) ccs h0 Fc SCS hccs) (by simp) d19_1 (pc' := 4) rfl rfl (argsL := []) rfl rfl (rest := []) rfl (wt := 0) (Nat.le_of_eq rfl) (by decide) (by decide) (by decide) (by decide) ?_
    rintro v5 T5 h5 W5 z5 ⟨rfl, rfl⟩
    rw [if_neg (show ¬ encC cs = 0 from by rw [show encC cs = 1 from if_neg hL]; decide)]
    show Go p e below _ T5 (mkF m 4 #[.val (.ref a), .val (.int (Int32.ofNat j)), .unset] [(.int (0 : Int32))])
    refine s_ifeq W5 d19_4 (by decide) (pc1 := 27) (by decide) (pc2 := 7) rfl ?_ (fun q => absurd q (by decide))
    intro q4
    refine s_aloadN W5 d19_27 rfl rfl (pc' := 28) rfl ?_
    refine gGetF W5 (host := "") (Or.inl (w_34 hw)) Via.refl Fv d19_28 (pc' := 31) rfl ?_
    intro T6 W6
    refine gLen W6 Vd d19_31 (pc' := 32) rfl ?_
    refine s_iconst W6 d19_32 (v := (1 : Int32)) (by decide) (pc' := 33) rfl ?_
    refine s_ishr W6 d19_33 (pc' := 34) rfl ?_
    rw [len16 lz hL hlen]
    show Go p e below _ T6 (mkF m 34 #[.val (.ref a), .val (.int (Int32.ofNat j)), .unset] [(.int (Int32.ofNat cs.length))])
    refine s_istoreN W6 d19_34 (l' := #[.val (.ref a), .val (.int (Int32.ofNat j)), .val (.int (Int32.ofNat cs.length))]) rfl (pc' := 35) rfl ?_
    refine s_iloadN W6 d19_35 rfl (pc' := 36) rfl ?_
    refine s_iloadN W6 d19_36 rfl (pc' := 37) rfl ?_
    refine gStatic W6 (w_105 hw) (w_106 hw) (w_18 hw) (w_107 hw) (by decide) pd_14 (ct_sci hw hEL [] (Int32.ofNat j) (Int32.ofNat cs.length) fo h0 ⟨by omega, by omega⟩ SFO rfo) (by simp) d19_37 (pc' := 40) rfl rfl (argsL := [(.int (Int32.ofNat j)), (.int (Int32.ofNat cs.length))]) rfl rfl (rest := []) rfl (wt := 0) (Nat.le_of_eq rfl) (by decide) (by decide) (by decide) (by decide) ?_
    rintro v7 T7 h7 W7 z7 ⟨rfl, rfl⟩
    show Go p e below _ T7 (mkF m 40 #[.val (.ref a), .val (.int (Int32.ofNat j)), .val (.int (Int32.ofNat cs.length))] [])
    refine s_aloadN W7 d19_40 rfl rfl (pc' := 41) rfl ?_
    refine gGetF W7 (host := "") (Or.inl (w_34 hw)) Via.refl Fv d19_41 (pc' := 44) rfl ?_
    intro T8 W8
    refine s_iloadN W8 d19_44 rfl (pc' := 45) rfl ?_
    refine s_iloadN W8 d19_45 rfl (pc' := 46) rfl ?_
    refine gStatic W8 (w_145 hw) (w_146 hw) (w_87 hw) (w_147 hw) (by decide) pd_15 (ct_cpU3 hw hEL [] d kd zz cx j cs h0 Vd lz2 hcs hlen hv hat SAD SHI SLO) (by simp) d19_46 (pc' := 49) rfl rfl (argsL := [(.ref d), (.int (Int32.ofNat j)), (.int (Int32.ofNat cs.length))]) rfl rfl (rest := []) rfl (wt := 0) (Nat.le_of_eq rfl) (by decide) (by decide) (by decide) (by decide) ?_
    rintro v9 T9 h9 W9 z9 ⟨rfl, rfl⟩
    show Go p e below _ T9 (mkF m 49 #[.val (.ref a), .val (.int (Int32.ofNat j)), .val (.int (Int32.ofNat cs.length))] [(.int cx)])
    exact gRetI W9 hret d19_49 (by decide) (by decide) ⟨rfl, rfl⟩
theorem rem_val (x : Int32) (k : Nat) (h0 : 0 < k) (hk : k < 2147483648) : ∃ n : Nat, n < k ∧ (x &&& (2147483647 : Int32)) % Int32.ofNat k = Int32.ofNat n := by
  obtain ⟨n, h1, h2⟩ := and_nat x (k := 2147483647) (by decide)
  refine ⟨n % k, Nat.mod_lt _ h0, ?_⟩
  rw [show (2147483647 : Int32) = Int32.ofNat 2147483647 from rfl, h2, rem_nat (by omega) hk]
theorem rem_add (x : Int32) (a k : Nat) (h0 : 0 < k) (hk : a + k < 2147483648) : ∃ n : Nat, n < k ∧ Int32.ofNat a + (x &&& (2147483647 : Int32)) % Int32.ofNat k = Int32.ofNat (a + n) := by
  obtain ⟨n, h1, h2⟩ := rem_val x k h0 (by omega)
  exact ⟨n, h1, by rw [h2, ofN_add (by omega)]⟩
def Q_pick (Z : State) (n0 : Nat) (ps px : Int32) (h0 : Heap) (v : Option Value) (h : Heap) : Prop := ∃ cx, v = some (.int cx) ∧ VCP cx ∧ h0 = h
set_option maxRecDepth 65536 in
set_option maxHeartbeats 40000000 in
theorem ct_pick {l : Launch} {Z : State} {a0 : Array Value} (hw : ∀ d ∈ tables_1, d.before a0 Z = true) (hEL : EW Z a0 EL0) {n0 : Nat} (cds : List Jvm.Cond) (ps px : Int32) (h0 : Heap)  :
    Ct l Z a0 EL0 n0 false true (⟨"com/example/trim_rowkey/trimrowkey/StringFieldEncodePinLaw", "pick", "(II)I"⟩ : MethodName) method_3_code 4 (Option.some Jvm.ClassFile.FieldType.int) cds ({ frames := 0, cells := 0, slots := 0, locals := 0 } : Room) [] #[(.int ps), (.int px)] h0 (Q_pick Z n0 ps px h0) := by
  refine Ct.of (plainFor_of_name pn_4) hEL ?_
  intro p e s m below meth c T0 W0 hret hnm hs0
  refine Go.cast (ef_II_4 m ps px) ?_
  show Go p e below _ T0 (mkF m 0 #[.val (.int ps), .val (.int px), .unset, .unset] [])
  refine s_iloadN W0 d1_0 rfl (pc' := 1) rfl ?_
  refine s_ldcI W0 (w_4 hw) d1_1 (pc' := 3) rfl ?_
  refine s_iand W0 d1_3 (pc' := 4) rfl ?_
  refine s_istoreN W0 d1_4 (l' := #[.val (.int ps), .val (.int px), .val (.int (px &&& (2147483647 : Int32))), .unset]) rfl (pc' := 5) rfl ?_
  refine s_iloadN W0 d1_5 rfl (pc' := 6) rfl ?_
  refine s_ifne W0 d1_6 (by decide) (pc1 := 16) (by decide) (pc2 := 9) rfl ?_ ?_
  · intro q6
    refine s_iloadN W0 d1_16 rfl (pc' := 17) rfl ?_
    refine s_iconst W0 d1_17 (v := (1 : Int32)) (by decide) (pc' := 18) rfl ?_
    refine s_icmpne W0 d1_18 (by decide) (pc1 := 31) (by decide) (pc2 := 21) rfl ?_ ?_
    · intro q18
      refine s_iloadN W0 d1_31 rfl (pc' := 32) rfl ?_
      refine s_iconst W0 d1_32 (v := (2 : Int32)) (by decide) (pc' := 33) rfl ?_
      refine s_icmpne W0 d1_33 (by decide) (pc1 := 59) (by decide) (pc2 := 36) rfl ?_ ?_
      · intro q33
        refine s_ldcI W0 (w_81 hw) d1_59 (pc' := 61) rfl ?_
        refine s_iloadN W0 d1_61 rfl (pc' := 62) rfl ?_
        refine s_ldcI W0 (w_124 hw) d1_62 (pc' := 64) rfl ?_
        refine s_irem W0 d1_64 (by decide) (pc' := 65) rfl ?_
        refine s_iadd W0 d1_65 (pc' := 66) rfl ?_
        obtain ⟨n, hn, en⟩ := rem_add px 65536 1048576 (by decide) (by decide)
        rw [show (65536 : Int32) + (px &&& (2147483647 : Int32)) % (1048576 : Int32) = Int32.ofNat (65536 + n) from en]
        show Go p e below _ T0 (mkF m 66 #[.val (.int ps), .val (.int px), .val (.int (px &&& (2147483647 : Int32))), .unset] [(.int (Int32.ofNat (65536 + n)))])
        exact gRetI W0 hret d1_66 (by decide) (by decide) ⟨_, rfl, by unfold VCP; rw [ofN (show 65536 + n < 2147483648 by omega)]; omega, rfl⟩
      · intro q33
        refine s_sipush W0 d1_36 (v := (2048 : Int32)) (by decide) (pc' := 39) rfl ?_
        refine s_iloadN W0 d1_39 rfl (pc' := 40) rfl ?_
        refine s_ldcI W0 (w_5 hw) d1_40 (pc' := 42) rfl ?_
        refine s_irem W0 d1_42 (by decide) (pc' := 43) rfl ?_
        refine s_iadd W0 d1_43 (pc' := 44) rfl ?_
        obtain ⟨n, hn, en⟩ := rem_add px 2048 61440 (by decide) (by decide)
        rw [show (2048 : Int32) + (px &&& (2147483647 : Int32)) % (61440 : Int32) = Int32.ofNat (2048 + n) from en]
        show Go p e below _ T0 (mkF m 44 #[.val (.int ps), .val (.int px), .val (.int (px &&& (2147483647 : Int32))), .unset] [(.int (Int32.ofNat (2048 + n)))])
        refine s_istoreN W0 d1_44 (l' := #[.val (.int ps), .val (.int px), .val (.int (px &&& (2147483647 : Int32))), .val (.int (Int32.ofNat (2048 + n)))]) rfl (pc' := 45) rfl ?_
        refine s_iloadN W0 d1_45 rfl (pc' := 46) rfl ?_
        refine s_ldcI W0 (w_6 hw) d1_46 (pc' := 48) rfl ?_
        refine s_icmplt W0 d1_48 (by decide) (pc1 := 57) (by decide) (pc2 := 51) rfl ?_ ?_
        · intro q48
          have r48 := Int32.lt_iff_toInt_lt.mp q48
          rw [ofN (show 2048 + n < 2147483648 by omega), show (55296 : Int32).toInt = 55296 from by decide] at r48
          refine s_iloadN W0 d1_57 rfl (pc' := 58) rfl ?_
          exact gRetI W0 hret d1_58 (by decide) (by decide) ⟨_, rfl, by unfold VCP; rw [ofN (show 2048 + n < 2147483648 by omega)]; omega, rfl⟩
        · intro q48
          have r48 : ¬ 2048 + n < 55296 := fun q => q48 (lt32 (by rw [ofN (show 2048 + n < 2147483648 by omega), show (55296 : Int32).toInt = 55296 from by decide]; omega))
          refine s_iloadN W0 d1_51 rfl (pc' := 52) rfl ?_
          refine s_sipush W0 d1_52 (v := (2048 : Int32)) (by decide) (pc' := 55) rfl ?_
          refine s_iadd W0 d1_55 (pc' := 56) rfl ?_
          rw [show Int32.ofNat (2048 + n) + (2048 : Int32) = Int32.ofNat (2048 + n + 2048) from ofN_add (k := 2048) (by omega)]
          show Go p e below _ T0 (mkF m 56 #[.val (.int ps), .val (.int px), .val (.int (px &&& (2147483647 : Int32))), .val (.int (Int32.ofNat (2048 + n)))] [(.int (Int32.ofNat (2048 + n + 2048)))])
          refine s_istoreN W0 d1_56 (l' := #[.val (.int ps), .val (.int px), .val (.int (px &&& (2147483647 : Int32))), .val (.int (Int32.ofNat (2048 + n + 2048)))]) rfl (pc' := 57) rfl ?_
          refine s_iloadN W0 d1_57 rfl (pc' := 58) rfl ?_
          exact gRetI W0 hret d1_58 (by decide) (by decide) ⟨_, rfl, by unfold VCP; rw [ofN (show 2048 + n + 2048 < 2147483648 by omega)]; omega, rfl⟩
    · intro q18
      refine s_sipush W0 d1_21 (v := (128 : Int32)) (by decide) (pc' := 24) rfl ?_
      refine s_iloadN W0 d1_24 rfl (pc' := 25) rfl ?_
      refine s_sipush W0 d1_25 (v := (1920 : Int32)) (by decide) (pc' := 28) rfl ?_
      refine s_irem W0 d1_28 (by decide) (pc' := 29) rfl ?_
      refine s_iadd W0 d1_29 (pc' := 30) rfl ?_
      obtain ⟨n, hn, en⟩ := rem_add px 128 1920 (by decide) (by decide)
      rw [show (128 : Int32) + (px &&& (2147483647 : Int32)) % (1920 : Int32) = Int32.ofNat (128 + n) from en]
      show Go p e below _ T0 (mkF m 30 #[.val (.int ps), .val (.int px), .val (.int (px &&& (2147483647 : Int32))), .unset] [(.int (Int32.ofNat (128 + n)))])
      exact gRetI W0 hret d1_30 (by decide) (by decide) ⟨_, rfl, by unfold VCP; rw [ofN (show 128 + n < 2147483648 by omega)]; omega, rfl⟩
  · intro q6
    refine s_iconst W0 d1_9 (v := (1 : Int32)) (by decide) (pc' := 10) rfl ?_
    refine s_iloadN W0 d1_10 rfl (pc' := 11) rfl ?_
    refine s_bipush W0 d1_11 (v := (127 : Int32)) (by decide) (pc' := 13) rfl ?_
    refine s_irem W0 d1_13 (by decide) (pc' := 14) rfl ?_
    refine s_iadd W0 d1_14 (pc' := 15) rfl ?_
    obtain ⟨n, hn, en⟩ := rem_add px 1 127 (by decide) (by decide)
    rw [show (1 : Int32) + (px &&& (2147483647 : Int32)) % (127 : Int32) = Int32.ofNat (1 + n) from en]
    show Go p e below _ T0 (mkF m 15 #[.val (.int ps), .val (.int px), .val (.int (px &&& (2147483647 : Int32))), .unset] [(.int (Int32.ofNat (1 + n)))])
    exact gRetI W0 hret d1_15 (by decide) (by decide) ⟨_, rfl, by unfold VCP; rw [ofN (show 1 + n < 2147483648 by omega)]; omega, rfl⟩
def Q_mmin (Z : State) (n0 : Nat) (pa pb : Int32) (h0 : Heap) (v : Option Value) (h : Heap) : Prop := ∃ r, v = some (.int r) ∧ h0 = h
set_option maxRecDepth 65536 in
set_option maxHeartbeats 40000000 in
theorem ct_mmin {l : Launch} {Z : State} {a0 : Array Value} (hw : ∀ d ∈ tables_1, d.before a0 Z = true) (hEL : EW Z a0 EL0) {n0 : Nat} (cds : List Jvm.Cond) (pa pb : Int32) (h0 : Heap)  :
    Ct l Z a0 EL0 n0 false true (⟨"java/lang/Math", "min", "(II)I"⟩ : MethodName) jdk_29_method_69_code 2 (Option.some Jvm.ClassFile.FieldType.int) cds ({ frames := 0, cells := 0, slots := 0, locals := 0 } : Room) [] #[(.int pa), (.int pb)] h0 (Q_mmin Z n0 pa pb h0) := by
  refine Ct.of (Jvm.Free.JP.mathPlain rfl (by decide +kernel)) hEL ?_
  intro p e s m below meth c T0 W0 hret hnm hs0
  refine Go.cast (ef_II_2 m pa pb) ?_
  show Go p e below _ T0 (mkF m 0 #[.val (.int pa), .val (.int pb)] [])
  refine s_iloadN W0 d2_0 rfl (pc' := 1) rfl ?_
  refine s_iloadN W0 d2_1 rfl (pc' := 2) rfl ?_
  refine s_icmpgt W0 d2_2 (by decide) (pc1 := 9) (by decide) (pc2 := 5) rfl ?_ ?_
  · intro q2
    refine s_iloadN W0 d2_9 rfl (pc' := 10) rfl ?_
    exact gRetI W0 hret d2_10 (by decide) (by decide) ⟨_, rfl, rfl⟩
  · intro q2
    refine s_iloadN W0 d2_5 rfl (pc' := 6) rfl ?_
    refine s_goto W0 d2_6 (by decide) (pc' := 10) (by decide) ?_
    exact gRetI W0 hret d2_10 (by decide) (by decide) ⟨_, rfl, rfl⟩
def Q_chS (Z : State) (n0 : Nat) (b : Addr) (kb : ClassId) (cx zz : Int32) (p0 : Nat) (vs : List Value) (h0 : Heap) (v : Option Value) (h : Heap) : Prop := v = some (.int (Int32.ofNat (p0 + 1))) ∧ Keep h0 h [b] ∧ Arv Z h b kb .char zz (vs.set p0 (.int cx)) (.int 0)
set_option maxRecDepth 65536 in
set_option maxHeartbeats 40000000 in
theorem ct_chS {l : Launch} {Z : State} {a0 : Array Value} (hw : ∀ d ∈ tables_1, d.before a0 Z = true) (hEL : EW Z a0 EL0) {n0 : Nat} (cds : List Jvm.Cond) (b : Addr) (kb : ClassId) (cx zz : Int32) (p0 : Nat) (vs : List Value) (h0 : Heap) (hz : zz.toInt = vs.length) (Vb : Arv Z h0 b kb .char zz vs (.int 0)) (n0_b : n0 ≤ b) (hv : VCP cx) (hb : cx.toInt < 65536) (hp : p0 < vs.length) :
    Ct l Z a0 EL0 n0 false true (⟨"com/example/trim_rowkey/trimrowkey/StringFieldEncodePinLaw", "chars", "([CII)I"⟩ : MethodName) method_4_code 4 (Option.some Jvm.ClassFile.FieldType.int) cds ({ frames := 0, cells := 0, slots := 0, locals := 0 } : Room) [] #[(.ref b), (.int (Int32.ofNat p0)), (.int cx)] h0 (Q_chS Z n0 b kb cx zz p0 vs h0) := by
  refine Ct.of (plainFor_of_name pn_4) hEL ?_
  intro p e s m below meth c T0 W0 hret hnm hs0
  refine Go.cast (ef_RII_4 m b (Int32.ofNat p0) cx) ?_
  show Go p e below _ T0 (mkF m 0 #[.val (.ref b), .val (.int (Int32.ofNat p0)), .val (.int cx), .unset] [])
  have bz := zz.toInt_lt
  obtain ⟨v1, v2, v3⟩ := hv
  have lt_b := natlt Vb.lt
  refine s_iloadN W0 d14_0 rfl (pc' := 1) rfl ?_
  refine s_ldcI W0 (w_81 hw) d14_1 (pc' := 3) rfl ?_
  refine s_icmpge W0 d14_3 (by decide) (pc1 := 15) (by decide) (pc2 := 6) rfl (fun q => absurd q (fun q' => q' (lt32 (by rw [show (65536 : Int32).toInt = 65536 from by decide]; omega)))) ?_
  intro q3
  refine s_aloadN W0 d14_6 rfl rfl (pc' := 7) rfl ?_
  refine s_iloadN W0 d14_7 rfl (pc' := 8) rfl ?_
  refine s_iloadN W0 d14_8 rfl (pc' := 9) rfl ?_
  refine s_i2c W0 d14_9 (pc' := 10) rfl ?_
  refine gStC W0 n0_b Vb (idxM (ofN (show p0 < 2147483648 by omega)) hz (by first | omega | (simp only [List.length_set] at *; omega))).1 (i := p0) (idxM (ofN (show p0 < 2147483648 by omega)) hz (by first | omega | (simp only [List.length_set] at *; omega))).2 (by first | omega | (simp only [List.length_set]; omega)) d14_10 (pc' := 11) rfl ?_
  intro T1 h1 W1 K1 V1
  rw [small_raw (by omega) hb] at V1
  have z1 : h0.size ≤ h1.size := K1.1
  refine s_iloadN W1 d14_11 rfl (pc' := 12) rfl ?_
  refine s_iconst W1 d14_12 (v := (1 : Int32)) (by decide) (pc' := 13) rfl ?_
  refine s_iadd W1 d14_13 (pc' := 14) rfl ?_
  exact gRetI W1 hret d14_14 (by decide) (by decide) ⟨by rw [n32s], ((Keep.refl h0 [b]).trans K1 (allS (Or.inl (by simp)) all0)), V1⟩
def Q_chB (Z : State) (n0 : Nat) (b : Addr) (kb : ClassId) (cx zz : Int32) (p0 : Nat) (vs : List Value) (h0 : Heap) (v : Option Value) (h : Heap) : Prop := v = some (.int (Int32.ofNat (p0 + 2))) ∧ Keep h0 h [b] ∧ Arv Z h b kb .char zz ((vs.set p0 (.int (hiC cx))).set (p0 + 1) (.int (loC cx))) (.int 0)
set_option maxRecDepth 65536 in
set_option maxHeartbeats 40000000 in
theorem ct_chB {l : Launch} {Z : State} {a0 : Array Value} (hw : ∀ d ∈ tables_1, d.before a0 Z = true) (hEL : EW Z a0 EL0) {n0 : Nat} (cds : List Jvm.Cond) (b : Addr) (kb : ClassId) (cx zz : Int32) (p0 : Nat) (vs : List Value) (h0 : Heap) (hz : zz.toInt = vs.length) (Vb : Arv Z h0 b kb .char zz vs (.int 0)) (n0_b : n0 ≤ b) (hv : VCP cx) (hb : 65536 ≤ cx.toInt) (hp : p0 + 1 < vs.length) :
    Ct l Z a0 EL0 n0 false true (⟨"com/example/trim_rowkey/trimrowkey/StringFieldEncodePinLaw", "chars", "([CII)I"⟩ : MethodName) method_4_code 4 (Option.some Jvm.ClassFile.FieldType.int) cds ({ frames := 0, cells := 0, slots := 0, locals := 0 } : Room) [] #[(.ref b), (.int (Int32.ofNat p0)), (.int cx)] h0 (Q_chB Z n0 b kb cx zz p0 vs h0) := by
  refine Ct.of (plainFor_of_name pn_4) hEL ?_
  intro p e s m below meth c T0 W0 hret hnm hs0
  refine Go.cast (ef_RII_4 m b (Int32.ofNat p0) cx) ?_
  show Go p e below _ T0 (mkF m 0 #[.val (.ref b), .val (.int (Int32.ofNat p0)), .val (.int cx), .unset] [])
  have bz := zz.toInt_lt
  obtain ⟨v1, v2, v3⟩ := hv
  have lt_b := natlt Vb.lt
  refine s_iloadN W0 d14_0 rfl (pc' := 1) rfl ?_
  refine s_ldcI W0 (w_81 hw) d14_1 (pc' := 3) rfl ?_
  refine s_icmpge W0 d14_3 (by decide) (pc1 := 15) (by decide) (pc2 := 6) rfl ?_ (fun q => absurd q (nlt32 (by rw [show (65536 : Int32).toInt = 65536 from by decide]; omega)))
  intro q3
  refine s_iloadN W0 d14_15 rfl (pc' := 16) rfl ?_
  refine s_ldcI W0 (w_81 hw) d14_16 (pc' := 18) rfl ?_
  refine s_isub W0 d14_18 (pc' := 19) rfl ?_
  refine s_istoreN W0 d14_19 (l' := #[.val (.ref b), .val (.int (Int32.ofNat p0)), .val (.int cx), .val (.int (cx - (65536 : Int32)))]) rfl (pc' := 20) rfl ?_
  refine s_aloadN W0 d14_20 rfl rfl (pc' := 21) rfl ?_
  refine s_iloadN W0 d14_21 rfl (pc' := 22) rfl ?_
  refine s_ldcI W0 (w_6 hw) d14_22 (pc' := 24) rfl ?_
  refine s_iloadN W0 d14_24 rfl (pc' := 25) rfl ?_
  refine s_bipush W0 d14_25 (v := (10 : Int32)) (by decide) (pc' := 27) rfl ?_
  refine s_iushr W0 d14_27 (pc' := 28) rfl ?_
  refine s_iadd W0 d14_28 (pc' := 29) rfl ?_
  refine s_i2c W0 d14_29 (pc' := 30) rfl ?_
  refine gStC W0 n0_b Vb (idxM (ofN (show p0 < 2147483648 by omega)) hz (by first | omega | (simp only [List.length_set] at *; omega))).1 (i := p0) (idxM (ofN (show p0 < 2147483648 by omega)) hz (by first | omega | (simp only [List.length_set] at *; omega))).2 (by first | omega | (simp only [List.length_set]; omega)) d14_30 (pc' := 31) rfl ?_
  intro T1 h1 W1 K1 V1
  rw [hi_raw hb v2] at V1
  have z1 : h0.size ≤ h1.size := K1.1
  refine s_aloadN W1 d14_31 rfl rfl (pc' := 32) rfl ?_
  refine s_iloadN W1 d14_32 rfl (pc' := 33) rfl ?_
  refine s_iconst W1 d14_33 (v := (1 : Int32)) (by decide) (pc' := 34) rfl ?_
  refine s_iadd W1 d14_34 (pc' := 35) rfl ?_
  rw [show Int32.ofNat p0 + (1 : Int32) = Int32.ofNat (p0 + 1) from n32s _]
  show Go p e below _ T1 (mkF m 35 #[.val (.ref b), .val (.int (Int32.ofNat p0)), .val (.int cx), .val (.int (cx - (65536 : Int32)))] [(.int (Int32.ofNat (p0 + 1))), (.ref b)])
  refine s_ldcI W1 (w_125 hw) d14_35 (pc' := 37) rfl ?_
  refine s_iloadN W1 d14_37 rfl (pc' := 38) rfl ?_
  refine s_sipush W1 d14_38 (v := (1023 : Int32)) (by decide) (pc' := 41) rfl ?_
  refine s_iand W1 d14_41 (pc' := 42) rfl ?_
  refine s_iadd W1 d14_42 (pc' := 43) rfl ?_
  refine s_i2c W1 d14_43 (pc' := 44) rfl ?_
  refine gStC W1 n0_b V1 (idxM (ofN (show (p0 + 1) < 2147483648 by omega)) hz (by first | omega | (simp only [List.length_set] at *; omega))).1 (i := (p0 + 1)) (idxM (ofN (show (p0 + 1) < 2147483648 by omega)) hz (by first | omega | (simp only [List.length_set] at *; omega))).2 (by first | omega | (simp only [List.length_set]; omega)) d14_44 (pc' := 45) rfl ?_
  intro T2 h2 W2 K2 V2
  rw [lo_raw hb v2] at V2
  have z2 : h1.size ≤ h2.size := K2.1
  refine s_iloadN W2 d14_45 rfl (pc' := 46) rfl ?_
  refine s_iconst W2 d14_46 (v := (2 : Int32)) (by decide) (pc' := 47) rfl ?_
  refine s_iadd W2 d14_47 (pc' := 48) rfl ?_
  exact gRetI W2 hret d14_48 (by decide) (by decide) ⟨by rw [show Int32.ofNat p0 + (2 : Int32) = Int32.ofNat (p0 + 2) from ofN_add (k := 2) (by omega)], (((Keep.refl h0 [b]).trans K1 (allS (Or.inl (by simp)) all0)).trans K2 (allS (Or.inl (by simp)) all0)), V2⟩
def Q_put (Z : State) (n0 : Nat) (d : Addr) (kd : ClassId) (cx : Int32) (p0 : Nat) (xs : List Int32) (h0 : Heap) (v : Option Value) (h : Heap) : Prop := v = some (.int (Int32.ofNat (usz cx))) ∧ Keep h0 h [d] ∧ Arv Z h d kd .byte 16 ((wr1 xs p0 cx).map Value.int) (.int 0)
set_option maxRecDepth 65536 in
set_option maxHeartbeats 40000000 in
theorem ct_put {l : Launch} {Z : State} {a0 : Array Value} (hw : ∀ d ∈ tables_1, d.before a0 Z = true) (hEL : EW Z a0 EL0) {n0 : Nat} (cds : List Jvm.Cond) (d : Addr) (kd : ClassId) (cx : Int32) (p0 : Nat) (xs : List Int32) (h0 : Heap) (Vd : Arv Z h0 d kd .byte 16 (xs.map Value.int) (.int 0)) (hx : xs.length = 16) (hv : VCP cx) (hp : p0 + usz cx ≤ 16) (n0_d : n0 ≤ d) :
    Ct l Z a0 EL0 n0 false true (⟨"com/example/trim_rowkey/trimrowkey/StringFieldEncodePinLaw", "put", "([BII)I"⟩ : MethodName) method_5_code 3 (Option.some Jvm.ClassFile.FieldType.int) cds ({ frames := 0, cells := 0, slots := 0, locals := 0 } : Room) [d] #[(.ref d), (.int (Int32.ofNat p0)), (.int cx)] h0 (Q_put Z n0 d kd cx p0 xs h0) := by
  refine Ct.of (plainFor_of_name pn_4) hEL ?_
  intro p e s m below meth c T0 W0 hret hnm hs0
  refine Go.cast (ef_RII_3 m d (Int32.ofNat p0) cx) ?_
  show Go p e below _ T0 (mkF m 0 #[.val (.ref d), .val (.int (Int32.ofNat p0)), .val (.int cx)] [])
  have hz16 : (16 : Int32).toInt = (16 : Nat) := by decide
  have lt_d := natlt Vd.lt
  obtain ⟨v1, v2, v3⟩ := hv
  refine s_iloadN W0 d15_0 rfl (pc' := 1) rfl ?_
  refine s_sipush W0 d15_1 (v := (128 : Int32)) (by decide) (pc' := 4) rfl ?_
  refine s_icmpge W0 d15_4 (by decide) (pc1 := 14) (by decide) (pc2 := 7) rfl ?_ ?_
  · intro q4
    have r4 : ¬ cx.toInt < 128 := fun q => q4 (lt32 (by rw [show (128 : Int32).toInt = 128 from by decide]; exact q))
    refine s_iloadN W0 d15_14 rfl (pc' := 15) rfl ?_
    refine s_sipush W0 d15_15 (v := (2048 : Int32)) (by decide) (pc' := 18) rfl ?_
    refine s_icmpge W0 d15_18 (by decide) (pc1 := 49) (by decide) (pc2 := 21) rfl ?_ ?_
    · intro q18
      have r18 : ¬ cx.toInt < 2048 := fun q => q18 (lt32 (by rw [show (2048 : Int32).toInt = 2048 from by decide]; exact q))
      refine s_iloadN W0 d15_49 rfl (pc' := 50) rfl ?_
      refine s_ldcI W0 (w_81 hw) d15_50 (pc' := 52) rfl ?_
      refine s_icmpge W0 d15_52 (by decide) (pc1 := 100) (by decide) (pc2 := 55) rfl ?_ ?_
      · intro q52
        have r52 : ¬ cx.toInt < 65536 := fun q => q52 (lt32 (by rw [show (65536 : Int32).toInt = 65536 from by decide]; exact q))
        have hs : usz cx = 4 := by unfold usz; rw [if_neg r4, if_neg r18, if_neg r52]
        rw [hs] at hp
        refine s_aloadN W0 d15_100 rfl rfl (pc' := 101) rfl ?_
        refine s_iloadN W0 d15_101 rfl (pc' := 102) rfl ?_
        refine s_sipush W0 d15_102 (v := (240 : Int32)) (by decide) (pc' := 105) rfl ?_
        refine s_iloadN W0 d15_105 rfl (pc' := 106) rfl ?_
        refine s_bipush W0 d15_106 (v := (18 : Int32)) (by decide) (pc' := 108) rfl ?_
        refine s_ishr W0 d15_108 (pc' := 109) rfl ?_
        refine s_ior W0 d15_109 (pc' := 110) rfl ?_
        refine s_i2b W0 d15_110 (pc' := 111) rfl ?_
        refine gStB W0 n0_d (List.mem_of_getElem? (i := 0) rfl) Vd (idxM (ofN (show p0 < 2147483648 by omega)) hz16 (by omega)).1 (i := p0) (idxM (ofN (show p0 < 2147483648 by omega)) hz16 (by omega)).2 (by simp only [List.length_set, List.length_map]; omega) d15_111 (pc' := 112) rfl ?_
        intro T1 h1 W1 K1 V0
        rw [bb8] at V0
        have z1 : h0.size ≤ h1.size := K1.1
        refine s_aloadN W1 d15_112 rfl rfl (pc' := 113) rfl ?_
        refine s_iloadN W1 d15_113 rfl (pc' := 114) rfl ?_
        refine s_iconst W1 d15_114 (v := (1 : Int32)) (by decide) (pc' := 115) rfl ?_
        refine s_iadd W1 d15_115 (pc' := 116) rfl ?_
        rw [show Int32.ofNat p0 + (1 : Int32) = Int32.ofNat (p0 + 1) from n32s _]
        show Go p e below _ T1 (mkF m 116 #[.val (.ref d), .val (.int (Int32.ofNat p0)), .val (.int cx)] [(.int (Int32.ofNat (p0 + 1))), (.ref d)])
        refine s_sipush W1 d15_116 (v := (128 : Int32)) (by decide) (pc' := 119) rfl ?_
        refine s_iloadN W1 d15_119 rfl (pc' := 120) rfl ?_
        refine s_bipush W1 d15_120 (v := (12 : Int32)) (by decide) (pc' := 122) rfl ?_
        refine s_ishr W1 d15_122 (pc' := 123) rfl ?_
        refine s_bipush W1 d15_123 (v := (63 : Int32)) (by decide) (pc' := 125) rfl ?_
        refine s_iand W1 d15_125 (pc' := 126) rfl ?_
        refine s_ior W1 d15_126 (pc' := 127) rfl ?_
        refine s_i2b W1 d15_127 (pc' := 128) rfl ?_
        refine gStB W1 n0_d (List.mem_of_getElem? (i := 0) rfl) V0 (idxM (ofN (show (p0 + 1) < 2147483648 by omega)) hz16 (by omega)).1 (i := (p0 + 1)) (idxM (ofN (show (p0 + 1) < 2147483648 by omega)) hz16 (by omega)).2 (by simp only [List.length_set, List.length_map]; omega) d15_128 (pc' := 129) rfl ?_
        intro T2 h2 W2 K2 V1
        rw [bb8] at V1
        have z2 : h1.size ≤ h2.size := K2.1
        refine s_aloadN W2 d15_129 rfl rfl (pc' := 130) rfl ?_
        refine s_iloadN W2 d15_130 rfl (pc' := 131) rfl ?_
        refine s_iconst W2 d15_131 (v := (2 : Int32)) (by decide) (pc' := 132) rfl ?_
        refine s_iadd W2 d15_132 (pc' := 133) rfl ?_
        rw [show Int32.ofNat p0 + (2 : Int32) = Int32.ofNat (p0 + 2) from ofN_add (k := 2) (by omega)]
        show Go p e below _ T2 (mkF m 133 #[.val (.ref d), .val (.int (Int32.ofNat p0)), .val (.int cx)] [(.int (Int32.ofNat (p0 + 2))), (.ref d)])
        refine s_sipush W2 d15_133 (v := (128 : Int32)) (by decide) (pc' := 136) rfl ?_
        refine s_iloadN W2 d15_136 rfl (pc' := 137) rfl ?_
        refine s_bipush W2 d15_137 (v := (6 : Int32)) (by decide) (pc' := 139) rfl ?_
        refine s_ishr W2 d15_139 (pc' := 140) rfl ?_
        refine s_bipush W2 d15_140 (v := (63 : Int32)) (by decide) (pc' := 142) rfl ?_
        refine s_iand W2 d15_142 (pc' := 143) rfl ?_
        refine s_ior W2 d15_143 (pc' := 144) rfl ?_
        refine s_i2b W2 d15_144 (pc' := 145) rfl ?_
        refine gStB W2 n0_d (List.mem_of_getElem? (i := 0) rfl) V1 (idxM (ofN (show (p0 + 2) < 2147483648 by omega)) hz16 (by omega)).1 (i := (p0 + 2)) (idxM (ofN (show (p0 + 2) < 2147483648 by omega)) hz16 (by omega)).2 (by simp only [List.length_set, List.length_map]; omega) d15_145 (pc' := 146) rfl ?_
        intro T3 h3 W3 K3 V2
        rw [bb8] at V2
        have z3 : h2.size ≤ h3.size := K3.1
        refine s_aloadN W3 d15_146 rfl rfl (pc' := 147) rfl ?_
        refine s_iloadN W3 d15_147 rfl (pc' := 148) rfl ?_
        refine s_iconst W3 d15_148 (v := (3 : Int32)) (by decide) (pc' := 149) rfl ?_
        refine s_iadd W3 d15_149 (pc' := 150) rfl ?_
        rw [show Int32.ofNat p0 + (3 : Int32) = Int32.ofNat (p0 + 3) from ofN_add (k := 3) (by omega)]
        show Go p e below _ T3 (mkF m 150 #[.val (.ref d), .val (.int (Int32.ofNat p0)), .val (.int cx)] [(.int (Int32.ofNat (p0 + 3))), (.ref d)])
        refine s_sipush W3 d15_150 (v := (128 : Int32)) (by decide) (pc' := 153) rfl ?_
        refine s_iloadN W3 d15_153 rfl (pc' := 154) rfl ?_
        refine s_bipush W3 d15_154 (v := (63 : Int32)) (by decide) (pc' := 156) rfl ?_
        refine s_iand W3 d15_156 (pc' := 157) rfl ?_
        refine s_ior W3 d15_157 (pc' := 158) rfl ?_
        refine s_i2b W3 d15_158 (pc' := 159) rfl ?_
        refine gStB W3 n0_d (List.mem_of_getElem? (i := 0) rfl) V2 (idxM (ofN (show (p0 + 3) < 2147483648 by omega)) hz16 (by omega)).1 (i := (p0 + 3)) (idxM (ofN (show (p0 + 3) < 2147483648 by omega)) hz16 (by omega)).2 (by simp only [List.length_set, List.length_map]; omega) d15_159 (pc' := 160) rfl ?_
        intro T4 h4 W4 K4 V3
        rw [bb8] at V3
        have z4 : h3.size ≤ h4.size := K4.1
        refine s_iconst W4 d15_160 (v := (4 : Int32)) (by decide) (pc' := 161) rfl ?_
        exact gRetI W4 hret d15_161 (by decide) (by decide) ⟨by rw [hs]; rfl, (((((Keep.refl h0 [d]).trans K1 (allS (Or.inl (by simp)) all0)).trans K2 (allS (Or.inl (by simp)) all0)).trans K3 (allS (Or.inl (by simp)) all0)).trans K4 (allS (Or.inl (by simp)) all0)), by unfold wr1; rw [if_neg r4, if_neg r18, if_neg r52]; simp only [List.map_set]; exact V3⟩
      · intro q52
        have r52 : cx.toInt < 65536 := by have := Int32.lt_iff_toInt_lt.mp q52; rw [show (65536 : Int32).toInt = 65536 from by decide] at this; exact this
        have hs : usz cx = 3 := by unfold usz; rw [if_neg r4, if_neg r18, if_pos r52]
        rw [hs] at hp
        refine s_aloadN W0 d15_55 rfl rfl (pc' := 56) rfl ?_
        refine s_iloadN W0 d15_56 rfl (pc' := 57) rfl ?_
        refine s_sipush W0 d15_57 (v := (224 : Int32)) (by decide) (pc' := 60) rfl ?_
        refine s_iloadN W0 d15_60 rfl (pc' := 61) rfl ?_
        refine s_bipush W0 d15_61 (v := (12 : Int32)) (by decide) (pc' := 63) rfl ?_
        refine s_ishr W0 d15_63 (pc' := 64) rfl ?_
        refine s_ior W0 d15_64 (pc' := 65) rfl ?_
        refine s_i2b W0 d15_65 (pc' := 66) rfl ?_
        refine gStB W0 n0_d (List.mem_of_getElem? (i := 0) rfl) Vd (idxM (ofN (show p0 < 2147483648 by omega)) hz16 (by omega)).1 (i := p0) (idxM (ofN (show p0 < 2147483648 by omega)) hz16 (by omega)).2 (by simp only [List.length_set, List.length_map]; omega) d15_66 (pc' := 67) rfl ?_
        intro T5 h5 W5 K5 V0
        rw [bb8] at V0
        have z5 : h0.size ≤ h5.size := K5.1
        refine s_aloadN W5 d15_67 rfl rfl (pc' := 68) rfl ?_
        refine s_iloadN W5 d15_68 rfl (pc' := 69) rfl ?_
        refine s_iconst W5 d15_69 (v := (1 : Int32)) (by decide) (pc' := 70) rfl ?_
        refine s_iadd W5 d15_70 (pc' := 71) rfl ?_
        rw [show Int32.ofNat p0 + (1 : Int32) = Int32.ofNat (p0 + 1) from n32s _]
        show Go p e below _ T5 (mkF m 71 #[.val (.ref d), .val (.int (Int32.ofNat p0)), .val (.int cx)] [(.int (Int32.ofNat (p0 + 1))), (.ref d)])
        refine s_sipush W5 d15_71 (v := (128 : Int32)) (by decide) (pc' := 74) rfl ?_
        refine s_iloadN W5 d15_74 rfl (pc' := 75) rfl ?_
        refine s_bipush W5 d15_75 (v := (6 : Int32)) (by decide) (pc' := 77) rfl ?_
        refine s_ishr W5 d15_77 (pc' := 78) rfl ?_
        refine s_bipush W5 d15_78 (v := (63 : Int32)) (by decide) (pc' := 80) rfl ?_
        refine s_iand W5 d15_80 (pc' := 81) rfl ?_
        refine s_ior W5 d15_81 (pc' := 82) rfl ?_
        refine s_i2b W5 d15_82 (pc' := 83) rfl ?_
        refine gStB W5 n0_d (List.mem_of_getElem? (i := 0) rfl) V0 (idxM (ofN (show (p0 + 1) < 2147483648 by omega)) hz16 (by omega)).1 (i := (p0 + 1)) (idxM (ofN (show (p0 + 1) < 2147483648 by omega)) hz16 (by omega)).2 (by simp only [List.length_set, List.length_map]; omega) d15_83 (pc' := 84) rfl ?_
        intro T6 h6 W6 K6 V1
        rw [bb8] at V1
        have z6 : h5.size ≤ h6.size := K6.1
        refine s_aloadN W6 d15_84 rfl rfl (pc' := 85) rfl ?_
        refine s_iloadN W6 d15_85 rfl (pc' := 86) rfl ?_
        refine s_iconst W6 d15_86 (v := (2 : Int32)) (by decide) (pc' := 87) rfl ?_
        refine s_iadd W6 d15_87 (pc' := 88) rfl ?_
        rw [show Int32.ofNat p0 + (2 : Int32) = Int32.ofNat (p0 + 2) from ofN_add (k := 2) (by omega)]
        show Go p e below _ T6 (mkF m 88 #[.val (.ref d), .val (.int (Int32.ofNat p0)), .val (.int cx)] [(.int (Int32.ofNat (p0 + 2))), (.ref d)])
        refine s_sipush W6 d15_88 (v := (128 : Int32)) (by decide) (pc' := 91) rfl ?_
        refine s_iloadN W6 d15_91 rfl (pc' := 92) rfl ?_
        refine s_bipush W6 d15_92 (v := (63 : Int32)) (by decide) (pc' := 94) rfl ?_
        refine s_iand W6 d15_94 (pc' := 95) rfl ?_
        refine s_ior W6 d15_95 (pc' := 96) rfl ?_
        refine s_i2b W6 d15_96 (pc' := 97) rfl ?_
        refine gStB W6 n0_d (List.mem_of_getElem? (i := 0) rfl) V1 (idxM (ofN (show (p0 + 2) < 2147483648 by omega)) hz16 (by omega)).1 (i := (p0 + 2)) (idxM (ofN (show (p0 + 2) < 2147483648 by omega)) hz16 (by omega)).2 (by simp only [List.length_set, List.length_map]; omega) d15_97 (pc' := 98) rfl ?_
        intro T7 h7 W7 K7 V2
        rw [bb8] at V2
        have z7 : h6.size ≤ h7.size := K7.1
        refine s_iconst W7 d15_98 (v := (3 : Int32)) (by decide) (pc' := 99) rfl ?_
        exact gRetI W7 hret d15_99 (by decide) (by decide) ⟨by rw [hs]; rfl, ((((Keep.refl h0 [d]).trans K5 (allS (Or.inl (by simp)) all0)).trans K6 (allS (Or.inl (by simp)) all0)).trans K7 (allS (Or.inl (by simp)) all0)), by unfold wr1; rw [if_neg r4, if_neg r18, if_pos r52]; simp only [List.map_set]; exact V2⟩
    · intro q18
      have r18 : cx.toInt < 2048 := by have := Int32.lt_iff_toInt_lt.mp q18; rw [show (2048 : Int32).toInt = 2048 from by decide] at this; exact this
      have hs : usz cx = 2 := by unfold usz; rw [if_neg r4, if_pos r18]
      rw [hs] at hp
      refine s_aloadN W0 d15_21 rfl rfl (pc' := 22) rfl ?_
      refine s_iloadN W0 d15_22 rfl (pc' := 23) rfl ?_
      refine s_sipush W0 d15_23 (v := (192 : Int32)) (by decide) (pc' := 26) rfl ?_
      refine s_iloadN W0 d15_26 rfl (pc' := 27) rfl ?_
      refine s_bipush W0 d15_27 (v := (6 : Int32)) (by decide) (pc' := 29) rfl ?_
      refine s_ishr W0 d15_29 (pc' := 30) rfl ?_
      refine s_ior W0 d15_30 (pc' := 31) rfl ?_
      refine s_i2b W0 d15_31 (pc' := 32) rfl ?_
      refine gStB W0 n0_d (List.mem_of_getElem? (i := 0) rfl) Vd (idxM (ofN (show p0 < 2147483648 by omega)) hz16 (by omega)).1 (i := p0) (idxM (ofN (show p0 < 2147483648 by omega)) hz16 (by omega)).2 (by simp only [List.length_set, List.length_map]; omega) d15_32 (pc' := 33) rfl ?_
      intro T8 h8 W8 K8 V0
      rw [bb8] at V0
      have z8 : h0.size ≤ h8.size := K8.1
      refine s_aloadN W8 d15_33 rfl rfl (pc' := 34) rfl ?_
      refine s_iloadN W8 d15_34 rfl (pc' := 35) rfl ?_
      refine s_iconst W8 d15_35 (v := (1 : Int32)) (by decide) (pc' := 36) rfl ?_
      refine s_iadd W8 d15_36 (pc' := 37) rfl ?_
      rw [show Int32.ofNat p0 + (1 : Int32) = Int32.ofNat (p0 + 1) from n32s _]
      show Go p e below _ T8 (mkF m 37 #[.val (.ref d), .val (.int (Int32.ofNat p0)), .val (.int cx)] [(.int (Int32.ofNat (p0 + 1))), (.ref d)])
      refine s_sipush W8 d15_37 (v := (128 : Int32)) (by decide) (pc' := 40) rfl ?_
      refine s_iloadN W8 d15_40 rfl (pc' := 41) rfl ?_
      refine s_bipush W8 d15_41 (v := (63 : Int32)) (by decide) (pc' := 43) rfl ?_
      refine s_iand W8 d15_43 (pc' := 44) rfl ?_
      refine s_ior W8 d15_44 (pc' := 45) rfl ?_
      refine s_i2b W8 d15_45 (pc' := 46) rfl ?_
      refine gStB W8 n0_d (List.mem_of_getElem? (i := 0) rfl) V0 (idxM (ofN (show (p0 + 1) < 2147483648 by omega)) hz16 (by omega)).1 (i := (p0 + 1)) (idxM (ofN (show (p0 + 1) < 2147483648 by omega)) hz16 (by omega)).2 (by simp only [List.length_set, List.length_map]; omega) d15_46 (pc' := 47) rfl ?_
      intro T9 h9 W9 K9 V1
      rw [bb8] at V1
      have z9 : h8.size ≤ h9.size := K9.1
      refine s_iconst W9 d15_47 (v := (2 : Int32)) (by decide) (pc' := 48) rfl ?_
      exact gRetI W9 hret d15_48 (by decide) (by decide) ⟨by rw [hs]; rfl, (((Keep.refl h0 [d]).trans K8 (allS (Or.inl (by simp)) all0)).trans K9 (allS (Or.inl (by simp)) all0)), by unfold wr1; rw [if_neg r4, if_pos r18]; simp only [List.map_set]; exact V1⟩
  · intro q4
    have r4 : cx.toInt < 128 := by have := Int32.lt_iff_toInt_lt.mp q4; rw [show (128 : Int32).toInt = 128 from by decide] at this; exact this
    have hs : usz cx = 1 := by unfold usz; rw [if_pos r4]
    rw [hs] at hp
    refine s_aloadN W0 d15_7 rfl rfl (pc' := 8) rfl ?_
    refine s_iloadN W0 d15_8 rfl (pc' := 9) rfl ?_
    refine s_iloadN W0 d15_9 rfl (pc' := 10) rfl ?_
    refine s_i2b W0 d15_10 (pc' := 11) rfl ?_
    refine gStB W0 n0_d (List.mem_of_getElem? (i := 0) rfl) Vd (idxM (ofN (show p0 < 2147483648 by omega)) hz16 (by omega)).1 (i := p0) (idxM (ofN (show p0 < 2147483648 by omega)) hz16 (by omega)).2 (by simp only [List.length_set, List.length_map]; omega) d15_11 (pc' := 12) rfl ?_
    intro T10 h10 W10 K10 V0
    rw [bb8] at V0
    have z10 : h0.size ≤ h10.size := K10.1
    refine s_iconst W10 d15_12 (v := (1 : Int32)) (by decide) (pc' := 13) rfl ?_
    exact gRetI W10 hret d15_13 (by decide) (by decide) ⟨by rw [hs]; rfl, ((Keep.refl h0 [d]).trans K10 (allS (Or.inl (by simp)) all0)), by unfold wr1; rw [if_pos r4]; simp only [List.map_set]; exact V0⟩
def Q_str1n (Z : State) (n0 : Nat) (b : Addr) (kb : ClassId) (x0 x1 x2 x3 ccs : Int32) (h0 : Heap) (v : Option Value) (h : Heap) : Prop := ∃ a d kd zz, v = some (.ref a) ∧ Keep h0 h [] ∧ h0.size ≤ a ∧ Str Z h a d kd (encC [x0]) zz ((encB [x0]).map Value.int) ∧ zz.toInt = (encB [x0]).length ∧ h0.size ≤ d
set_option maxRecDepth 65536 in
set_option maxHeartbeats 40000000 in
theorem ct_str1n {l : Launch} {Z : State} {a0 : Array Value} (hw : ∀ d ∈ tables_1, d.before a0 Z = true) (hEL : EW Z a0 EL0) {n0 : Nat} (cds : List Jvm.Cond) (b : Addr) (kb : ClassId) (x0 x1 x2 x3 ccs : Int32) (h0 : Heap) (Vb : Arv Z h0 b kb .char 4 [.int x0, .int x1, .int x2, .int x3] (.int 0)) (hx0 : 0 ≤ x0.toInt ∧ x0.toInt < 65536) (SCS : Sta Z Z.heap "java/lang/String" "COMPACT_STRINGS" "Z" (.int ccs)) (hccs : ¬ ccs = 0) (SAD : Sta Z Z.heap "java/lang/StringUTF16" "$assertionsDisabled" "Z" (.int 1)) (SHI : Sta Z Z.heap "java/lang/StringUTF16" "HI_BYTE_SHIFT" "I" (.int 0)) (SLO : Sta Z Z.heap "java/lang/StringUTF16" "LO_BYTE_SHIFT" "I" (.int 8)) :
    Ct l Z a0 EL0 n0 false true (⟨"com/example/trim_rowkey/trimrowkey/StringFieldEncodePinLaw", "str", "([CI)Ljava/lang/String;"⟩ : MethodName) method_6_code 2 (Option.some (Jvm.ClassFile.FieldType.object "java/lang/String")) cds ({ frames := 6, cells := 4, slots := 17, locals := 88 } : Room) [] #[(.ref b), (.int (1 : Int32))] h0 (Q_str1n Z n0 b kb x0 x1 x2 x3 ccs h0) := by
  refine Ct.of (plainFor_of_name pn_4) hEL ?_
  intro p e s m below meth c T0 W0 hret hnm hs0
  refine Go.cast (ef_RI_2 m b (1 : Int32)) ?_
  show Go p e below _ T0 (mkF m 0 #[.val (.ref b), .val (.int (1 : Int32))] [])
  have lt_b := natlt Vb.lt
  refine s_iloadN W0 d3_0 rfl (pc' := 1) rfl ?_
  refine s_ifne W0 d3_1 (by decide) (pc1 := 15) (by decide) (pc2 := 4) rfl ?_ (fun q => absurd q (by decide))
  intro q1
  refine s_iloadN W0 d3_15 rfl (pc' := 16) rfl ?_
  refine s_iconst W0 d3_16 (v := (1 : Int32)) (by decide) (pc' := 17) rfl ?_
  refine s_icmpne W0 d3_17 (by decide) (pc1 := 37) (by decide) (pc2 := 20) rfl (fun q => absurd q (by decide)) ?_
  intro q17
  refine gNew W0 (w_16 hw) (w_17 hw) (w_18 hw) d3_20 (pc' := 23) rfl (by decide) (by decide) ?_
  intro T1 h1 b1 g1 W1 E1 ⟨A1, D1, U1⟩
  have z1 : h0.size ≤ h1.size := E1.1
  have lt_b1 := natlt A1.lt
  have gg1 := nateq g1
  have n0_b1 : n0 ≤ b1 := by have := W0.n0le; omega
  have F1_value : Fld Z h1 b1 "java/lang/String" "value" "[B" .null := D1 (Or.inr (w_30 hw)) (ty := (.array .byte)) (by decide)
  have F1_coder : Fld Z h1 b1 "java/lang/String" "coder" "B" (.int (0 : Int32)) := D1 (Or.inr (w_31 hw)) (ty := .byte) (by decide)
  refine s_dup W1 d3_23 rfl (pc' := 24) rfl ?_
  refine s_iconst W1 d3_24 (v := (1 : Int32)) (by decide) (pc' := 25) rfl ?_
  refine gNewP (aty := .char) W1 (w_11 hw) (ad := "[C") (by decide +kernel) d3_25 (pc' := 27) rfl (by decide) (cap := 1) (by decide) (by decide) (by decide) (by decide) ?_
  intro T2 h2 b2 g2 W2 E2 ⟨k2, V2, A2⟩
  have z2 : h1.size ≤ h2.size := E2.1
  have lt_b2 := natlt A2.lt
  have gg2 := nateq g2
  have n0_b2 : n0 ≤ b2 := by have := W1.n0le; omega
  have Vp2 : Arv Z h2 b2 k2 .char (1 : Int32) [(.int (0 : Int32))] (.int (0 : Int32)) := Arv.pad V2 (pad_rep [] (.int (0 : Int32)) 1)
  refine s_dup W2 d3_27 rfl (pc' := 28) rfl ?_
  refine s_iconst W2 d3_28 (v := (0 : Int32)) (by decide) (pc' := 29) rfl ?_
  refine s_aloadN W2 d3_29 rfl rfl (pc' := 30) rfl ?_
  refine s_iconst W2 d3_30 (v := (0 : Int32)) (by decide) (pc' := 31) rfl ?_
  have fx3 := ((Vb.ext E1).ext E2)
  refine gLdC W2 fx3 ⟨by decide, by decide⟩ (v := (.int x0)) rfl d3_31 (pc' := 32) rfl ?_
  refine gStC W2 n0_b2 Vp2 ⟨by decide, by decide⟩ (i := 0) (by decide) (show 0 < 1 by decide) d3_32 (pc' := 33) rfl ?_
  intro T4 h4 W4 K4 V4
  replace V4 : Arv Z h4 b2 k2 .char (1 : Int32) [(.int (nar .char x0))] (.int (0 : Int32)) := V4
  have z4 : h2.size ≤ h4.size := K4.1
  have Vc := V4
  rw [nar_wide hx0] at Vc
  have fx5 := ((A1.ext E2).keep K4)
  have fx6 := ((F1_value.ext E2).keep K4 (ninS (ane (by omega)) nin0))
  have fx7 := ((F1_coder.ext E2).keep K4 (ninS (ane (by omega)) nin0))
  refine gSpecial W4 rfl (w_19 hw) (w_20 hw) (w_18 hw) (w_21 hw) (by decide) pd_16 (ct_str1g hw hEL [] b1 b2 k2 (1 : Int32) ccs [x0] h4 (show (1 : Int32).toInt = ((1 : Nat) : Int) by decide) (show 1 ≤ 4 by decide) (by intro c hc; simp only [List.mem_cons, List.not_mem_nil, or_false] at hc; rcases hc with rfl <;> assumption) Vc fx5 fx6 fx7 n0_b1 SCS hccs (by simp) SAD SHI SLO) (fun x hx => by rcases List.mem_singleton.mp hx with rfl; exact List.mem_of_getElem? (i := 1) rfl) d3_33 (pc' := 36) rfl rfl (argsL := [(.ref b2)]) rfl rfl (rest := [(.ref b1)]) rfl (wt := 1) (Nat.le_of_eq rfl) (by decide) (by decide) (by decide) (by decide) ?_
  rintro v8 T8 h8 W8 z8 ⟨rfl, Ks, ds, ks, zzs, Ss, ls, gs⟩
  show Go p e below _ T8 (mkF m 36 #[.val (.ref b), .val (.int (1 : Int32))] [(.ref b1)])
  have lt_ds := natlt Ss.2.2.2.lt
  have gd_s := natle gs
  exact gRetA W8 hret rfl rfl d3_36 (by decide) (by decide) ⟨_, ds, ks, zzs, rfl, (((((Keep.refl h0 []).ext E1).ext E2).trans K4 (allS (Or.inr (natle (by omega))) all0)).trans Ks (allS (Or.inr (natle (by omega))) all0)), natle (by omega), Ss, ls, natle (by omega)⟩
def Q_str2n (Z : State) (n0 : Nat) (b : Addr) (kb : ClassId) (x0 x1 x2 x3 ccs : Int32) (h0 : Heap) (v : Option Value) (h : Heap) : Prop := ∃ a d kd zz, v = some (.ref a) ∧ Keep h0 h [] ∧ h0.size ≤ a ∧ Str Z h a d kd (encC [x0, x1]) zz ((encB [x0, x1]).map Value.int) ∧ zz.toInt = (encB [x0, x1]).length ∧ h0.size ≤ d
set_option maxRecDepth 65536 in
set_option maxHeartbeats 40000000 in
theorem ct_str2n {l : Launch} {Z : State} {a0 : Array Value} (hw : ∀ d ∈ tables_1, d.before a0 Z = true) (hEL : EW Z a0 EL0) {n0 : Nat} (cds : List Jvm.Cond) (b : Addr) (kb : ClassId) (x0 x1 x2 x3 ccs : Int32) (h0 : Heap) (Vb : Arv Z h0 b kb .char 4 [.int x0, .int x1, .int x2, .int x3] (.int 0)) (hx0 : 0 ≤ x0.toInt ∧ x0.toInt < 65536) (hx1 : 0 ≤ x1.toInt ∧ x1.toInt < 65536) (SCS : Sta Z Z.heap "java/lang/String" "COMPACT_STRINGS" "Z" (.int ccs)) (hccs : ¬ ccs = 0) (SAD : Sta Z Z.heap "java/lang/StringUTF16" "$assertionsDisabled" "Z" (.int 1)) (SHI : Sta Z Z.heap "java/lang/StringUTF16" "HI_BYTE_SHIFT" "I" (.int 0)) (SLO : Sta Z Z.heap "java/lang/StringUTF16" "LO_BYTE_SHIFT" "I" (.int 8)) :
    Ct l Z a0 EL0 n0 false true (⟨"com/example/trim_rowkey/trimrowkey/StringFieldEncodePinLaw", "str", "([CI)Ljava/lang/String;"⟩ : MethodName) method_6_code 2 (Option.some (Jvm.ClassFile.FieldType.object "java/lang/String")) cds ({ frames := 6, cells := 4, slots := 18, locals := 88 } : Room) [] #[(.ref b), (.int (2 : Int32))] h0 (Q_str2n Z n0 b kb x0 x1 x2 x3 ccs h0) := by
  refine Ct.of (plainFor_of_name pn_4) hEL ?_
  intro p e s m below meth c T0 W0 hret hnm hs0
  refine Go.cast (ef_RI_2 m b (2 : Int32)) ?_
  show Go p e below _ T0 (mkF m 0 #[.val (.ref b), .val (.int (2 : Int32))] [])
  have lt_b := natlt Vb.lt
  refine s_iloadN W0 d3_0 rfl (pc' := 1) rfl ?_
  refine s_ifne W0 d3_1 (by decide) (pc1 := 15) (by decide) (pc2 := 4) rfl ?_ (fun q => absurd q (by decide))
  intro q1
  refine s_iloadN W0 d3_15 rfl (pc' := 16) rfl ?_
  refine s_iconst W0 d3_16 (v := (1 : Int32)) (by decide) (pc' := 17) rfl ?_
  refine s_icmpne W0 d3_17 (by decide) (pc1 := 37) (by decide) (pc2 := 20) rfl ?_ (fun q => absurd q (by decide))
  intro q17
  refine s_iloadN W0 d3_37 rfl (pc' := 38) rfl ?_
  refine s_iconst W0 d3_38 (v := (2 : Int32)) (by decide) (pc' := 39) rfl ?_
  refine s_icmpne W0 d3_39 (by decide) (pc1 := 65) (by decide) (pc2 := 42) rfl (fun q => absurd q (by decide)) ?_
  intro q39
  refine gNew W0 (w_16 hw) (w_17 hw) (w_18 hw) d3_42 (pc' := 45) rfl (by decide) (by decide) ?_
  intro T1 h1 b1 g1 W1 E1 ⟨A1, D1, U1⟩
  have z1 : h0.size ≤ h1.size := E1.1
  have lt_b1 := natlt A1.lt
  have gg1 := nateq g1
  have n0_b1 : n0 ≤ b1 := by have := W0.n0le; omega
  have F1_value : Fld Z h1 b1 "java/lang/String" "value" "[B" .null := D1 (Or.inr (w_30 hw)) (ty := (.array .byte)) (by decide)
  have F1_coder : Fld Z h1 b1 "java/lang/String" "coder" "B" (.int (0 : Int32)) := D1 (Or.inr (w_31 hw)) (ty := .byte) (by decide)
  refine s_dup W1 d3_45 rfl (pc' := 46) rfl ?_
  refine s_iconst W1 d3_46 (v := (2 : Int32)) (by decide) (pc' := 47) rfl ?_
  refine gNewP (aty := .char) W1 (w_11 hw) (ad := "[C") (by decide +kernel) d3_47 (pc' := 49) rfl (by decide) (cap := 2) (by decide) (by decide) (by decide) (by decide) ?_
  intro T2 h2 b2 g2 W2 E2 ⟨k2, V2, A2⟩
  have z2 : h1.size ≤ h2.size := E2.1
  have lt_b2 := natlt A2.lt
  have gg2 := nateq g2
  have n0_b2 : n0 ≤ b2 := by have := W1.n0le; omega
  have Vp2 : Arv Z h2 b2 k2 .char (2 : Int32) [(.int (0 : Int32)), (.int (0 : Int32))] (.int (0 : Int32)) := Arv.pad V2 (pad_rep [] (.int (0 : Int32)) 2)
  refine s_dup W2 d3_49 rfl (pc' := 50) rfl ?_
  refine s_iconst W2 d3_50 (v := (0 : Int32)) (by decide) (pc' := 51) rfl ?_
  refine s_aloadN W2 d3_51 rfl rfl (pc' := 52) rfl ?_
  refine s_iconst W2 d3_52 (v := (0 : Int32)) (by decide) (pc' := 53) rfl ?_
  have fx3 := ((Vb.ext E1).ext E2)
  refine gLdC W2 fx3 ⟨by decide, by decide⟩ (v := (.int x0)) rfl d3_53 (pc' := 54) rfl ?_
  refine gStC W2 n0_b2 Vp2 ⟨by decide, by decide⟩ (i := 0) (by decide) (show 0 < 2 by decide) d3_54 (pc' := 55) rfl ?_
  intro T4 h4 W4 K4 V4
  replace V4 : Arv Z h4 b2 k2 .char (2 : Int32) [(.int (nar .char x0)), (.int (0 : Int32))] (.int (0 : Int32)) := V4
  have z4 : h2.size ≤ h4.size := K4.1
  refine s_dup W4 d3_55 rfl (pc' := 56) rfl ?_
  refine s_iconst W4 d3_56 (v := (1 : Int32)) (by decide) (pc' := 57) rfl ?_
  refine s_aloadN W4 d3_57 rfl rfl (pc' := 58) rfl ?_
  refine s_iconst W4 d3_58 (v := (1 : Int32)) (by decide) (pc' := 59) rfl ?_
  have fx5 := (fx3.keep K4 (ninS (ane (by omega)) nin0))
  refine gLdC W4 fx5 ⟨by decide, by decide⟩ (v := (.int x1)) rfl d3_59 (pc' := 60) rfl ?_
  refine gStC W4 n0_b2 V4 ⟨by decide, by decide⟩ (i := 1) (by decide) (show 1 < 2 by decide) d3_60 (pc' := 61) rfl ?_
  intro T6 h6 W6 K6 V6
  replace V6 : Arv Z h6 b2 k2 .char (2 : Int32) [(.int (nar .char x0)), (.int (nar .char x1))] (.int (0 : Int32)) := V6
  have z6 : h4.size ≤ h6.size := K6.1
  have Vc := V6
  rw [nar_wide hx0, nar_wide hx1] at Vc
  have fx7 := (((A1.ext E2).keep K4).keep K6)
  have fx8 := (((F1_value.ext E2).keep K4 (ninS (ane (by omega)) nin0)).keep K6 (ninS (ane (by omega)) nin0))
  have fx9 := (((F1_coder.ext E2).keep K4 (ninS (ane (by omega)) nin0)).keep K6 (ninS (ane (by omega)) nin0))
  refine gSpecial W6 rfl (w_19 hw) (w_20 hw) (w_18 hw) (w_21 hw) (by decide) pd_16 (ct_str1g hw hEL [] b1 b2 k2 (2 : Int32) ccs [x0, x1] h6 (show (2 : Int32).toInt = ((2 : Nat) : Int) by decide) (show 2 ≤ 4 by decide) (by intro c hc; simp only [List.mem_cons, List.not_mem_nil, or_false] at hc; rcases hc with rfl | rfl <;> assumption) Vc fx7 fx8 fx9 n0_b1 SCS hccs (by simp) SAD SHI SLO) (fun x hx => by rcases List.mem_singleton.mp hx with rfl; exact List.mem_of_getElem? (i := 1) rfl) d3_61 (pc' := 64) rfl rfl (argsL := [(.ref b2)]) rfl rfl (rest := [(.ref b1)]) rfl (wt := 1) (Nat.le_of_eq rfl) (by decide) (by decide) (by decide) (by decide) ?_
  rintro v10 T10 h10 W10 z10 ⟨rfl, Ks, ds, ks, zzs, Ss, ls, gs⟩
  show Go p e below _ T10 (mkF m 64 #[.val (.ref b), .val (.int (2 : Int32))] [(.ref b1)])
  have lt_ds := natlt Ss.2.2.2.lt
  have gd_s := natle gs
  exact gRetA W10 hret rfl rfl d3_64 (by decide) (by decide) ⟨_, ds, ks, zzs, rfl, ((((((Keep.refl h0 []).ext E1).ext E2).trans K4 (allS (Or.inr (natle (by omega))) all0)).trans K6 (allS (Or.inr (natle (by omega))) all0)).trans Ks (allS (Or.inr (natle (by omega))) all0)), natle (by omega), Ss, ls, natle (by omega)⟩
def Q_str3n (Z : State) (n0 : Nat) (b : Addr) (kb : ClassId) (x0 x1 x2 x3 ccs : Int32) (h0 : Heap) (v : Option Value) (h : Heap) : Prop := ∃ a d kd zz, v = some (.ref a) ∧ Keep h0 h [] ∧ h0.size ≤ a ∧ Str Z h a d kd (encC [x0, x1, x2]) zz ((encB [x0, x1, x2]).map Value.int) ∧ zz.toInt = (encB [x0, x1, x2]).length ∧ h0.size ≤ d
set_option maxRecDepth 65536 in
set_option maxHeartbeats 40000000 in
theorem ct_str3n {l : Launch} {Z : State} {a0 : Array Value} (hw : ∀ d ∈ tables_1, d.before a0 Z = true) (hEL : EW Z a0 EL0) {n0 : Nat} (cds : List Jvm.Cond) (b : Addr) (kb : ClassId) (x0 x1 x2 x3 ccs : Int32) (h0 : Heap) (Vb : Arv Z h0 b kb .char 4 [.int x0, .int x1, .int x2, .int x3] (.int 0)) (hx0 : 0 ≤ x0.toInt ∧ x0.toInt < 65536) (hx1 : 0 ≤ x1.toInt ∧ x1.toInt < 65536) (hx2 : 0 ≤ x2.toInt ∧ x2.toInt < 65536) (SCS : Sta Z Z.heap "java/lang/String" "COMPACT_STRINGS" "Z" (.int ccs)) (hccs : ¬ ccs = 0) (SAD : Sta Z Z.heap "java/lang/StringUTF16" "$assertionsDisabled" "Z" (.int 1)) (SHI : Sta Z Z.heap "java/lang/StringUTF16" "HI_BYTE_SHIFT" "I" (.int 0)) (SLO : Sta Z Z.heap "java/lang/StringUTF16" "LO_BYTE_SHIFT" "I" (.int 8)) :
    Ct l Z a0 EL0 n0 false true (⟨"com/example/trim_rowkey/trimrowkey/StringFieldEncodePinLaw", "str", "([CI)Ljava/lang/String;"⟩ : MethodName) method_6_code 2 (Option.some (Jvm.ClassFile.FieldType.object "java/lang/String")) cds ({ frames := 6, cells := 4, slots := 19, locals := 88 } : Room) [] #[(.ref b), (.int (3 : Int32))] h0 (Q_str3n Z n0 b kb x0 x1 x2 x3 ccs h0) := by
  refine Ct.of (plainFor_of_name pn_4) hEL ?_
  intro p e s m below meth c T0 W0 hret hnm hs0
  refine Go.cast (ef_RI_2 m b (3 : Int32)) ?_
  show Go p e below _ T0 (mkF m 0 #[.val (.ref b), .val (.int (3 : Int32))] [])
  have lt_b := natlt Vb.lt
  refine s_iloadN W0 d3_0 rfl (pc' := 1) rfl ?_
  refine s_ifne W0 d3_1 (by decide) (pc1 := 15) (by decide) (pc2 := 4) rfl ?_ (fun q => absurd q (by decide))
  intro q1
  refine s_iloadN W0 d3_15 rfl (pc' := 16) rfl ?_
  refine s_iconst W0 d3_16 (v := (1 : Int32)) (by decide) (pc' := 17) rfl ?_
  refine s_icmpne W0 d3_17 (by decide) (pc1 := 37) (by decide) (pc2 := 20) rfl ?_ (fun q => absurd q (by decide))
  intro q17
  refine s_iloadN W0 d3_37 rfl (pc' := 38) rfl ?_
  refine s_iconst W0 d3_38 (v := (2 : Int32)) (by decide) (pc' := 39) rfl ?_
  refine s_icmpne W0 d3_39 (by decide) (pc1 := 65) (by decide) (pc2 := 42) rfl ?_ (fun q => absurd q (by decide))
  intro q39
  refine s_iloadN W0 d3_65 rfl (pc' := 66) rfl ?_
  refine s_iconst W0 d3_66 (v := (3 : Int32)) (by decide) (pc' := 67) rfl ?_
  refine s_icmpne W0 d3_67 (by decide) (pc1 := 99) (by decide) (pc2 := 70) rfl (fun q => absurd q (by decide)) ?_
  intro q67
  refine gNew W0 (w_16 hw) (w_17 hw) (w_18 hw) d3_70 (pc' := 73) rfl (by decide) (by decide) ?_
  intro T1 h1 b1 g1 W1 E1 ⟨A1, D1, U1⟩
  have z1 : h0.size ≤ h1.size := E1.1
  have lt_b1 := natlt A1.lt
  have gg1 := nateq g1
  have n0_b1 : n0 ≤ b1 := by have := W0.n0le; omega
  have F1_value : Fld Z h1 b1 "java/lang/String" "value" "[B" .null := D1 (Or.inr (w_30 hw)) (ty := (.array .byte)) (by decide)
  have F1_coder : Fld Z h1 b1 "java/lang/String" "coder" "B" (.int (0 : Int32)) := D1 (Or.inr (w_31 hw)) (ty := .byte) (by decide)
  refine s_dup W1 d3_73 rfl (pc' := 74) rfl ?_
  refine s_iconst W1 d3_74 (v := (3 : Int32)) (by decide) (pc' := 75) rfl ?_
  refine gNewP (aty := .char) W1 (w_11 hw) (ad := "[C") (by decide +kernel) d3_75 (pc' := 77) rfl (by decide) (cap := 3) (by decide) (by decide) (by decide) (by decide) ?_
  intro T2 h2 b2 g2 W2 E2 ⟨k2, V2, A2⟩
  have z2 : h1.size ≤ h2.size := E2.1
  have lt_b2 := natlt A2.lt
  have gg2 := nateq g2
  have n0_b2 : n0 ≤ b2 := by have := W1.n0le; omega
  have Vp2 : Arv Z h2 b2 k2 .char (3 : Int32) [(.int (0 : Int32)), (.int (0 : Int32)), (.int (0 : Int32))] (.int (0 : Int32)) := Arv.pad V2 (pad_rep [] (.int (0 : Int32)) 3)
  refine s_dup W2 d3_77 rfl (pc' := 78) rfl ?_
  refine s_iconst W2 d3_78 (v := (0 : Int32)) (by decide) (pc' := 79) rfl ?_
  refine s_aloadN W2 d3_79 rfl rfl (pc' := 80) rfl ?_
  refine s_iconst W2 d3_80 (v := (0 : Int32)) (by decide) (pc' := 81) rfl ?_
  have fx3 := ((Vb.ext E1).ext E2)
  refine gLdC W2 fx3 ⟨by decide, by decide⟩ (v := (.int x0)) rfl d3_81 (pc' := 82) rfl ?_
  refine gStC W2 n0_b2 Vp2 ⟨by decide, by decide⟩ (i := 0) (by decide) (show 0 < 3 by decide) d3_82 (pc' := 83) rfl ?_
  intro T4 h4 W4 K4 V4
  replace V4 : Arv Z h4 b2 k2 .char (3 : Int32) [(.int (nar .char x0)), (.int (0 : Int32)), (.int (0 : Int32))] (.int (0 : Int32)) := V4
  have z4 : h2.size ≤ h4.size := K4.1
  refine s_dup W4 d3_83 rfl (pc' := 84) rfl ?_
  refine s_iconst W4 d3_84 (v := (1 : Int32)) (by decide) (pc' := 85) rfl ?_
  refine s_aloadN W4 d3_85 rfl rfl (pc' := 86) rfl ?_
  refine s_iconst W4 d3_86 (v := (1 : Int32)) (by decide) (pc' := 87) rfl ?_
  have fx5 := (fx3.keep K4 (ninS (ane (by omega)) nin0))
  refine gLdC W4 fx5 ⟨by decide, by decide⟩ (v := (.int x1)) rfl d3_87 (pc' := 88) rfl ?_
  refine gStC W4 n0_b2 V4 ⟨by decide, by decide⟩ (i := 1) (by decide) (show 1 < 3 by decide) d3_88 (pc' := 89) rfl ?_
  intro T6 h6 W6 K6 V6
  replace V6 : Arv Z h6 b2 k2 .char (3 : Int32) [(.int (nar .char x0)), (.int (nar .char x1)), (.int (0 : Int32))] (.int (0 : Int32)) := V6
  have z6 : h4.size ≤ h6.size := K6.1
  refine s_dup W6 d3_89 rfl (pc' := 90) rfl ?_
  refine s_iconst W6 d3_90 (v := (2 : Int32)) (by decide) (pc' := 91) rfl ?_
  refine s_aloadN W6 d3_91 rfl rfl (pc' := 92) rfl ?_
  refine s_iconst W6 d3_92 (v := (2 : Int32)) (by decide) (pc' := 93) rfl ?_
  have fx7 := (fx5.keep K6 (ninS (ane (by omega)) nin0))
  refine gLdC W6 fx7 ⟨by decide, by decide⟩ (v := (.int x2)) rfl d3_93 (pc' := 94) rfl ?_
  refine gStC W6 n0_b2 V6 ⟨by decide, by decide⟩ (i := 2) (by decide) (show 2 < 3 by decide) d3_94 (pc' := 95) rfl ?_
  intro T8 h8 W8 K8 V8
  replace V8 : Arv Z h8 b2 k2 .char (3 : Int32) [(.int (nar .char x0)), (.int (nar .char x1)), (.int (nar .char x2))] (.int (0 : Int32)) := V8
  have z8 : h6.size ≤ h8.size := K8.1
  have Vc := V8
  rw [nar_wide hx0, nar_wide hx1, nar_wide hx2] at Vc
  have fx9 := ((((A1.ext E2).keep K4).keep K6).keep K8)
  have fx10 := ((((F1_value.ext E2).keep K4 (ninS (ane (by omega)) nin0)).keep K6 (ninS (ane (by omega)) nin0)).keep K8 (ninS (ane (by omega)) nin0))
  have fx11 := ((((F1_coder.ext E2).keep K4 (ninS (ane (by omega)) nin0)).keep K6 (ninS (ane (by omega)) nin0)).keep K8 (ninS (ane (by omega)) nin0))
  refine gSpecial W8 rfl (w_19 hw) (w_20 hw) (w_18 hw) (w_21 hw) (by decide) pd_16 (ct_str1g hw hEL [] b1 b2 k2 (3 : Int32) ccs [x0, x1, x2] h8 (show (3 : Int32).toInt = ((3 : Nat) : Int) by decide) (show 3 ≤ 4 by decide) (by intro c hc; simp only [List.mem_cons, List.not_mem_nil, or_false] at hc; rcases hc with rfl | rfl | rfl <;> assumption) Vc fx9 fx10 fx11 n0_b1 SCS hccs (by simp) SAD SHI SLO) (fun x hx => by rcases List.mem_singleton.mp hx with rfl; exact List.mem_of_getElem? (i := 1) rfl) d3_95 (pc' := 98) rfl rfl (argsL := [(.ref b2)]) rfl rfl (rest := [(.ref b1)]) rfl (wt := 1) (Nat.le_of_eq rfl) (by decide) (by decide) (by decide) (by decide) ?_
  rintro v12 T12 h12 W12 z12 ⟨rfl, Ks, ds, ks, zzs, Ss, ls, gs⟩
  show Go p e below _ T12 (mkF m 98 #[.val (.ref b), .val (.int (3 : Int32))] [(.ref b1)])
  have lt_ds := natlt Ss.2.2.2.lt
  have gd_s := natle gs
  exact gRetA W12 hret rfl rfl d3_98 (by decide) (by decide) ⟨_, ds, ks, zzs, rfl, (((((((Keep.refl h0 []).ext E1).ext E2).trans K4 (allS (Or.inr (natle (by omega))) all0)).trans K6 (allS (Or.inr (natle (by omega))) all0)).trans K8 (allS (Or.inr (natle (by omega))) all0)).trans Ks (allS (Or.inr (natle (by omega))) all0)), natle (by omega), Ss, ls, natle (by omega)⟩
def Q_str4n (Z : State) (n0 : Nat) (b : Addr) (kb : ClassId) (x0 x1 x2 x3 ccs : Int32) (h0 : Heap) (v : Option Value) (h : Heap) : Prop := ∃ a d kd zz, v = some (.ref a) ∧ Keep h0 h [] ∧ h0.size ≤ a ∧ Str Z h a d kd (encC [x0, x1, x2, x3]) zz ((encB [x0, x1, x2, x3]).map Value.int) ∧ zz.toInt = (encB [x0, x1, x2, x3]).length ∧ h0.size ≤ d
set_option maxRecDepth 65536 in
set_option maxHeartbeats 40000000 in
theorem ct_str4n {l : Launch} {Z : State} {a0 : Array Value} (hw : ∀ d ∈ tables_1, d.before a0 Z = true) (hEL : EW Z a0 EL0) {n0 : Nat} (cds : List Jvm.Cond) (b : Addr) (kb : ClassId) (x0 x1 x2 x3 ccs : Int32) (h0 : Heap) (Vb : Arv Z h0 b kb .char 4 [.int x0, .int x1, .int x2, .int x3] (.int 0)) (hx0 : 0 ≤ x0.toInt ∧ x0.toInt < 65536) (hx1 : 0 ≤ x1.toInt ∧ x1.toInt < 65536) (hx2 : 0 ≤ x2.toInt ∧ x2.toInt < 65536) (hx3 : 0 ≤ x3.toInt ∧ x3.toInt < 65536) (SCS : Sta Z Z.heap "java/lang/String" "COMPACT_STRINGS" "Z" (.int ccs)) (hccs : ¬ ccs = 0) (SAD : Sta Z Z.heap "java/lang/StringUTF16" "$assertionsDisabled" "Z" (.int 1)) (SHI : Sta Z Z.heap "java/lang/StringUTF16" "HI_BYTE_SHIFT" "I" (.int 0)) (SLO : Sta Z Z.heap "java/lang/StringUTF16" "LO_BYTE_SHIFT" "I" (.int 8)) :
    Ct l Z a0 EL0 n0 false true (⟨"com/example/trim_rowkey/trimrowkey/StringFieldEncodePinLaw", "str", "([CI)Ljava/lang/String;"⟩ : MethodName) method_6_code 2 (Option.some (Jvm.ClassFile.FieldType.object "java/lang/String")) cds ({ frames := 6, cells := 4, slots := 20, locals := 88 } : Room) [] #[(.ref b), (.int (4 : Int32))] h0 (Q_str4n Z n0 b kb x0 x1 x2 x3 ccs h0) := by
  refine Ct.of (plainFor_of_name pn_4) hEL ?_
  intro p e s m below meth c T0 W0 hret hnm hs0
  refine Go.cast (ef_RI_2 m b (4 : Int32)) ?_
  show Go p e below _ T0 (mkF m 0 #[.val (.ref b), .val (.int (4 : Int32))] [])
  have lt_b := natlt Vb.lt
  refine s_iloadN W0 d3_0 rfl (pc' := 1) rfl ?_
  refine s_ifne W0 d3_1 (by decide) (pc1 := 15) (by decide) (pc2 := 4) rfl ?_ (fun q => absurd q (by decide))
  intro q1
  refine s_iloadN W0 d3_15 rfl (pc' := 16) rfl ?_
  refine s_iconst W0 d3_16 (v := (1 : Int32)) (by decide) (pc' := 17) rfl ?_
  refine s_icmpne W0 d3_17 (by decide) (pc1 := 37) (by decide) (pc2 := 20) rfl ?_ (fun q => absurd q (by decide))
  intro q17
  refine s_iloadN W0 d3_37 rfl (pc' := 38) rfl ?_
  refine s_iconst W0 d3_38 (v := (2 : Int32)) (by decide) (pc' := 39) rfl ?_
  refine s_icmpne W0 d3_39 (by decide) (pc1 := 65) (by decide) (pc2 := 42) rfl ?_ (fun q => absurd q (by decide))
  intro q39
  refine s_iloadN W0 d3_65 rfl (pc' := 66) rfl ?_
  refine s_iconst W0 d3_66 (v := (3 : Int32)) (by decide) (pc' := 67) rfl ?_
  refine s_icmpne W0 d3_67 (by decide) (pc1 := 99) (by decide) (pc2 := 70) rfl ?_ (fun q => absurd q (by decide))
  intro q67
  refine gNew W0 (w_16 hw) (w_17 hw) (w_18 hw) d3_99 (pc' := 102) rfl (by decide) (by decide) ?_
  intro T1 h1 b1 g1 W1 E1 ⟨A1, D1, U1⟩
  have z1 : h0.size ≤ h1.size := E1.1
  have lt_b1 := natlt A1.lt
  have gg1 := nateq g1
  have n0_b1 : n0 ≤ b1 := by have := W0.n0le; omega
  have F1_value : Fld Z h1 b1 "java/lang/String" "value" "[B" .null := D1 (Or.inr (w_30 hw)) (ty := (.array .byte)) (by decide)
  have F1_coder : Fld Z h1 b1 "java/lang/String" "coder" "B" (.int (0 : Int32)) := D1 (Or.inr (w_31 hw)) (ty := .byte) (by decide)
  refine s_dup W1 d3_102 rfl (pc' := 103) rfl ?_
  refine s_iconst W1 d3_103 (v := (4 : Int32)) (by decide) (pc' := 104) rfl ?_
  refine gNewP (aty := .char) W1 (w_11 hw) (ad := "[C") (by decide +kernel) d3_104 (pc' := 106) rfl (by decide) (cap := 4) (by decide) (by decide) (by decide) (by decide) ?_
  intro T2 h2 b2 g2 W2 E2 ⟨k2, V2, A2⟩
  have z2 : h1.size ≤ h2.size := E2.1
  have lt_b2 := natlt A2.lt
  have gg2 := nateq g2
  have n0_b2 : n0 ≤ b2 := by have := W1.n0le; omega
  have Vp2 : Arv Z h2 b2 k2 .char (4 : Int32) [(.int (0 : Int32)), (.int (0 : Int32)), (.int (0 : Int32)), (.int (0 : Int32))] (.int (0 : Int32)) := Arv.pad V2 (pad_rep [] (.int (0 : Int32)) 4)
  refine s_dup W2 d3_106 rfl (pc' := 107) rfl ?_
  refine s_iconst W2 d3_107 (v := (0 : Int32)) (by decide) (pc' := 108) rfl ?_
  refine s_aloadN W2 d3_108 rfl rfl (pc' := 109) rfl ?_
  refine s_iconst W2 d3_109 (v := (0 : Int32)) (by decide) (pc' := 110) rfl ?_
  have fx3 := ((Vb.ext E1).ext E2)
  refine gLdC W2 fx3 ⟨by decide, by decide⟩ (v := (.int x0)) rfl d3_110 (pc' := 111) rfl ?_
  refine gStC W2 n0_b2 Vp2 ⟨by decide, by decide⟩ (i := 0) (by decide) (show 0 < 4 by decide) d3_111 (pc' := 112) rfl ?_
  intro T4 h4 W4 K4 V4
  replace V4 : Arv Z h4 b2 k2 .char (4 : Int32) [(.int (nar .char x0)), (.int (0 : Int32)), (.int (0 : Int32)), (.int (0 : Int32))] (.int (0 : Int32)) := V4
  have z4 : h2.size ≤ h4.size := K4.1
  refine s_dup W4 d3_112 rfl (pc' := 113) rfl ?_
  refine s_iconst W4 d3_113 (v := (1 : Int32)) (by decide) (pc' := 114) rfl ?_
  refine s_aloadN W4 d3_114 rfl rfl (pc' := 115) rfl ?_
  refine s_iconst W4 d3_115 (v := (1 : Int32)) (by decide) (pc' := 116) rfl ?_
  have fx5 := (fx3.keep K4 (ninS (ane (by omega)) nin0))
  refine gLdC W4 fx5 ⟨by decide, by decide⟩ (v := (.int x1)) rfl d3_116 (pc' := 117) rfl ?_
  refine gStC W4 n0_b2 V4 ⟨by decide, by decide⟩ (i := 1) (by decide) (show 1 < 4 by decide) d3_117 (pc' := 118) rfl ?_
  intro T6 h6 W6 K6 V6
  replace V6 : Arv Z h6 b2 k2 .char (4 : Int32) [(.int (nar .char x0)), (.int (nar .char x1)), (.int (0 : Int32)), (.int (0 : Int32))] (.int (0 : Int32)) := V6
  have z6 : h4.size ≤ h6.size := K6.1
  refine s_dup W6 d3_118 rfl (pc' := 119) rfl ?_
  refine s_iconst W6 d3_119 (v := (2 : Int32)) (by decide) (pc' := 120) rfl ?_
  refine s_aloadN W6 d3_120 rfl rfl (pc' := 121) rfl ?_
  refine s_iconst W6 d3_121 (v := (2 : Int32)) (by decide) (pc' := 122) rfl ?_
  have fx7 := (fx5.keep K6 (ninS (ane (by omega)) nin0))
  refine gLdC W6 fx7 ⟨by decide, by decide⟩ (v := (.int x2)) rfl d3_122 (pc' := 123) rfl ?_
  refine gStC W6 n0_b2 V6 ⟨by decide, by decide⟩ (i := 2) (by decide) (show 2 < 4 by decide) d3_123 (pc' := 124) rfl ?_
  intro T8 h8 W8 K8 V8
  replace V8 : Arv Z h8 b2 k2 .char (4 : Int32) [(.int (nar .char x0)), (.int (nar .char x1)), (.int (nar .char x2)), (.int (0 : Int32))] (.int (0 : Int32)) := V8
  have z8 : h6.size ≤ h8.size := K8.1
  refine s_dup W8 d3_124 rfl (pc' := 125) rfl ?_
  refine s_iconst W8 d3_125 (v := (3 : Int32)) (by decide) (pc' := 126) rfl ?_
  refine s_aloadN W8 d3_126 rfl rfl (pc' := 127) rfl ?_
  refine s_iconst W8 d3_127 (v := (3 : Int32)) (by decide) (pc' := 128) rfl ?_
  have fx9 := (fx7.keep K8 (ninS (ane (by omega)) nin0))
  refine gLdC W8 fx9 ⟨by decide, by decide⟩ (v := (.int x3)) rfl d3_128 (pc' := 129) rfl ?_
  refine gStC W8 n0_b2 V8 ⟨by decide, by decide⟩ (i := 3) (by decide) (show 3 < 4 by decide) d3_129 (pc' := 130) rfl ?_
  intro T10 h10 W10 K10 V10
  replace V10 : Arv Z h10 b2 k2 .char (4 : Int32) [(.int (nar .char x0)), (.int (nar .char x1)), (.int (nar .char x2)), (.int (nar .char x3))] (.int (0 : Int32)) := V10
  have z10 : h8.size ≤ h10.size := K10.1
  have Vc := V10
  rw [nar_wide hx0, nar_wide hx1, nar_wide hx2, nar_wide hx3] at Vc
  have fx11 := (((((A1.ext E2).keep K4).keep K6).keep K8).keep K10)
  have fx12 := (((((F1_value.ext E2).keep K4 (ninS (ane (by omega)) nin0)).keep K6 (ninS (ane (by omega)) nin0)).keep K8 (ninS (ane (by omega)) nin0)).keep K10 (ninS (ane (by omega)) nin0))
  have fx13 := (((((F1_coder.ext E2).keep K4 (ninS (ane (by omega)) nin0)).keep K6 (ninS (ane (by omega)) nin0)).keep K8 (ninS (ane (by omega)) nin0)).keep K10 (ninS (ane (by omega)) nin0))
  refine gSpecial W10 rfl (w_19 hw) (w_20 hw) (w_18 hw) (w_21 hw) (by decide) pd_16 (ct_str1g hw hEL [] b1 b2 k2 (4 : Int32) ccs [x0, x1, x2, x3] h10 (show (4 : Int32).toInt = ((4 : Nat) : Int) by decide) (show 4 ≤ 4 by decide) (by intro c hc; simp only [List.mem_cons, List.not_mem_nil, or_false] at hc; rcases hc with rfl | rfl | rfl | rfl <;> assumption) Vc fx11 fx12 fx13 n0_b1 SCS hccs (by simp) SAD SHI SLO) (fun x hx => by rcases List.mem_singleton.mp hx with rfl; exact List.mem_of_getElem? (i := 1) rfl) d3_130 (pc' := 133) rfl rfl (argsL := [(.ref b2)]) rfl rfl (rest := [(.ref b1)]) rfl (wt := 1) (Nat.le_of_eq rfl) (by decide) (by decide) (by decide) (by decide) ?_
  rintro v14 T14 h14 W14 z14 ⟨rfl, Ks, ds, ks, zzs, Ss, ls, gs⟩
  show Go p e below _ T14 (mkF m 133 #[.val (.ref b), .val (.int (4 : Int32))] [(.ref b1)])
  have lt_ds := natlt Ss.2.2.2.lt
  have gd_s := natle gs
  exact gRetA W14 hret rfl rfl d3_133 (by decide) (by decide) ⟨_, ds, ks, zzs, rfl, ((((((((Keep.refl h0 []).ext E1).ext E2).trans K4 (allS (Or.inr (natle (by omega))) all0)).trans K6 (allS (Or.inr (natle (by omega))) all0)).trans K8 (allS (Or.inr (natle (by omega))) all0)).trans K10 (allS (Or.inr (natle (by omega))) all0)).trans Ks (allS (Or.inr (natle (by omega))) all0)), natle (by omega), Ss, ls, natle (by omega)⟩
def Q_str0n (Z : State) (n0 : Nat) (b : Addr) (h0 : Heap) (v : Option Value) (h : Heap) : Prop := ∃ a d kd, v = some (.ref a) ∧ Keep h0 h [] ∧ Str Z h a d kd 0 0 []
set_option maxRecDepth 65536 in
set_option maxHeartbeats 40000000 in
theorem ct_str0n {l : Launch} {Z : State} {a0 : Array Value} (hw : ∀ d ∈ tables_1, d.before a0 Z = true) (hEL : EW Z a0 EL0) {n0 : Nat} (cds : List Jvm.Cond) (b : Addr) (h0 : Heap)  :
    Ct l Z a0 EL0 n0 false true (⟨"com/example/trim_rowkey/trimrowkey/StringFieldEncodePinLaw", "str", "([CI)Ljava/lang/String;"⟩ : MethodName) method_6_code 2 (Option.some (Jvm.ClassFile.FieldType.object "java/lang/String")) cds ({ frames := 3, cells := 6, slots := 12, locals := 43 } : Room) [] #[(.ref b), (.int (0 : Int32))] h0 (Q_str0n Z n0 b h0) := by
  refine Ct.of (plainFor_of_name pn_4) hEL ?_
  intro p e s m below meth c T0 W0 hret hnm hs0
  refine Go.cast (ef_RI_2 m b (0 : Int32)) ?_
  show Go p e below _ T0 (mkF m 0 #[.val (.ref b), .val (.int (0 : Int32))] [])
  refine s_iloadN W0 d3_0 rfl (pc' := 1) rfl ?_
  refine s_ifne W0 d3_1 (by decide) (pc1 := 15) (by decide) (pc2 := 4) rfl (fun q => absurd q (by decide)) ?_
  intro q1
  refine gNew W0 (w_16 hw) (w_17 hw) (w_18 hw) d3_4 (pc' := 7) rfl (by decide) (by decide) ?_
  intro T1 h1 b1 g1 W1 E1 ⟨A1, D1, U1⟩
  have z1 : h0.size ≤ h1.size := E1.1
  have lt_b1 := natlt A1.lt
  have gg1 := nateq g1
  have n0_b1 : n0 ≤ b1 := by have := W0.n0le; omega
  have F1_value : Fld Z h1 b1 "java/lang/String" "value" "[B" .null := D1 (Or.inr (w_30 hw)) (ty := (.array .byte)) (by decide)
  have F1_coder : Fld Z h1 b1 "java/lang/String" "coder" "B" (.int (0 : Int32)) := D1 (Or.inr (w_31 hw)) (ty := .byte) (by decide)
  refine s_dup W1 d3_7 rfl (pc' := 8) rfl ?_
  refine s_iconst W1 d3_8 (v := (0 : Int32)) (by decide) (pc' := 9) rfl ?_
  refine gNewP (aty := .char) W1 (w_11 hw) (ad := "[C") (by decide +kernel) d3_9 (pc' := 11) rfl (by decide) (cap := 0) (by decide) (by decide) (by decide) (by decide) ?_
  intro T2 h2 b2 g2 W2 E2 ⟨k2, V2, A2⟩
  have z2 : h1.size ≤ h2.size := E2.1
  have lt_b2 := natlt A2.lt
  have gg2 := nateq g2
  have n0_b2 : n0 ≤ b2 := by have := W1.n0le; omega
  have Vp2 : Arv Z h2 b2 k2 .char (0 : Int32) [] (.int (0 : Int32)) := V2
  have fx3 := (A1.ext E2)
  have fx4 := (F1_value.ext E2)
  have fx5 := (F1_coder.ext E2)
  refine gSpecial W2 rfl (w_19 hw) (w_20 hw) (w_18 hw) (w_21 hw) (by decide) pd_16 (ct_str1e hw hEL [] b1 b2 k2 h2 Vp2 fx3 fx4 fx5 n0_b1) (fun x hx => by rcases List.mem_singleton.mp hx with rfl; exact List.mem_of_getElem? (i := 1) rfl) d3_11 (pc' := 14) rfl rfl (argsL := [(.ref b2)]) rfl rfl (rest := [(.ref b1)]) rfl (wt := 1) (Nat.le_of_eq rfl) (by decide) (by decide) (by decide) (by decide) ?_
  rintro v6 T6 h6 W6 z6 ⟨rfl, K, ds, ks, Ss⟩
  show Go p e below _ T6 (mkF m 14 #[.val (.ref b), .val (.int (0 : Int32))] [(.ref b1)])
  exact gRetA W6 hret rfl rfl d3_14 (by decide) (by decide) ⟨_, ds, ks, rfl, ((((Keep.refl h0 []).ext E1).ext E2).trans K (allS (Or.inr (natle (by omega))) all0)), Ss⟩
def Q_finit (Z : State) (n0 : Nat) (a sx : Addr) (ww : Int32) (h0 : Heap) (v : Option Value) (h : Heap) : Prop := v = none ∧ Keep h0 h [a] ∧ Exa Z h a "com/example/trim_rowkey/trimrowkey/StringField" ∧ Fld Z h a "com/example/trim_rowkey/trimrowkey/Field" "width" "I" (.int ww)
set_option maxRecDepth 65536 in
set_option maxHeartbeats 40000000 in
theorem ct_finit {l : Launch} {Z : State} {a0 : Array Value} (hw : ∀ d ∈ tables_1, d.before a0 Z = true) (hEL : EW Z a0 EL0) {n0 : Nat} (cds : List Jvm.Cond) (a sx : Addr) (ww : Int32) (h0 : Heap) (Ea : Exa Z h0 a "com/example/trim_rowkey/trimrowkey/StringField") (Fname : Fld Z h0 a "com/example/trim_rowkey/trimrowkey/Field" "name" "Ljava/lang/String;" .null) (Fwidth : Fld Z h0 a "com/example/trim_rowkey/trimrowkey/Field" "width" "I" (.int 0)) (n0_a : n0 ≤ a) :
    Ct l Z a0 EL0 n0 false true (⟨"com/example/trim_rowkey/trimrowkey/Field", "<init>", "(Ljava/lang/String;I)V"⟩ : MethodName) prog_3_method_1_code 3 (Option.none : Option Jvm.ClassFile.FieldType) cds ({ frames := 1, cells := 0, slots := 0, locals := 12 } : Room) [] #[(.ref a), (.ref sx), (.int ww)] h0 (Q_finit Z n0 a sx ww h0) := by
  refine Ct.of (plainFor_of_name pn_5) hEL ?_
  intro p e s m below meth c T0 W0 hret hnm hs0
  refine Go.cast (ef_RRI_3 m a sx ww) ?_
  show Go p e below _ T0 (mkF m 0 #[.val (.ref a), .val (.ref sx), .val (.int ww)] [])
  have lt_a := natlt Ea.lt
  refine s_aloadN W0 d8_0 rfl rfl (pc' := 1) rfl ?_
  refine gInitO W0 (w_48 hw) (w_27 hw) (w_28 hw) d8_1 (pc' := 4) rfl rfl (by decide) (wt := 0) (Nat.le_of_eq rfl) (by decide) ?_
  intro T1 W1
  refine s_aloadN W1 d8_4 rfl rfl (pc' := 5) rfl ?_
  refine s_aloadN W1 d8_5 rfl rfl (pc' := 6) rfl ?_
  refine gPutF W1 n0_a (Or.inr (Or.inr (Or.inl ⟨_, Ea, by decide, by decide⟩))) (host := "") (Or.inl (w_49 hw)) Via.refl Fname Ea (Or.inr ⟨(w_50 hw), rfl, hnm⟩) (w_37 hw) (ty := (.object "java/lang/String")) (by decide) rfl rfl d8_6 (pc' := 9) rfl ?_
  intro T2 h2 W2 Wr2
  have Fw2 := Fname.same Wr2
  have z2 : h0.size ≤ h2.size := Nat.le_of_eq Wr2.size.symm
  refine s_aloadN W2 d8_9 rfl rfl (pc' := 10) rfl ?_
  refine s_iloadN W2 d8_10 rfl (pc' := 11) rfl ?_
  have fx4 := (Fwidth.other Wr2 (Or.inr (slot_ne (Or.inr (w_52 hw)) (Or.inr (w_50 hw)) (by decide) (t := .int) (t' := (.object "java/lang/String")) (by decide) (by decide))))
  have fx5 := (Ea.wr Wr2)
  refine gPutF W2 n0_a (Or.inr (Or.inr (Or.inl ⟨_, fx5, by decide, by decide⟩))) (host := "") (Or.inl (w_51 hw)) Via.refl fx4 fx5 (Or.inr ⟨(w_52 hw), rfl, hnm⟩) (w_37 hw) (ty := .int) (by decide) rfl rfl d8_11 (pc' := 14) rfl ?_
  intro T3 h3 W3 Wr3
  have Fw3 := fx4.same Wr3
  have z3 : h2.size ≤ h3.size := Nat.le_of_eq Wr3.size.symm
  have fx6 := (fx5.wr Wr3)
  exact gRetV W3 hret d8_14 (by decide) (by decide) ⟨rfl, (((Keep.refl h0 [a]).wr Wr2 (Or.inl (by simp))).wr Wr3 (Or.inl (by simp))), fx6, Fw3⟩
def Q_sfinit (Z : State) (n0 : Nat) (a sx : Addr) (ww : Int32) (h0 : Heap) (v : Option Value) (h : Heap) : Prop := v = none ∧ Keep h0 h [a] ∧ Exa Z h a "com/example/trim_rowkey/trimrowkey/StringField" ∧ Fld Z h a "com/example/trim_rowkey/trimrowkey/Field" "width" "I" (.int ww)
set_option maxRecDepth 65536 in
set_option maxHeartbeats 40000000 in
theorem ct_sfinit {l : Launch} {Z : State} {a0 : Array Value} (hw : ∀ d ∈ tables_1, d.before a0 Z = true) (hEL : EW Z a0 EL0) {n0 : Nat} (cds : List Jvm.Cond) (a sx : Addr) (ww : Int32) (h0 : Heap) (Ea : Exa Z h0 a "com/example/trim_rowkey/trimrowkey/StringField") (Fname : Fld Z h0 a "com/example/trim_rowkey/trimrowkey/Field" "name" "Ljava/lang/String;" .null) (Fwidth : Fld Z h0 a "com/example/trim_rowkey/trimrowkey/Field" "width" "I" (.int 0)) (n0_a : n0 ≤ a) :
    Ct l Z a0 EL0 n0 false true (⟨"com/example/trim_rowkey/trimrowkey/StringField", "<init>", "(Ljava/lang/String;I)V"⟩ : MethodName) prog_9_method_1_code 3 (Option.none : Option Jvm.ClassFile.FieldType) cds ({ frames := 2, cells := 0, slots := 0, locals := 26 } : Room) [] #[(.ref a), (.ref sx), (.int ww)] h0 (Q_sfinit Z n0 a sx ww h0) := by
  refine Ct.of (plainFor_of_name pn_6) hEL ?_
  intro p e s m below meth c T0 W0 hret hnm hs0
  refine Go.cast (ef_RRI_3 m a sx ww) ?_
  show Go p e below _ T0 (mkF m 0 #[.val (.ref a), .val (.ref sx), .val (.int ww)] [])
  refine s_aloadN W0 d7_0 rfl rfl (pc' := 1) rfl ?_
  refine s_aloadN W0 d7_1 rfl rfl (pc' := 2) rfl ?_
  refine s_iloadN W0 d7_2 rfl (pc' := 3) rfl ?_
  refine gSpecial W0 rfl (w_43 hw) (w_44 hw) (w_46 hw) (w_47 hw) (by decide) pd_17 (ct_finit hw hEL [] a sx ww h0 Ea Fname Fwidth n0_a) (by simp) d7_3 (pc' := 6) rfl rfl (argsL := [(.ref sx), (.int ww)]) rfl rfl (rest := []) rfl (wt := 0) (Nat.le_of_eq rfl) (by decide) (by decide) (by decide) (by decide) ?_
  rintro v1 T1 h1 W1 z1 ⟨rfl, K, Q⟩
  show Go p e below _ T1 (mkF m 6 #[.val (.ref a), .val (.ref sx), .val (.int ww)] [])
  exact gRetV W1 hret d7_6 (by decide) (by decide) ⟨rfl, K, Q⟩
def Q_width (Z : State) (n0 : Nat) (a : Addr) (ww : Int32) (h0 : Heap) (v : Option Value) (h : Heap) : Prop := v = some (.int ww) ∧ h0 = h
set_option maxRecDepth 65536 in
set_option maxHeartbeats 40000000 in
theorem ct_width {l : Launch} {Z : State} {a0 : Array Value} (hw : ∀ d ∈ tables_1, d.before a0 Z = true) (hEL : EW Z a0 EL0) {n0 : Nat} (cds : List Jvm.Cond) (a : Addr) (ww : Int32) (h0 : Heap) (Fa : Fld Z h0 a "com/example/trim_rowkey/trimrowkey/Field" "width" "I" (.int ww)) :
    Ct l Z a0 EL0 n0 false true (⟨"com/example/trim_rowkey/trimrowkey/Field", "width", "()I"⟩ : MethodName) prog_3_method_3_code 1 (Option.some Jvm.ClassFile.FieldType.int) cds ({ frames := 0, cells := 0, slots := 0, locals := 0 } : Room) [] #[(.ref a)] h0 (Q_width Z n0 a ww h0) := by
  refine Ct.of (plainFor_of_name pn_5) hEL ?_
  intro p e s m below meth c T0 W0 hret hnm hs0
  refine Go.cast (ef_R_1 m a) ?_
  show Go p e below _ T0 (mkF m 0 #[.val (.ref a)] [])
  refine s_aloadN W0 d10_0 rfl rfl (pc' := 1) rfl ?_
  refine gGetF W0 (host := "") (Or.inl (w_51 hw)) Via.refl Fa d10_1 (pc' := 4) rfl ?_
  intro T1 W1
  exact gRetI W1 hret d10_4 (by decide) (by decide) ⟨rfl, rfl⟩
def Q_usz (Z : State) (n0 : Nat) (cx : Int32) (h0 : Heap) (v : Option Value) (h : Heap) : Prop := v = some (.int (Int32.ofNat (usz cx))) ∧ h0 = h
set_option maxRecDepth 65536 in
set_option maxHeartbeats 40000000 in
theorem ct_usz {l : Launch} {Z : State} {a0 : Array Value} (hw : ∀ d ∈ tables_1, d.before a0 Z = true) (hEL : EW Z a0 EL0) {n0 : Nat} (cds : List Jvm.Cond) (cx : Int32) (h0 : Heap)  :
    Ct l Z a0 EL0 n0 false true (⟨"com/example/trim_rowkey/trimrowkey/StringField", "utf8Size", "(I)I"⟩ : MethodName) prog_9_method_4_code 2 (Option.some Jvm.ClassFile.FieldType.int) cds ({ frames := 0, cells := 0, slots := 0, locals := 0 } : Room) [] #[(.int cx)] h0 (Q_usz Z n0 cx h0) := by
  refine Ct.of (plainFor_of_name pn_6) hEL ?_
  intro p e s m below meth c T0 W0 hret hnm hs0
  refine Go.cast (ef_I_2 m cx) ?_
  show Go p e below _ T0 (mkF m 0 #[.val (.int cx), .unset] [])
  refine s_iloadN W0 d23_0 rfl (pc' := 1) rfl ?_
  refine s_sipush W0 d23_1 (v := (128 : Int32)) (by decide) (pc' := 4) rfl ?_
  refine s_icmpge W0 d23_4 (by decide) (pc1 := 12) (by decide) (pc2 := 7) rfl ?_ ?_
  · intro q4
    have r4 : ¬ cx.toInt < 128 := fun q => q4 (lt32 (by rw [show (128 : Int32).toInt = 128 from by decide]; exact q))
    refine s_iloadN W0 d23_12 rfl (pc' := 13) rfl ?_
    refine s_sipush W0 d23_13 (v := (2048 : Int32)) (by decide) (pc' := 16) rfl ?_
    refine s_icmpge W0 d23_16 (by decide) (pc1 := 24) (by decide) (pc2 := 19) rfl ?_ ?_
    · intro q16
      have r16 : ¬ cx.toInt < 2048 := fun q => q16 (lt32 (by rw [show (2048 : Int32).toInt = 2048 from by decide]; exact q))
      refine s_iloadN W0 d23_24 rfl (pc' := 25) rfl ?_
      refine s_ldcI W0 (w_164 hw) d23_25 (pc' := 27) rfl ?_
      refine s_icmpge W0 d23_27 (by decide) (pc1 := 35) (by decide) (pc2 := 30) rfl ?_ ?_
      · intro q27
        have r27 : ¬ cx.toInt < 65536 := fun q => q27 (lt32 (by rw [show (65536 : Int32).toInt = 65536 from by decide]; exact q))
        refine s_iconst W0 d23_35 (v := (4 : Int32)) (by decide) (pc' := 36) rfl ?_
        refine s_istoreN W0 d23_36 (l' := #[.val (.int cx), .val (.int (4 : Int32))]) rfl (pc' := 37) rfl ?_
        refine s_iloadN W0 d23_37 rfl (pc' := 38) rfl ?_
        exact gRetI W0 hret d23_38 (by decide) (by decide) ⟨by rw [show usz cx = _ from by unfold usz; rw [if_neg r4, if_neg r16, if_neg r27]]; rfl, rfl⟩
      · intro q27
        have r27 : cx.toInt < 65536 := by have := Int32.lt_iff_toInt_lt.mp q27; rw [show (65536 : Int32).toInt = 65536 from by decide] at this; exact this
        refine s_iconst W0 d23_30 (v := (3 : Int32)) (by decide) (pc' := 31) rfl ?_
        refine s_istoreN W0 d23_31 (l' := #[.val (.int cx), .val (.int (3 : Int32))]) rfl (pc' := 32) rfl ?_
        refine s_goto W0 d23_32 (by decide) (pc' := 37) (by decide) ?_
        refine s_iloadN W0 d23_37 rfl (pc' := 38) rfl ?_
        exact gRetI W0 hret d23_38 (by decide) (by decide) ⟨by rw [show usz cx = _ from by unfold usz; rw [if_neg r4, if_neg r16, if_pos r27]]; rfl, rfl⟩
    · intro q16
      have r16 : cx.toInt < 2048 := by have := Int32.lt_iff_toInt_lt.mp q16; rw [show (2048 : Int32).toInt = 2048 from by decide] at this; exact this
      refine s_iconst W0 d23_19 (v := (2 : Int32)) (by decide) (pc' := 20) rfl ?_
      refine s_istoreN W0 d23_20 (l' := #[.val (.int cx), .val (.int (2 : Int32))]) rfl (pc' := 21) rfl ?_
      refine s_goto W0 d23_21 (by decide) (pc' := 37) (by decide) ?_
      refine s_iloadN W0 d23_37 rfl (pc' := 38) rfl ?_
      exact gRetI W0 hret d23_38 (by decide) (by decide) ⟨by rw [show usz cx = _ from by unfold usz; rw [if_neg r4, if_pos r16]]; rfl, rfl⟩
  · intro q4
    have r4 : cx.toInt < 128 := by have := Int32.lt_iff_toInt_lt.mp q4; rw [show (128 : Int32).toInt = 128 from by decide] at this; exact this
    refine s_iconst W0 d23_7 (v := (1 : Int32)) (by decide) (pc' := 8) rfl ?_
    refine s_istoreN W0 d23_8 (l' := #[.val (.int cx), .val (.int (1 : Int32))]) rfl (pc' := 9) rfl ?_
    refine s_goto W0 d23_9 (by decide) (pc' := 37) (by decide) ?_
    refine s_iloadN W0 d23_37 rfl (pc' := 38) rfl ?_
    exact gRetI W0 hret d23_38 (by decide) (by decide) ⟨by rw [show usz cx = _ from by unfold usz; rw [if_pos r4]]; rfl, rfl⟩
def Q_enc0 (Z : State) (n0 : Nat) (a sx d key : Addr) (kd : ClassId) (off ccs : Int32) (ww : Nat) (h0 : Heap) (v : Option Value) (h : Heap) : Prop := v = none ∧ h0 = h
set_option maxRecDepth 65536 in
set_option maxHeartbeats 40000000 in
theorem ct_enc0 {l : Launch} {Z : State} {a0 : Array Value} (hw : ∀ d ∈ tables_1, d.before a0 Z = true) (hEL : EW Z a0 EL0) {n0 : Nat} (cds : List Jvm.Cond) (a sx d key : Addr) (kd : ClassId) (off ccs : Int32) (ww : Nat) (h0 : Heap) (Ea : Exa Z h0 a "com/example/trim_rowkey/trimrowkey/StringField") (Fa : Fld Z h0 a "com/example/trim_rowkey/trimrowkey/Field" "width" "I" (.int (Int32.ofNat ww))) (Sa : Str Z h0 sx d kd 0 0 []) (SCS : Sta Z Z.heap "java/lang/String" "COMPACT_STRINGS" "Z" (.int ccs)) (hccs : ¬ ccs = 0) :
    Ct l Z a0 EL0 n0 false true (⟨"com/example/trim_rowkey/trimrowkey/StringField", "encode", "(Ljava/lang/String;[BI)V"⟩ : MethodName) prog_9_method_2_code 11 (Option.none : Option Jvm.ClassFile.FieldType) cds ({ frames := 2, cells := 0, slots := 0, locals := 26 } : Room) [] #[(.ref a), (.ref sx), (.ref key), (.int off)] h0 (Q_enc0 Z n0 a sx d key kd off ccs ww h0) := by
  refine Ct.of (plainFor_of_name pn_6) hEL ?_
  intro p e s m below meth c T0 W0 hret hnm hs0
  refine Go.cast (ef_RRRI_11 m a sx key off) ?_
  show Go p e below _ T0 (mkF m 0 #[.val (.ref a), .val (.ref sx), .val (.ref key), .val (.int off), .unset, .unset, .unset, .unset, .unset, .unset, .unset] [])
  refine s_iloadN W0 d9_0 rfl (pc' := 1) rfl ?_
  refine s_aloadN W0 d9_1 rfl rfl (pc' := 2) rfl ?_
  refine gVirtualUp W0 Ea (w_58 hw) (w_59 hw) (w_60 hw) (by decide) (w_62 hw) (w_61 hw) (w_46 hw) (w_63 hw) pd_18 (ct_width hw hEL [] a (Int32.ofNat ww) h0 Fa) (by simp) d9_2 (pc' := 5) rfl rfl (argsL := []) rfl rfl (rest := [(.int off)]) rfl (wt := 1) (Nat.le_of_eq rfl) (by decide) (by decide) (by decide) (by decide) ?_
  rintro v1 T1 h1 W1 z1 ⟨rfl, rfl⟩
  show Go p e below _ T1 (mkF m 5 #[.val (.ref a), .val (.ref sx), .val (.ref key), .val (.int off), .unset, .unset, .unset, .unset, .unset, .unset, .unset] [(.int (Int32.ofNat ww)), (.int off)])
  refine s_iadd W1 d9_5 (pc' := 6) rfl ?_
  refine s_istore W1 d9_6 (l' := #[.val (.ref a), .val (.ref sx), .val (.ref key), .val (.int off), .val (.int (off + (Int32.ofNat ww))), .unset, .unset, .unset, .unset, .unset, .unset]) rfl (pc' := 8) rfl ?_
  refine s_iloadN W1 d9_8 rfl (pc' := 9) rfl ?_
  refine s_istore W1 d9_9 (l' := #[.val (.ref a), .val (.ref sx), .val (.ref key), .val (.int off), .val (.int (off + (Int32.ofNat ww))), .val (.int off), .unset, .unset, .unset, .unset, .unset]) rfl (pc' := 11) rfl ?_
  refine s_iconst W1 d9_11 (v := (0 : Int32)) (by decide) (pc' := 12) rfl ?_
  refine s_istore W1 d9_12 (l' := #[.val (.ref a), .val (.ref sx), .val (.ref key), .val (.int off), .val (.int (off + (Int32.ofNat ww))), .val (.int off), .val (.int (0 : Int32)), .unset, .unset, .unset, .unset]) rfl (pc' := 14) rfl ?_
  refine s_iload W1 d9_14 rfl (pc' := 16) rfl ?_
  refine s_aloadN W1 d9_16 rfl rfl (pc' := 17) rfl ?_
  refine gVirtual W1 Sa.1 (w_64 hw) (w_65 hw) (fun s hZ => notFace_of_selects (args := #[]) (mv hZ (w_67 hw))) (w_67 hw) (w_66 hw) (w_18 hw) (w_68 hw) (by decide) pd_18 (ct_slen hw hEL [] sx d kd 0 ccs [] h0 (by rw [show encC [] = 0 from if_pos nofun, show encB [] = [] from if_pos nofun]; exact Sa) (by rw [show encB [] = [] from if_pos nofun]; rfl) (by simp) SCS hccs) (by simp) d9_17 (pc' := 20) rfl rfl (argsL := []) rfl rfl (rest := [(.int (0 : Int32))]) rfl (wt := 1) (Nat.le_of_eq rfl) (by decide) (by decide) (by decide) (by decide) ?_
  rintro v2 T2 h2 W2 z2 ⟨rfl, rfl⟩
  show Go p e below _ T2 (mkF m 20 #[.val (.ref a), .val (.ref sx), .val (.ref key), .val (.int off), .val (.int (off + (Int32.ofNat ww))), .val (.int off), .val (.int (0 : Int32)), .unset, .unset, .unset, .unset] [(.int (0 : Int32)), (.int (0 : Int32))])
  refine s_icmpge W2 d9_20 (by decide) (pc1 := 199) (by decide) (pc2 := 23) rfl ?_ (fun q => absurd q (by decide))
  intro q20
  exact gRetV W2 hret d9_199 (by decide) (by decide) ⟨rfl, rfl⟩
def Q_enc (Z : State) (n0 : Nat) (a sx d key lb : Addr) (kd kk kl : ClassId) (zz ccs : Int32) (fo : Value) (po ww : Nat) (xs cps cs : List Int32) (h0 : Heap) (v : Option Value) (h : Heap) : Prop := v = none ∧ Keep h0 h [key] ∧ Arv Z h key kk .byte 16 ((wrs xs po cps).map Value.int) (.int 0)
set_option maxRecDepth 65536 in
set_option maxHeartbeats 40000000 in
theorem ct_enc {l : Launch} {Z : State} {a0 : Array Value} (hw : ∀ d ∈ tables_1, d.before a0 Z = true) (hEL : EW Z a0 EL0) {n0 : Nat} (cds : List Jvm.Cond) (a sx d key lb : Addr) (kd kk kl : ClassId) (zz ccs : Int32) (fo : Value) (po ww : Nat) (xs cps cs : List Int32) (h0 : Heap) (Ea : Exa Z h0 a "com/example/trim_rowkey/trimrowkey/StringField") (Fa : Fld Z h0 a "com/example/trim_rowkey/trimrowkey/Field" "width" "I" (.int (Int32.ofNat ww))) (Sa : Str Z h0 sx d kd (encC cs) zz ((encB cs).map Value.int)) (lz : zz.toInt = (encB cs).length) (hcs : ∀ c ∈ cs, 0 ≤ c.toInt ∧ c.toInt < 65536) (hcs' : cs = cps.flatMap chs) (hlen : cs.length ≤ 1000) (hvs : ∀ x ∈ cps, VCP x) (Vk : Arv Z h0 key kk .byte 16 (xs.map Value.int) (.int 0)) (hx : xs.length = 16) (hpo : po + usum cps ≤ 16) (hww : usum cps ≤ ww ∧ ww ≤ 1000) (n0_key : n0 ≤ key) (hks : sx ≠ key) (hkd : d ≠ key) (SLB : Sta Z Z.heap "com/example/trim_rowkey/trimrowkey/StringField" "LEAD_BYTE" "[I" (.ref lb)) (VLB : Arv Z Z.heap lb kl .int 5 [.int 0, .int 0, .int 192, .int 224, .int 240] (.int 0)) (SCS : Sta Z Z.heap "java/lang/String" "COMPACT_STRINGS" "Z" (.int ccs)) (hccs : ¬ ccs = 0) (SFO : Sta Z Z.heap "jdk/internal/util/Preconditions" "SIOOBE_FORMATTER" "Ljava/util/function/BiFunction;" fo) (rfo : fo.isRef = true) (SAD : Sta Z Z.heap "java/lang/StringUTF16" "$assertionsDisabled" "Z" (.int 1)) (SHI : Sta Z Z.heap "java/lang/StringUTF16" "HI_BYTE_SHIFT" "I" (.int 0)) (SLO : Sta Z Z.heap "java/lang/StringUTF16" "LO_BYTE_SHIFT" "I" (.int 8)) :
    Ct l Z a0 EL0 n0 false true (⟨"com/example/trim_rowkey/trimrowkey/StringField", "encode", "(Ljava/lang/String;[BI)V"⟩ : MethodName) prog_9_method_2_code 11 (Option.none : Option Jvm.ClassFile.FieldType) cds ({ frames := 4, cells := 0, slots := 0, locals := 58 } : Room) [key] #[(.ref a), (.ref sx), (.ref key), (.int (Int32.ofNat po))] h0 (Q_enc Z n0 a sx d key lb kd kk kl zz ccs fo po ww xs cps cs h0) := by
  refine Ct.of (plainFor_of_name pn_6) hEL ?_
  intro p e s m below meth c T0 W0 hret hnm hs0
  refine Go.cast (ef_RRRI_11 m a sx key (Int32.ofNat po)) ?_
  show Go p e below _ T0 (mkF m 0 #[.val (.ref a), .val (.ref sx), .val (.ref key), .val (.int (Int32.ofNat po)), .unset, .unset, .unset, .unset, .unset, .unset, .unset] [])
  have hz16 : (16 : Int32).toInt = (16 : Nat) := by decide
  have lt_key := natlt Vk.lt
  have esum : usum cps ≤ 16 := by omega
  refine s_iloadN W0 d9_0 rfl (pc' := 1) rfl ?_
  refine s_aloadN W0 d9_1 rfl rfl (pc' := 2) rfl ?_
  refine gVirtualUp W0 Ea (w_58 hw) (w_59 hw) (w_60 hw) (by decide) (w_62 hw) (w_61 hw) (w_46 hw) (w_63 hw) pd_18 (ct_width hw hEL [] a (Int32.ofNat ww) h0 Fa) (by simp) d9_2 (pc' := 5) rfl rfl (argsL := []) rfl rfl (rest := [(.int (Int32.ofNat po))]) rfl (wt := 1) (Nat.le_of_eq rfl) (by decide) (by decide) (by decide) (by decide) ?_
  rintro v1 T1 h1 W1 z1 ⟨rfl, rfl⟩
  show Go p e below _ T1 (mkF m 5 #[.val (.ref a), .val (.ref sx), .val (.ref key), .val (.int (Int32.ofNat po)), .unset, .unset, .unset, .unset, .unset, .unset, .unset] [(.int (Int32.ofNat ww)), (.int (Int32.ofNat po))])
  refine s_iadd W1 d9_5 (pc' := 6) rfl ?_
  refine s_istore W1 d9_6 (l' := #[.val (.ref a), .val (.ref sx), .val (.ref key), .val (.int (Int32.ofNat po)), .val (.int ((Int32.ofNat po) + (Int32.ofNat ww))), .unset, .unset, .unset, .unset, .unset, .unset]) rfl (pc' := 8) rfl ?_
  refine s_iloadN W1 d9_8 rfl (pc' := 9) rfl ?_
  refine s_istore W1 d9_9 (l' := #[.val (.ref a), .val (.ref sx), .val (.ref key), .val (.int (Int32.ofNat po)), .val (.int ((Int32.ofNat po) + (Int32.ofNat ww))), .val (.int (Int32.ofNat po)), .unset, .unset, .unset, .unset, .unset]) rfl (pc' := 11) rfl ?_
  refine s_iconst W1 d9_11 (v := (0 : Int32)) (by decide) (pc' := 12) rfl ?_
  refine s_istore W1 d9_12 (l' := #[.val (.ref a), .val (.ref sx), .val (.ref key), .val (.int (Int32.ofNat po)), .val (.int ((Int32.ofNat po) + (Int32.ofNat ww))), .val (.int (Int32.ofNat po)), .val (.int (0 : Int32)), .unset, .unset, .unset, .unset]) rfl (pc' := 14) rfl ?_
  suffices loop : ∀ (r pre : List Int32), cps = pre ++ r → ∀ (T : State) (h : Heap) (s7 s8 s9 s10 : Slot), One1 s7 → One1 s8 → One1 s9 → One1 s10 → Wk p l e ({ frames := 4, cells := 0, slots := 0, locals := 58 } : Room) s m #[(.ref a), (.ref sx), (.ref key), (.int (Int32.ofNat po))] below meth c Z a0 EL0 n0 false true "com/example/trim_rowkey/trimrowkey/StringField" prog_9_method_2_code 11 [key] T h 0 0 → Keep h0 h [key] → Arv Z h key kk .byte 16 ((wrs xs po pre).map Value.int) (.int 0) → Go p e below (Po s Z EL0 n0 true ({ frames := 4, cells := 0, slots := 0, locals := 58 } : Room).cells ({ frames := 4, cells := 0, slots := 0, locals := 58 } : Room).slots (Q_enc Z n0 a sx d key lb kd kk kl zz ccs fo po ww xs cps cs h0)) T (mkF m 14 #[.val (.ref a), .val (.ref sx), .val (.ref key), .val (.int (Int32.ofNat po)), .val (.int (Int32.ofNat po + Int32.ofNat ww)), .val (.int (Int32.ofNat (po + usum pre))), .val (.int (Int32.ofNat (pre.flatMap chs).length)), s7, s8, s9, s10] []) from
    loop cps [] rfl T1 h0 .unset .unset .unset .unset One1.u One1.u One1.u One1.u W1 (Keep.refl _ _) Vk
  intro r
  induction r with
  | nil =>
    intro pre hsp T1 h1 s7 s8 s9 s10 g7 g8 g9 g10 W1 K1 V1
    have S1 := Sa.keep K1 (ninS hks nin0) (ninS hkd nin0)
    have el : (Int32.ofNat cs.length).toInt = cs.length := ofN (by omega)
    have hus := congrArg usum hsp
    rw [usum_app] at hus
    rw [List.append_nil] at hsp
    refine s_iload W1 d9_14 rfl (pc' := 16) rfl ?_
    refine s_aloadN W1 d9_16 rfl rfl (pc' := 17) rfl ?_
    refine gVirtual W1 S1.1 (w_64 hw) (w_65 hw) (fun s hZ => notFace_of_selects (args := #[]) (mv hZ (w_67 hw))) (w_67 hw) (w_66 hw) (w_18 hw) (w_68 hw) (by decide) pd_18 (ct_slen hw hEL [] sx d kd zz ccs cs h1 S1 lz (by omega) SCS hccs) (by simp) d9_17 (pc' := 20) rfl rfl (argsL := []) rfl rfl (rest := [(.int (Int32.ofNat (pre.flatMap chs).length))]) rfl (wt := 1) (Nat.le_of_eq rfl) (by decide) (by decide) (by decide) (by decide) ?_
    rintro v2 T2 h2 W2 z2 ⟨rfl, rfl⟩
    show Go p e below _ T2 (mkF m 20 #[.val (.ref a), .val (.ref sx), .val (.ref key), .val (.int (Int32.ofNat po)), .val (.int (Int32.ofNat po + Int32.ofNat ww)), .val (.int (Int32.ofNat (po + usum pre))), .val (.int (Int32.ofNat (pre.flatMap chs).length)), s7, s8, s9, s10] [(.int (Int32.ofNat cs.length)), (.int (Int32.ofNat (pre.flatMap chs).length))])
    refine s_icmpge W2 d9_20 (by decide) (pc1 := 199) (by decide) (pc2 := 23) rfl ?_ (fun q => absurd q (fun q' => absurd (Int32.lt_iff_toInt_lt.mp q') (by rw [hcs', hsp]; omega)))
    intro q20
    exact gRetV W2 hret d9_199 (by decide) (by decide) ⟨rfl, K1, by rw [hsp]; exact V1⟩
  | cons cx r ih =>
    intro pre hsp T1 h1 s7 s8 s9 s10 g7 g8 g9 g10 W1 K1 V1
    have S1 := Sa.keep K1 (ninS hks nin0) (ninS hkd nin0)
    have el : (Int32.ofNat cs.length).toInt = cs.length := ofN (by omega)
    have hus := congrArg usum hsp
    rw [usum_app] at hus
    have hv := hvs cx (by rw [hsp]; simp)
    obtain ⟨v1, v2, v3⟩ := id hv
    have hat : AtCP cs (pre.flatMap chs).length cx := by rw [hcs', hsp, List.flatMap_append, List.flatMap_cons]; exact AtCP.of _ _ _
    have hjl := hat.lt
    have ei : (Int32.ofNat (pre.flatMap chs).length).toInt = (pre.flatMap chs).length := ofN (by omega)
    have hu1 : usum (cx :: r) = usz cx + usum r := rfl
    have xl := wrs_len pre xs po
    have hc0 : ¬ cx = 0 := fun q => by rw [q, zero32] at v1; omega
    obtain ⟨A, hA⟩ : ∃ A, A = po + usum pre := ⟨_, rfl⟩
    rw [← hA]
    rcases usz_01 cx with hs | hs | hs | hs
    · have rs := usz1 hs
      refine s_iload W1 d9_14 rfl (pc' := 16) rfl ?_
      refine s_aloadN W1 d9_16 rfl rfl (pc' := 17) rfl ?_
      refine gVirtual W1 S1.1 (w_64 hw) (w_65 hw) (fun s hZ => notFace_of_selects (args := #[]) (mv hZ (w_67 hw))) (w_67 hw) (w_66 hw) (w_18 hw) (w_68 hw) (by decide) pd_18 (ct_slen hw hEL [] sx d kd zz ccs cs h1 S1 lz (by omega) SCS hccs) (by simp) d9_17 (pc' := 20) rfl rfl (argsL := []) rfl rfl (rest := [(.int (Int32.ofNat (pre.flatMap chs).length))]) rfl (wt := 1) (Nat.le_of_eq rfl) (by decide) (by decide) (by decide) (by decide) ?_
      rintro v3 T3 h3 W3 z3 ⟨rfl, rfl⟩
      show Go p e below _ T3 (mkF m 20 #[.val (.ref a), .val (.ref sx), .val (.ref key), .val (.int (Int32.ofNat po)), .val (.int (Int32.ofNat po + Int32.ofNat ww)), .val (.int (Int32.ofNat A)), .val (.int (Int32.ofNat (pre.flatMap chs).length)), s7, s8, s9, s10] [(.int (Int32.ofNat cs.length)), (.int (Int32.ofNat (pre.flatMap chs).length))])
      refine s_icmpge W3 d9_20 (by decide) (pc1 := 199) (by decide) (pc2 := 23) rfl (fun q => absurd q (fun q' => q' (lt32 (by rw [ei, el]; omega)))) ?_
      intro q20
      refine s_aloadN W3 d9_23 rfl rfl (pc' := 24) rfl ?_
      refine s_iload W3 d9_24 rfl (pc' := 26) rfl ?_
      refine gVirtual W3 S1.1 (w_95 hw) (w_96 hw) (fun s hZ => notFace_of_selects (args := #[]) (mv hZ (w_98 hw))) (w_98 hw) (w_97 hw) (w_18 hw) (w_99 hw) (by decide) pd_0 (ct_cpA hw hEL [] sx d kd zz ccs cx fo (pre.flatMap chs).length cs h1 S1 lz hcs (by omega) hv hat SCS hccs SFO rfo SAD SHI SLO) (by simp) d9_26 (pc' := 29) rfl rfl (argsL := [(.int (Int32.ofNat (pre.flatMap chs).length))]) rfl rfl (rest := []) rfl (wt := 0) (Nat.le_of_eq rfl) (by decide) (by decide) (by decide) (by decide) ?_
      rintro v4 T4 h4 W4 z4 ⟨rfl, rfl⟩
      show Go p e below _ T4 (mkF m 29 #[.val (.ref a), .val (.ref sx), .val (.ref key), .val (.int (Int32.ofNat po)), .val (.int (Int32.ofNat po + Int32.ofNat ww)), .val (.int (Int32.ofNat A)), .val (.int (Int32.ofNat (pre.flatMap chs).length)), s7, s8, s9, s10] [(.int cx)])
      refine s_istore W4 d9_29 (l' := #[.val (.ref a), .val (.ref sx), .val (.ref key), .val (.int (Int32.ofNat po)), .val (.int (Int32.ofNat po + Int32.ofNat ww)), .val (.int (Int32.ofNat A)), .val (.int (Int32.ofNat (pre.flatMap chs).length)), .val (.int cx), s8, s9, s10]) (g7.st rfl rfl) (pc' := 31) rfl ?_
      refine s_iload W4 d9_31 rfl (pc' := 33) rfl ?_
      refine gStatic W4 (w_113 hw) (w_114 hw) (w_38 hw) (w_115 hw) (by decide) pd_0 (ct_usz hw hEL [] cx h1) (by simp) d9_33 (pc' := 36) rfl rfl (argsL := [(.int cx)]) rfl rfl (rest := []) rfl (wt := 0) (Nat.le_of_eq rfl) (by decide) (by decide) (by decide) (by decide) ?_
      rintro v5 T5 h5 W5 z5 ⟨rfl, rfl⟩
      rw [hs]
      show Go p e below _ T5 (mkF m 36 #[.val (.ref a), .val (.ref sx), .val (.ref key), .val (.int (Int32.ofNat po)), .val (.int (Int32.ofNat po + Int32.ofNat ww)), .val (.int (Int32.ofNat A)), .val (.int (Int32.ofNat (pre.flatMap chs).length)), .val (.int cx), s8, s9, s10] [(.int (1 : Int32))])
      refine s_istore W5 d9_36 (l' := #[.val (.ref a), .val (.ref sx), .val (.ref key), .val (.int (Int32.ofNat po)), .val (.int (Int32.ofNat po + Int32.ofNat ww)), .val (.int (Int32.ofNat A)), .val (.int (Int32.ofNat (pre.flatMap chs).length)), .val (.int cx), .val (.int (1 : Int32)), s9, s10]) (g8.st rfl rfl) (pc' := 38) rfl ?_
      refine s_iload W5 d9_38 rfl (pc' := 40) rfl ?_
      refine s_ifne W5 d9_40 (by decide) (pc1 := 50) (by decide) (pc2 := 43) rfl ?_ (fun q => absurd q hc0)
      intro q40
      refine s_iload W5 d9_50 rfl (pc' := 52) rfl ?_
      refine s_ldcI W5 (w_116 hw) d9_52 (pc' := 54) rfl ?_
      refine s_icmplt W5 d9_54 (by decide) (pc1 := 86) (by decide) (pc2 := 57) rfl ?_ (fun q => absurd q (fun q' => q' (lt32 (by rw [show (55296 : Int32).toInt = 55296 from by decide]; omega))))
      intro q54
      refine s_iload W5 d9_86 rfl (pc' := 88) rfl ?_
      refine s_iload W5 d9_88 rfl (pc' := 90) rfl ?_
      refine s_iadd W5 d9_90 (pc' := 91) rfl ?_
      rw [show Int32.ofNat A + (1 : Int32) = Int32.ofNat (A + 1) from ofN_add (k := 1) (by omega)]
      show Go p e below _ T5 (mkF m 91 #[.val (.ref a), .val (.ref sx), .val (.ref key), .val (.int (Int32.ofNat po)), .val (.int (Int32.ofNat po + Int32.ofNat ww)), .val (.int (Int32.ofNat A)), .val (.int (Int32.ofNat (pre.flatMap chs).length)), .val (.int cx), .val (.int (1 : Int32)), s9, s10] [(.int (Int32.ofNat (A + 1)))])
      refine s_iload W5 d9_91 rfl (pc' := 93) rfl ?_
      refine s_icmple W5 d9_93 (by decide) (pc1 := 118) (by decide) (pc2 := 96) rfl ?_ (fun q => absurd q (nlt32 (by rw [show Int32.ofNat po + Int32.ofNat ww = Int32.ofNat (po + ww) from ofN_add (by omega), ofN (by omega), ofN (by omega)]; omega)))
      intro q93
      refine s_iload W5 d9_118 rfl (pc' := 120) rfl ?_
      refine s_istore W5 d9_120 (l' := #[.val (.ref a), .val (.ref sx), .val (.ref key), .val (.int (Int32.ofNat po)), .val (.int (Int32.ofNat po + Int32.ofNat ww)), .val (.int (Int32.ofNat A)), .val (.int (Int32.ofNat (pre.flatMap chs).length)), .val (.int cx), .val (.int (1 : Int32)), .val (.int cx), s10]) (g9.st rfl rfl) (pc' := 122) rfl ?_
      refine s_iload W5 d9_122 rfl (pc' := 124) rfl ?_
      refine s_iload W5 d9_124 rfl (pc' := 126) rfl ?_
      refine s_iadd W5 d9_126 (pc' := 127) rfl ?_
      refine s_iconst W5 d9_127 (v := (1 : Int32)) (by decide) (pc' := 128) rfl ?_
      refine s_isub W5 d9_128 (pc' := 129) rfl ?_
      rw [show Int32.ofNat A + (1 : Int32) - (1 : Int32) = Int32.ofNat (A + 0) from by rw [show Int32.ofNat A + (1 : Int32) = Int32.ofNat (A + 1) from ofN_add (k := 1) (by omega)]; exact sub_nat (b := 1) (by omega) (by omega)]
      show Go p e below _ T5 (mkF m 129 #[.val (.ref a), .val (.ref sx), .val (.ref key), .val (.int (Int32.ofNat po)), .val (.int (Int32.ofNat po + Int32.ofNat ww)), .val (.int (Int32.ofNat A)), .val (.int (Int32.ofNat (pre.flatMap chs).length)), .val (.int cx), .val (.int (1 : Int32)), .val (.int cx), s10] [(.int (Int32.ofNat (A + 0)))])
      refine s_istore W5 d9_129 (l' := #[.val (.ref a), .val (.ref sx), .val (.ref key), .val (.int (Int32.ofNat po)), .val (.int (Int32.ofNat po + Int32.ofNat ww)), .val (.int (Int32.ofNat A)), .val (.int (Int32.ofNat (pre.flatMap chs).length)), .val (.int cx), .val (.int (1 : Int32)), .val (.int cx), .val (.int (Int32.ofNat (A + 0)))]) (g10.st rfl rfl) (pc' := 131) rfl ?_
      refine s_iload W5 d9_131 rfl (pc' := 133) rfl ?_
      refine s_iload W5 d9_133 rfl (pc' := 135) rfl ?_
      refine s_icmple W5 d9_135 (by decide) (pc1 := 165) (by decide) (pc2 := 138) rfl ?_ (fun q => absurd q (nlt32 (by rw [ofN (by omega), ofN (by omega)]; omega)))
      intro q135
      refine s_aloadN W5 d9_165 rfl rfl (pc' := 166) rfl ?_
      refine s_iload W5 d9_166 rfl (pc' := 168) rfl ?_
      refine gGetS W5 (host := "") (Or.inl (w_117 hw)) Via.refl (SLB.ext W5.old.2) d9_168 (pc' := 171) rfl ?_
      intro T6 W6
      refine s_iload W6 d9_171 rfl (pc' := 173) rfl ?_
      refine gLdI W6 (VLB.ext W6.old.2) ⟨by decide, by decide⟩ (v := .int (0 : Int32)) rfl d9_173 (pc' := 174) rfl ?_
      refine s_iload W6 d9_174 rfl (pc' := 176) rfl ?_
      refine s_ior W6 d9_176 (pc' := 177) rfl ?_
      refine s_i2b W6 d9_177 (pc' := 178) rfl ?_
      refine gStB W6 n0_key (List.mem_of_getElem? (i := 0) rfl) V1 (idxM (ofN (show A < 2147483648 by omega)) hz16 (by omega)).1 (i := A) (idxM (ofN (show A < 2147483648 by omega)) hz16 (by omega)).2 (by simp only [List.length_set, List.length_map]; omega) d9_178 (pc' := 179) rfl ?_
      intro T7 h7 W7 K7 Vx0
      rw [bb8] at Vx0
      have z7 : h1.size ≤ h7.size := K7.1
      refine s_iload W7 d9_179 rfl (pc' := 181) rfl ?_
      refine s_iload W7 d9_181 rfl (pc' := 183) rfl ?_
      refine s_iadd W7 d9_183 (pc' := 184) rfl ?_
      rw [show Int32.ofNat A + (1 : Int32) = Int32.ofNat (A + 1) from ofN_add (k := 1) (by omega)]
      show Go p e below _ T7 (mkF m 184 #[.val (.ref a), .val (.ref sx), .val (.ref key), .val (.int (Int32.ofNat po)), .val (.int (Int32.ofNat po + Int32.ofNat ww)), .val (.int (Int32.ofNat A)), .val (.int (Int32.ofNat (pre.flatMap chs).length)), .val (.int cx), .val (.int (1 : Int32)), .val (.int cx), .val (.int (Int32.ofNat (A + 0)))] [(.int (Int32.ofNat (A + 1)))])
      refine s_istore W7 d9_184 (l' := #[.val (.ref a), .val (.ref sx), .val (.ref key), .val (.int (Int32.ofNat po)), .val (.int (Int32.ofNat po + Int32.ofNat ww)), .val (.int (Int32.ofNat (A + 1))), .val (.int (Int32.ofNat (pre.flatMap chs).length)), .val (.int cx), .val (.int (1 : Int32)), .val (.int cx), .val (.int (Int32.ofNat (A + 0)))]) rfl (pc' := 186) rfl ?_
      refine s_iload W7 d9_186 rfl (pc' := 188) rfl ?_
      refine s_iload W7 d9_188 rfl (pc' := 190) rfl ?_
      refine gStatic W7 (w_119 hw) (w_120 hw) (w_121 hw) (w_122 hw) (by decide) pd_0 (ct_ccnt hw hEL [] cx h7) (by simp) d9_190 (pc' := 193) rfl rfl (argsL := [(.int cx)]) rfl rfl (rest := [(.int (Int32.ofNat (pre.flatMap chs).length))]) rfl (wt := 1) (Nat.le_of_eq rfl) (by decide) (by decide) (by decide) (by decide) ?_
      rintro v8 T8 h8 W8 z8 ⟨rfl, rfl⟩
      show Go p e below _ T8 (mkF m 193 #[.val (.ref a), .val (.ref sx), .val (.ref key), .val (.int (Int32.ofNat po)), .val (.int (Int32.ofNat po + Int32.ofNat ww)), .val (.int (Int32.ofNat (A + 1))), .val (.int (Int32.ofNat (pre.flatMap chs).length)), .val (.int cx), .val (.int (1 : Int32)), .val (.int cx), .val (.int (Int32.ofNat (A + 0)))] [(.int (Int32.ofNat (cnt cx))), (.int (Int32.ofNat (pre.flatMap chs).length))])
      refine s_iadd W8 d9_193 (pc' := 194) rfl ?_
      have hcn : cnt cx ≤ 2 := by unfold cnt; split <;> omega
      rw [show Int32.ofNat (pre.flatMap chs).length + Int32.ofNat (cnt cx) = Int32.ofNat ((pre ++ [cx]).flatMap chs).length from by rw [clen_snoc]; exact ofN_add (by omega)]
      show Go p e below _ T8 (mkF m 194 #[.val (.ref a), .val (.ref sx), .val (.ref key), .val (.int (Int32.ofNat po)), .val (.int (Int32.ofNat po + Int32.ofNat ww)), .val (.int (Int32.ofNat (A + 1))), .val (.int (Int32.ofNat (pre.flatMap chs).length)), .val (.int cx), .val (.int (1 : Int32)), .val (.int cx), .val (.int (Int32.ofNat (A + 0)))] [(.int (Int32.ofNat ((pre ++ [cx]).flatMap chs).length))])
      refine s_istore W8 d9_194 (l' := #[.val (.ref a), .val (.ref sx), .val (.ref key), .val (.int (Int32.ofNat po)), .val (.int (Int32.ofNat po + Int32.ofNat ww)), .val (.int (Int32.ofNat (A + 1))), .val (.int (Int32.ofNat ((pre ++ [cx]).flatMap chs).length)), .val (.int cx), .val (.int (1 : Int32)), .val (.int cx), .val (.int (Int32.ofNat (A + 0)))]) rfl (pc' := 196) rfl ?_
      refine s_goto W8 d9_196 (by decide) (pc' := 14) (by decide) ?_
      have eA : A + 1 = po + usum (pre ++ [cx]) := by rw [usum_app, hA, show usum [cx] = usz cx + 0 from rfl, hs]; omega
      rw [eA]
      refine ih (pre ++ [cx]) (by rw [hsp, List.append_assoc]; rfl) T8 h7 _ _ _ _ (One1.i _) (One1.i _) (One1.i _) (One1.i _) W8 ?_ ?_
      · exact (K1.trans K7 (allS (Or.inl (by simp)) all0))
      · rw [wrs_snoc, ← hA, ← enc1 hs]; exact Vx0
    · have rs := usz2 hs
      refine s_iload W1 d9_14 rfl (pc' := 16) rfl ?_
      refine s_aloadN W1 d9_16 rfl rfl (pc' := 17) rfl ?_
      refine gVirtual W1 S1.1 (w_64 hw) (w_65 hw) (fun s hZ => notFace_of_selects (args := #[]) (mv hZ (w_67 hw))) (w_67 hw) (w_66 hw) (w_18 hw) (w_68 hw) (by decide) pd_18 (ct_slen hw hEL [] sx d kd zz ccs cs h1 S1 lz (by omega) SCS hccs) (by simp) d9_17 (pc' := 20) rfl rfl (argsL := []) rfl rfl (rest := [(.int (Int32.ofNat (pre.flatMap chs).length))]) rfl (wt := 1) (Nat.le_of_eq rfl) (by decide) (by decide) (by decide) (by decide) ?_
      rintro v9 T9 h9 W9 z9 ⟨rfl, rfl⟩
      show Go p e below _ T9 (mkF m 20 #[.val (.ref a), .val (.ref sx), .val (.ref key), .val (.int (Int32.ofNat po)), .val (.int (Int32.ofNat po + Int32.ofNat ww)), .val (.int (Int32.ofNat A)), .val (.int (Int32.ofNat (pre.flatMap chs).length)), s7, s8, s9, s10] [(.int (Int32.ofNat cs.length)), (.int (Int32.ofNat (pre.flatMap chs).length))])
      refine s_icmpge W9 d9_20 (by decide) (pc1 := 199) (by decide) (pc2 := 23) rfl (fun q => absurd q (fun q' => q' (lt32 (by rw [ei, el]; omega)))) ?_
      intro q20
      refine s_aloadN W9 d9_23 rfl rfl (pc' := 24) rfl ?_
      refine s_iload W9 d9_24 rfl (pc' := 26) rfl ?_
      refine gVirtual W9 S1.1 (w_95 hw) (w_96 hw) (fun s hZ => notFace_of_selects (args := #[]) (mv hZ (w_98 hw))) (w_98 hw) (w_97 hw) (w_18 hw) (w_99 hw) (by decide) pd_0 (ct_cpA hw hEL [] sx d kd zz ccs cx fo (pre.flatMap chs).length cs h1 S1 lz hcs (by omega) hv hat SCS hccs SFO rfo SAD SHI SLO) (by simp) d9_26 (pc' := 29) rfl rfl (argsL := [(.int (Int32.ofNat (pre.flatMap chs).length))]) rfl rfl (rest := []) rfl (wt := 0) (Nat.le_of_eq rfl) (by decide) (by decide) (by decide) (by decide) ?_
      rintro v10 T10 h10 W10 z10 ⟨rfl, rfl⟩
      show Go p e below _ T10 (mkF m 29 #[.val (.ref a), .val (.ref sx), .val (.ref key), .val (.int (Int32.ofNat po)), .val (.int (Int32.ofNat po + Int32.ofNat ww)), .val (.int (Int32.ofNat A)), .val (.int (Int32.ofNat (pre.flatMap chs).length)), s7, s8, s9, s10] [(.int cx)])
      refine s_istore W10 d9_29 (l' := #[.val (.ref a), .val (.ref sx), .val (.ref key), .val (.int (Int32.ofNat po)), .val (.int (Int32.ofNat po + Int32.ofNat ww)), .val (.int (Int32.ofNat A)), .val (.int (Int32.ofNat (pre.flatMap chs).length)), .val (.int cx), s8, s9, s10]) (g7.st rfl rfl) (pc' := 31) rfl ?_
      refine s_iload W10 d9_31 rfl (pc' := 33) rfl ?_
      refine gStatic W10 (w_113 hw) (w_114 hw) (w_38 hw) (w_115 hw) (by decide) pd_0 (ct_usz hw hEL [] cx h1) (by simp) d9_33 (pc' := 36) rfl rfl (argsL := [(.int cx)]) rfl rfl (rest := []) rfl (wt := 0) (Nat.le_of_eq rfl) (by decide) (by decide) (by decide) (by decide) ?_
      rintro v11 T11 h11 W11 z11 ⟨rfl, rfl⟩
      rw [hs]
      show Go p e below _ T11 (mkF m 36 #[.val (.ref a), .val (.ref sx), .val (.ref key), .val (.int (Int32.ofNat po)), .val (.int (Int32.ofNat po + Int32.ofNat ww)), .val (.int (Int32.ofNat A)), .val (.int (Int32.ofNat (pre.flatMap chs).length)), .val (.int cx), s8, s9, s10] [(.int (2 : Int32))])
      refine s_istore W11 d9_36 (l' := #[.val (.ref a), .val (.ref sx), .val (.ref key), .val (.int (Int32.ofNat po)), .val (.int (Int32.ofNat po + Int32.ofNat ww)), .val (.int (Int32.ofNat A)), .val (.int (Int32.ofNat (pre.flatMap chs).length)), .val (.int cx), .val (.int (2 : Int32)), s9, s10]) (g8.st rfl rfl) (pc' := 38) rfl ?_
      refine s_iload W11 d9_38 rfl (pc' := 40) rfl ?_
      refine s_ifne W11 d9_40 (by decide) (pc1 := 50) (by decide) (pc2 := 43) rfl ?_ (fun q => absurd q hc0)
      intro q40
      refine s_iload W11 d9_50 rfl (pc' := 52) rfl ?_
      refine s_ldcI W11 (w_116 hw) d9_52 (pc' := 54) rfl ?_
      refine s_icmplt W11 d9_54 (by decide) (pc1 := 86) (by decide) (pc2 := 57) rfl ?_ (fun q => absurd q (fun q' => q' (lt32 (by rw [show (55296 : Int32).toInt = 55296 from by decide]; omega))))
      intro q54
      refine s_iload W11 d9_86 rfl (pc' := 88) rfl ?_
      refine s_iload W11 d9_88 rfl (pc' := 90) rfl ?_
      refine s_iadd W11 d9_90 (pc' := 91) rfl ?_
      rw [show Int32.ofNat A + (2 : Int32) = Int32.ofNat (A + 2) from ofN_add (k := 2) (by omega)]
      show Go p e below _ T11 (mkF m 91 #[.val (.ref a), .val (.ref sx), .val (.ref key), .val (.int (Int32.ofNat po)), .val (.int (Int32.ofNat po + Int32.ofNat ww)), .val (.int (Int32.ofNat A)), .val (.int (Int32.ofNat (pre.flatMap chs).length)), .val (.int cx), .val (.int (2 : Int32)), s9, s10] [(.int (Int32.ofNat (A + 2)))])
      refine s_iload W11 d9_91 rfl (pc' := 93) rfl ?_
      refine s_icmple W11 d9_93 (by decide) (pc1 := 118) (by decide) (pc2 := 96) rfl ?_ (fun q => absurd q (nlt32 (by rw [show Int32.ofNat po + Int32.ofNat ww = Int32.ofNat (po + ww) from ofN_add (by omega), ofN (by omega), ofN (by omega)]; omega)))
      intro q93
      refine s_iload W11 d9_118 rfl (pc' := 120) rfl ?_
      refine s_istore W11 d9_120 (l' := #[.val (.ref a), .val (.ref sx), .val (.ref key), .val (.int (Int32.ofNat po)), .val (.int (Int32.ofNat po + Int32.ofNat ww)), .val (.int (Int32.ofNat A)), .val (.int (Int32.ofNat (pre.flatMap chs).length)), .val (.int cx), .val (.int (2 : Int32)), .val (.int cx), s10]) (g9.st rfl rfl) (pc' := 122) rfl ?_
      refine s_iload W11 d9_122 rfl (pc' := 124) rfl ?_
      refine s_iload W11 d9_124 rfl (pc' := 126) rfl ?_
      refine s_iadd W11 d9_126 (pc' := 127) rfl ?_
      refine s_iconst W11 d9_127 (v := (1 : Int32)) (by decide) (pc' := 128) rfl ?_
      refine s_isub W11 d9_128 (pc' := 129) rfl ?_
      rw [show Int32.ofNat A + (2 : Int32) - (1 : Int32) = Int32.ofNat (A + 1) from by rw [show Int32.ofNat A + (2 : Int32) = Int32.ofNat (A + 2) from ofN_add (k := 2) (by omega)]; exact sub_nat (b := 1) (by omega) (by omega)]
      show Go p e below _ T11 (mkF m 129 #[.val (.ref a), .val (.ref sx), .val (.ref key), .val (.int (Int32.ofNat po)), .val (.int (Int32.ofNat po + Int32.ofNat ww)), .val (.int (Int32.ofNat A)), .val (.int (Int32.ofNat (pre.flatMap chs).length)), .val (.int cx), .val (.int (2 : Int32)), .val (.int cx), s10] [(.int (Int32.ofNat (A + 1)))])
      refine s_istore W11 d9_129 (l' := #[.val (.ref a), .val (.ref sx), .val (.ref key), .val (.int (Int32.ofNat po)), .val (.int (Int32.ofNat po + Int32.ofNat ww)), .val (.int (Int32.ofNat A)), .val (.int (Int32.ofNat (pre.flatMap chs).length)), .val (.int cx), .val (.int (2 : Int32)), .val (.int cx), .val (.int (Int32.ofNat (A + 1)))]) (g10.st rfl rfl) (pc' := 131) rfl ?_
      refine s_iload W11 d9_131 rfl (pc' := 133) rfl ?_
      refine s_iload W11 d9_133 rfl (pc' := 135) rfl ?_
      refine s_icmple W11 d9_135 (by decide) (pc1 := 165) (by decide) (pc2 := 138) rfl (fun q => absurd q (fun q' => q' (lt32 (by rw [ofN (by omega), ofN (by omega)]; omega)))) ?_
      intro q135
      refine s_aloadN W11 d9_138 rfl rfl (pc' := 139) rfl ?_
      refine s_iload W11 d9_139 rfl (pc' := 141) rfl ?_
      refine s_sipush W11 d9_141 (v := (128 : Int32)) (by decide) (pc' := 144) rfl ?_
      refine s_iload W11 d9_144 rfl (pc' := 146) rfl ?_
      refine s_bipush W11 d9_146 (v := (63 : Int32)) (by decide) (pc' := 148) rfl ?_
      refine s_iand W11 d9_148 (pc' := 149) rfl ?_
      refine s_ior W11 d9_149 (pc' := 150) rfl ?_
      refine s_i2b W11 d9_150 (pc' := 151) rfl ?_
      refine gStB W11 n0_key (List.mem_of_getElem? (i := 0) rfl) V1 (idxM (ofN (show (A + 1) < 2147483648 by omega)) hz16 (by omega)).1 (i := (A + 1)) (idxM (ofN (show (A + 1) < 2147483648 by omega)) hz16 (by omega)).2 (by simp only [List.length_set, List.length_map]; omega) d9_151 (pc' := 152) rfl ?_
      intro T12 h12 W12 K12 Vx1
      rw [bb8] at Vx1
      have z12 : h1.size ≤ h12.size := K12.1
      refine s_iload W12 d9_152 rfl (pc' := 154) rfl ?_
      refine s_bipush W12 d9_154 (v := (6 : Int32)) (by decide) (pc' := 156) rfl ?_
      refine s_iushr W12 d9_156 (pc' := 157) rfl ?_
      rw [show ((cx.toUInt32 >>> ((6 : Int32) &&& 31).toUInt32).toInt32) = u6 cx from rfl]
      show Go p e below _ T12 (mkF m 157 #[.val (.ref a), .val (.ref sx), .val (.ref key), .val (.int (Int32.ofNat po)), .val (.int (Int32.ofNat po + Int32.ofNat ww)), .val (.int (Int32.ofNat A)), .val (.int (Int32.ofNat (pre.flatMap chs).length)), .val (.int cx), .val (.int (2 : Int32)), .val (.int cx), .val (.int (Int32.ofNat (A + 1)))] [(.int (u6 cx))])
      refine s_istore W12 d9_157 (l' := #[.val (.ref a), .val (.ref sx), .val (.ref key), .val (.int (Int32.ofNat po)), .val (.int (Int32.ofNat po + Int32.ofNat ww)), .val (.int (Int32.ofNat A)), .val (.int (Int32.ofNat (pre.flatMap chs).length)), .val (.int cx), .val (.int (2 : Int32)), .val (.int (u6 cx)), .val (.int (Int32.ofNat (A + 1)))]) rfl (pc' := 159) rfl ?_
      refine s_iinc W12 d9_159 (v := (-1 : Int32)) (by decide) rfl (l' := #[.val (.ref a), .val (.ref sx), .val (.ref key), .val (.int (Int32.ofNat po)), .val (.int (Int32.ofNat po + Int32.ofNat ww)), .val (.int (Int32.ofNat A)), .val (.int (Int32.ofNat (pre.flatMap chs).length)), .val (.int cx), .val (.int (2 : Int32)), .val (.int (u6 cx)), .val (.int ((Int32.ofNat (A + 1)) + (-1 : Int32)))]) rfl (pc' := 162) rfl ?_
      rw [show Int32.ofNat (A + 1) + (-1 : Int32) = Int32.ofNat (A + 0) from by rw [show (-1 : Int32) = -(Int32.ofNat 1) from by decide, ← Int32.sub_eq_add_neg]; exact sub_nat (b := 1) (by omega) (by omega)]
      show Go p e below _ T12 (mkF m 162 #[.val (.ref a), .val (.ref sx), .val (.ref key), .val (.int (Int32.ofNat po)), .val (.int (Int32.ofNat po + Int32.ofNat ww)), .val (.int (Int32.ofNat A)), .val (.int (Int32.ofNat (pre.flatMap chs).length)), .val (.int cx), .val (.int (2 : Int32)), .val (.int (u6 cx)), .val (.int (Int32.ofNat (A + 0)))] [])
      refine s_goto W12 d9_162 (by decide) (pc' := 131) (by decide) ?_
      refine s_iload W12 d9_131 rfl (pc' := 133) rfl ?_
      refine s_iload W12 d9_133 rfl (pc' := 135) rfl ?_
      refine s_icmple W12 d9_135 (by decide) (pc1 := 165) (by decide) (pc2 := 138) rfl ?_ (fun q => absurd q (nlt32 (by rw [ofN (by omega), ofN (by omega)]; omega)))
      intro q135
      refine s_aloadN W12 d9_165 rfl rfl (pc' := 166) rfl ?_
      refine s_iload W12 d9_166 rfl (pc' := 168) rfl ?_
      refine gGetS W12 (host := "") (Or.inl (w_117 hw)) Via.refl (SLB.ext W12.old.2) d9_168 (pc' := 171) rfl ?_
      intro T13 W13
      refine s_iload W13 d9_171 rfl (pc' := 173) rfl ?_
      refine gLdI W13 (VLB.ext W13.old.2) ⟨by decide, by decide⟩ (v := .int (192 : Int32)) rfl d9_173 (pc' := 174) rfl ?_
      refine s_iload W13 d9_174 rfl (pc' := 176) rfl ?_
      refine s_ior W13 d9_176 (pc' := 177) rfl ?_
      refine s_i2b W13 d9_177 (pc' := 178) rfl ?_
      refine gStB W13 n0_key (List.mem_of_getElem? (i := 0) rfl) Vx1 (idxM (ofN (show A < 2147483648 by omega)) hz16 (by omega)).1 (i := A) (idxM (ofN (show A < 2147483648 by omega)) hz16 (by omega)).2 (by simp only [List.length_set, List.length_map]; omega) d9_178 (pc' := 179) rfl ?_
      intro T14 h14 W14 K14 Vx0
      rw [bb8] at Vx0
      have z14 : h12.size ≤ h14.size := K14.1
      refine s_iload W14 d9_179 rfl (pc' := 181) rfl ?_
      refine s_iload W14 d9_181 rfl (pc' := 183) rfl ?_
      refine s_iadd W14 d9_183 (pc' := 184) rfl ?_
      rw [show Int32.ofNat A + (2 : Int32) = Int32.ofNat (A + 2) from ofN_add (k := 2) (by omega)]
      show Go p e below _ T14 (mkF m 184 #[.val (.ref a), .val (.ref sx), .val (.ref key), .val (.int (Int32.ofNat po)), .val (.int (Int32.ofNat po + Int32.ofNat ww)), .val (.int (Int32.ofNat A)), .val (.int (Int32.ofNat (pre.flatMap chs).length)), .val (.int cx), .val (.int (2 : Int32)), .val (.int (u6 cx)), .val (.int (Int32.ofNat (A + 0)))] [(.int (Int32.ofNat (A + 2)))])
      refine s_istore W14 d9_184 (l' := #[.val (.ref a), .val (.ref sx), .val (.ref key), .val (.int (Int32.ofNat po)), .val (.int (Int32.ofNat po + Int32.ofNat ww)), .val (.int (Int32.ofNat (A + 2))), .val (.int (Int32.ofNat (pre.flatMap chs).length)), .val (.int cx), .val (.int (2 : Int32)), .val (.int (u6 cx)), .val (.int (Int32.ofNat (A + 0)))]) rfl (pc' := 186) rfl ?_
      refine s_iload W14 d9_186 rfl (pc' := 188) rfl ?_
      refine s_iload W14 d9_188 rfl (pc' := 190) rfl ?_
      refine gStatic W14 (w_119 hw) (w_120 hw) (w_121 hw) (w_122 hw) (by decide) pd_0 (ct_ccnt hw hEL [] cx h14) (by simp) d9_190 (pc' := 193) rfl rfl (argsL := [(.int cx)]) rfl rfl (rest := [(.int (Int32.ofNat (pre.flatMap chs).length))]) rfl (wt := 1) (Nat.le_of_eq rfl) (by decide) (by decide) (by decide) (by decide) ?_
      rintro v15 T15 h15 W15 z15 ⟨rfl, rfl⟩
      show Go p e below _ T15 (mkF m 193 #[.val (.ref a), .val (.ref sx), .val (.ref key), .val (.int (Int32.ofNat po)), .val (.int (Int32.ofNat po + Int32.ofNat ww)), .val (.int (Int32.ofNat (A + 2))), .val (.int (Int32.ofNat (pre.flatMap chs).length)), .val (.int cx), .val (.int (2 : Int32)), .val (.int (u6 cx)), .val (.int (Int32.ofNat (A + 0)))] [(.int (Int32.ofNat (cnt cx))), (.int (Int32.ofNat (pre.flatMap chs).length))])
      refine s_iadd W15 d9_193 (pc' := 194) rfl ?_
      have hcn : cnt cx ≤ 2 := by unfold cnt; split <;> omega
      rw [show Int32.ofNat (pre.flatMap chs).length + Int32.ofNat (cnt cx) = Int32.ofNat ((pre ++ [cx]).flatMap chs).length from by rw [clen_snoc]; exact ofN_add (by omega)]
      show Go p e below _ T15 (mkF m 194 #[.val (.ref a), .val (.ref sx), .val (.ref key), .val (.int (Int32.ofNat po)), .val (.int (Int32.ofNat po + Int32.ofNat ww)), .val (.int (Int32.ofNat (A + 2))), .val (.int (Int32.ofNat (pre.flatMap chs).length)), .val (.int cx), .val (.int (2 : Int32)), .val (.int (u6 cx)), .val (.int (Int32.ofNat (A + 0)))] [(.int (Int32.ofNat ((pre ++ [cx]).flatMap chs).length))])
      refine s_istore W15 d9_194 (l' := #[.val (.ref a), .val (.ref sx), .val (.ref key), .val (.int (Int32.ofNat po)), .val (.int (Int32.ofNat po + Int32.ofNat ww)), .val (.int (Int32.ofNat (A + 2))), .val (.int (Int32.ofNat ((pre ++ [cx]).flatMap chs).length)), .val (.int cx), .val (.int (2 : Int32)), .val (.int (u6 cx)), .val (.int (Int32.ofNat (A + 0)))]) rfl (pc' := 196) rfl ?_
      refine s_goto W15 d9_196 (by decide) (pc' := 14) (by decide) ?_
      have eA : A + 2 = po + usum (pre ++ [cx]) := by rw [usum_app, hA, show usum [cx] = usz cx + 0 from rfl, hs]; omega
      rw [eA]
      refine ih (pre ++ [cx]) (by rw [hsp, List.append_assoc]; rfl) T15 h14 _ _ _ _ (One1.i _) (One1.i _) (One1.i _) (One1.i _) W15 ?_ ?_
      · exact ((K1.trans K12 (allS (Or.inl (by simp)) all0)).trans K14 (allS (Or.inl (by simp)) all0))
      · rw [wrs_snoc, ← hA, ← enc2 hs]; exact Vx0
    · have rs := usz3 hs
      refine s_iload W1 d9_14 rfl (pc' := 16) rfl ?_
      refine s_aloadN W1 d9_16 rfl rfl (pc' := 17) rfl ?_
      refine gVirtual W1 S1.1 (w_64 hw) (w_65 hw) (fun s hZ => notFace_of_selects (args := #[]) (mv hZ (w_67 hw))) (w_67 hw) (w_66 hw) (w_18 hw) (w_68 hw) (by decide) pd_18 (ct_slen hw hEL [] sx d kd zz ccs cs h1 S1 lz (by omega) SCS hccs) (by simp) d9_17 (pc' := 20) rfl rfl (argsL := []) rfl rfl (rest := [(.int (Int32.ofNat (pre.flatMap chs).length))]) rfl (wt := 1) (Nat.le_of_eq rfl) (by decide) (by decide) (by decide) (by decide) ?_
      rintro v16 T16 h16 W16 z16 ⟨rfl, rfl⟩
      show Go p e below _ T16 (mkF m 20 #[.val (.ref a), .val (.ref sx), .val (.ref key), .val (.int (Int32.ofNat po)), .val (.int (Int32.ofNat po + Int32.ofNat ww)), .val (.int (Int32.ofNat A)), .val (.int (Int32.ofNat (pre.flatMap chs).length)), s7, s8, s9, s10] [(.int (Int32.ofNat cs.length)), (.int (Int32.ofNat (pre.flatMap chs).length))])
      refine s_icmpge W16 d9_20 (by decide) (pc1 := 199) (by decide) (pc2 := 23) rfl (fun q => absurd q (fun q' => q' (lt32 (by rw [ei, el]; omega)))) ?_
      intro q20
      refine s_aloadN W16 d9_23 rfl rfl (pc' := 24) rfl ?_
      refine s_iload W16 d9_24 rfl (pc' := 26) rfl ?_
      refine gVirtual W16 S1.1 (w_95 hw) (w_96 hw) (fun s hZ => notFace_of_selects (args := #[]) (mv hZ (w_98 hw))) (w_98 hw) (w_97 hw) (w_18 hw) (w_99 hw) (by decide) pd_0 (ct_cpA hw hEL [] sx d kd zz ccs cx fo (pre.flatMap chs).length cs h1 S1 lz hcs (by omega) hv hat SCS hccs SFO rfo SAD SHI SLO) (by simp) d9_26 (pc' := 29) rfl rfl (argsL := [(.int (Int32.ofNat (pre.flatMap chs).length))]) rfl rfl (rest := []) rfl (wt := 0) (Nat.le_of_eq rfl) (by decide) (by decide) (by decide) (by decide) ?_
      rintro v17 T17 h17 W17 z17 ⟨rfl, rfl⟩
      show Go p e below _ T17 (mkF m 29 #[.val (.ref a), .val (.ref sx), .val (.ref key), .val (.int (Int32.ofNat po)), .val (.int (Int32.ofNat po + Int32.ofNat ww)), .val (.int (Int32.ofNat A)), .val (.int (Int32.ofNat (pre.flatMap chs).length)), s7, s8, s9, s10] [(.int cx)])
      refine s_istore W17 d9_29 (l' := #[.val (.ref a), .val (.ref sx), .val (.ref key), .val (.int (Int32.ofNat po)), .val (.int (Int32.ofNat po + Int32.ofNat ww)), .val (.int (Int32.ofNat A)), .val (.int (Int32.ofNat (pre.flatMap chs).length)), .val (.int cx), s8, s9, s10]) (g7.st rfl rfl) (pc' := 31) rfl ?_
      refine s_iload W17 d9_31 rfl (pc' := 33) rfl ?_
      refine gStatic W17 (w_113 hw) (w_114 hw) (w_38 hw) (w_115 hw) (by decide) pd_0 (ct_usz hw hEL [] cx h1) (by simp) d9_33 (pc' := 36) rfl rfl (argsL := [(.int cx)]) rfl rfl (rest := []) rfl (wt := 0) (Nat.le_of_eq rfl) (by decide) (by decide) (by decide) (by decide) ?_
      rintro v18 T18 h18 W18 z18 ⟨rfl, rfl⟩
      rw [hs]
      show Go p e below _ T18 (mkF m 36 #[.val (.ref a), .val (.ref sx), .val (.ref key), .val (.int (Int32.ofNat po)), .val (.int (Int32.ofNat po + Int32.ofNat ww)), .val (.int (Int32.ofNat A)), .val (.int (Int32.ofNat (pre.flatMap chs).length)), .val (.int cx), s8, s9, s10] [(.int (3 : Int32))])
      refine s_istore W18 d9_36 (l' := #[.val (.ref a), .val (.ref sx), .val (.ref key), .val (.int (Int32.ofNat po)), .val (.int (Int32.ofNat po + Int32.ofNat ww)), .val (.int (Int32.ofNat A)), .val (.int (Int32.ofNat (pre.flatMap chs).length)), .val (.int cx), .val (.int (3 : Int32)), s9, s10]) (g8.st rfl rfl) (pc' := 38) rfl ?_
      refine s_iload W18 d9_38 rfl (pc' := 40) rfl ?_
      refine s_ifne W18 d9_40 (by decide) (pc1 := 50) (by decide) (pc2 := 43) rfl ?_ (fun q => absurd q hc0)
      intro q40
      refine s_iload W18 d9_50 rfl (pc' := 52) rfl ?_
      refine s_ldcI W18 (w_116 hw) d9_52 (pc' := 54) rfl ?_
      refine s_icmplt W18 d9_54 (by decide) (pc1 := 86) (by decide) (pc2 := 57) rfl ?_ ?_
      · intro q54
        refine s_iload W18 d9_86 rfl (pc' := 88) rfl ?_
        refine s_iload W18 d9_88 rfl (pc' := 90) rfl ?_
        refine s_iadd W18 d9_90 (pc' := 91) rfl ?_
        rw [show Int32.ofNat A + (3 : Int32) = Int32.ofNat (A + 3) from ofN_add (k := 3) (by omega)]
        show Go p e below _ T18 (mkF m 91 #[.val (.ref a), .val (.ref sx), .val (.ref key), .val (.int (Int32.ofNat po)), .val (.int (Int32.ofNat po + Int32.ofNat ww)), .val (.int (Int32.ofNat A)), .val (.int (Int32.ofNat (pre.flatMap chs).length)), .val (.int cx), .val (.int (3 : Int32)), s9, s10] [(.int (Int32.ofNat (A + 3)))])
        refine s_iload W18 d9_91 rfl (pc' := 93) rfl ?_
        refine s_icmple W18 d9_93 (by decide) (pc1 := 118) (by decide) (pc2 := 96) rfl ?_ (fun q => absurd q (nlt32 (by rw [show Int32.ofNat po + Int32.ofNat ww = Int32.ofNat (po + ww) from ofN_add (by omega), ofN (by omega), ofN (by omega)]; omega)))
        intro q93
        refine s_iload W18 d9_118 rfl (pc' := 120) rfl ?_
        refine s_istore W18 d9_120 (l' := #[.val (.ref a), .val (.ref sx), .val (.ref key), .val (.int (Int32.ofNat po)), .val (.int (Int32.ofNat po + Int32.ofNat ww)), .val (.int (Int32.ofNat A)), .val (.int (Int32.ofNat (pre.flatMap chs).length)), .val (.int cx), .val (.int (3 : Int32)), .val (.int cx), s10]) (g9.st rfl rfl) (pc' := 122) rfl ?_
        refine s_iload W18 d9_122 rfl (pc' := 124) rfl ?_
        refine s_iload W18 d9_124 rfl (pc' := 126) rfl ?_
        refine s_iadd W18 d9_126 (pc' := 127) rfl ?_
        refine s_iconst W18 d9_127 (v := (1 : Int32)) (by decide) (pc' := 128) rfl ?_
        refine s_isub W18 d9_128 (pc' := 129) rfl ?_
        rw [show Int32.ofNat A + (3 : Int32) - (1 : Int32) = Int32.ofNat (A + 2) from by rw [show Int32.ofNat A + (3 : Int32) = Int32.ofNat (A + 3) from ofN_add (k := 3) (by omega)]; exact sub_nat (b := 1) (by omega) (by omega)]
        show Go p e below _ T18 (mkF m 129 #[.val (.ref a), .val (.ref sx), .val (.ref key), .val (.int (Int32.ofNat po)), .val (.int (Int32.ofNat po + Int32.ofNat ww)), .val (.int (Int32.ofNat A)), .val (.int (Int32.ofNat (pre.flatMap chs).length)), .val (.int cx), .val (.int (3 : Int32)), .val (.int cx), s10] [(.int (Int32.ofNat (A + 2)))])
        refine s_istore W18 d9_129 (l' := #[.val (.ref a), .val (.ref sx), .val (.ref key), .val (.int (Int32.ofNat po)), .val (.int (Int32.ofNat po + Int32.ofNat ww)), .val (.int (Int32.ofNat A)), .val (.int (Int32.ofNat (pre.flatMap chs).length)), .val (.int cx), .val (.int (3 : Int32)), .val (.int cx), .val (.int (Int32.ofNat (A + 2)))]) (g10.st rfl rfl) (pc' := 131) rfl ?_
        refine s_iload W18 d9_131 rfl (pc' := 133) rfl ?_
        refine s_iload W18 d9_133 rfl (pc' := 135) rfl ?_
        refine s_icmple W18 d9_135 (by decide) (pc1 := 165) (by decide) (pc2 := 138) rfl (fun q => absurd q (fun q' => q' (lt32 (by rw [ofN (by omega), ofN (by omega)]; omega)))) ?_
        intro q135
        refine s_aloadN W18 d9_138 rfl rfl (pc' := 139) rfl ?_
        refine s_iload W18 d9_139 rfl (pc' := 141) rfl ?_
        refine s_sipush W18 d9_141 (v := (128 : Int32)) (by decide) (pc' := 144) rfl ?_
        refine s_iload W18 d9_144 rfl (pc' := 146) rfl ?_
        refine s_bipush W18 d9_146 (v := (63 : Int32)) (by decide) (pc' := 148) rfl ?_
        refine s_iand W18 d9_148 (pc' := 149) rfl ?_
        refine s_ior W18 d9_149 (pc' := 150) rfl ?_
        refine s_i2b W18 d9_150 (pc' := 151) rfl ?_
        refine gStB W18 n0_key (List.mem_of_getElem? (i := 0) rfl) V1 (idxM (ofN (show (A + 2) < 2147483648 by omega)) hz16 (by omega)).1 (i := (A + 2)) (idxM (ofN (show (A + 2) < 2147483648 by omega)) hz16 (by omega)).2 (by simp only [List.length_set, List.length_map]; omega) d9_151 (pc' := 152) rfl ?_
        intro T19 h19 W19 K19 Vx2
        rw [bb8] at Vx2
        have z19 : h1.size ≤ h19.size := K19.1
        refine s_iload W19 d9_152 rfl (pc' := 154) rfl ?_
        refine s_bipush W19 d9_154 (v := (6 : Int32)) (by decide) (pc' := 156) rfl ?_
        refine s_iushr W19 d9_156 (pc' := 157) rfl ?_
        rw [show ((cx.toUInt32 >>> ((6 : Int32) &&& 31).toUInt32).toInt32) = u6 cx from rfl]
        show Go p e below _ T19 (mkF m 157 #[.val (.ref a), .val (.ref sx), .val (.ref key), .val (.int (Int32.ofNat po)), .val (.int (Int32.ofNat po + Int32.ofNat ww)), .val (.int (Int32.ofNat A)), .val (.int (Int32.ofNat (pre.flatMap chs).length)), .val (.int cx), .val (.int (3 : Int32)), .val (.int cx), .val (.int (Int32.ofNat (A + 2)))] [(.int (u6 cx))])
        refine s_istore W19 d9_157 (l' := #[.val (.ref a), .val (.ref sx), .val (.ref key), .val (.int (Int32.ofNat po)), .val (.int (Int32.ofNat po + Int32.ofNat ww)), .val (.int (Int32.ofNat A)), .val (.int (Int32.ofNat (pre.flatMap chs).length)), .val (.int cx), .val (.int (3 : Int32)), .val (.int (u6 cx)), .val (.int (Int32.ofNat (A + 2)))]) rfl (pc' := 159) rfl ?_
        refine s_iinc W19 d9_159 (v := (-1 : Int32)) (by decide) rfl (l' := #[.val (.ref a), .val (.ref sx), .val (.ref key), .val (.int (Int32.ofNat po)), .val (.int (Int32.ofNat po + Int32.ofNat ww)), .val (.int (Int32.ofNat A)), .val (.int (Int32.ofNat (pre.flatMap chs).length)), .val (.int cx), .val (.int (3 : Int32)), .val (.int (u6 cx)), .val (.int ((Int32.ofNat (A + 2)) + (-1 : Int32)))]) rfl (pc' := 162) rfl ?_
        rw [show Int32.ofNat (A + 2) + (-1 : Int32) = Int32.ofNat (A + 1) from by rw [show (-1 : Int32) = -(Int32.ofNat 1) from by decide, ← Int32.sub_eq_add_neg]; exact sub_nat (b := 1) (by omega) (by omega)]
        show Go p e below _ T19 (mkF m 162 #[.val (.ref a), .val (.ref sx), .val (.ref key), .val (.int (Int32.ofNat po)), .val (.int (Int32.ofNat po + Int32.ofNat ww)), .val (.int (Int32.ofNat A)), .val (.int (Int32.ofNat (pre.flatMap chs).length)), .val (.int cx), .val (.int (3 : Int32)), .val (.int (u6 cx)), .val (.int (Int32.ofNat (A + 1)))] [])
        refine s_goto W19 d9_162 (by decide) (pc' := 131) (by decide) ?_
        refine s_iload W19 d9_131 rfl (pc' := 133) rfl ?_
        refine s_iload W19 d9_133 rfl (pc' := 135) rfl ?_
        refine s_icmple W19 d9_135 (by decide) (pc1 := 165) (by decide) (pc2 := 138) rfl (fun q => absurd q (fun q' => q' (lt32 (by rw [ofN (by omega), ofN (by omega)]; omega)))) ?_
        intro q135
        refine s_aloadN W19 d9_138 rfl rfl (pc' := 139) rfl ?_
        refine s_iload W19 d9_139 rfl (pc' := 141) rfl ?_
        refine s_sipush W19 d9_141 (v := (128 : Int32)) (by decide) (pc' := 144) rfl ?_
        refine s_iload W19 d9_144 rfl (pc' := 146) rfl ?_
        refine s_bipush W19 d9_146 (v := (63 : Int32)) (by decide) (pc' := 148) rfl ?_
        refine s_iand W19 d9_148 (pc' := 149) rfl ?_
        refine s_ior W19 d9_149 (pc' := 150) rfl ?_
        refine s_i2b W19 d9_150 (pc' := 151) rfl ?_
        refine gStB W19 n0_key (List.mem_of_getElem? (i := 0) rfl) Vx2 (idxM (ofN (show (A + 1) < 2147483648 by omega)) hz16 (by omega)).1 (i := (A + 1)) (idxM (ofN (show (A + 1) < 2147483648 by omega)) hz16 (by omega)).2 (by simp only [List.length_set, List.length_map]; omega) d9_151 (pc' := 152) rfl ?_
        intro T20 h20 W20 K20 Vx1
        rw [bb8] at Vx1
        have z20 : h19.size ≤ h20.size := K20.1
        refine s_iload W20 d9_152 rfl (pc' := 154) rfl ?_
        refine s_bipush W20 d9_154 (v := (6 : Int32)) (by decide) (pc' := 156) rfl ?_
        refine s_iushr W20 d9_156 (pc' := 157) rfl ?_
        rw [show (((u6 cx).toUInt32 >>> ((6 : Int32) &&& 31).toUInt32).toInt32) = u6 (u6 cx) from rfl]
        show Go p e below _ T20 (mkF m 157 #[.val (.ref a), .val (.ref sx), .val (.ref key), .val (.int (Int32.ofNat po)), .val (.int (Int32.ofNat po + Int32.ofNat ww)), .val (.int (Int32.ofNat A)), .val (.int (Int32.ofNat (pre.flatMap chs).length)), .val (.int cx), .val (.int (3 : Int32)), .val (.int (u6 cx)), .val (.int (Int32.ofNat (A + 1)))] [(.int (u6 (u6 cx)))])
        refine s_istore W20 d9_157 (l' := #[.val (.ref a), .val (.ref sx), .val (.ref key), .val (.int (Int32.ofNat po)), .val (.int (Int32.ofNat po + Int32.ofNat ww)), .val (.int (Int32.ofNat A)), .val (.int (Int32.ofNat (pre.flatMap chs).length)), .val (.int cx), .val (.int (3 : Int32)), .val (.int (u6 (u6 cx))), .val (.int (Int32.ofNat (A + 1)))]) rfl (pc' := 159) rfl ?_
        refine s_iinc W20 d9_159 (v := (-1 : Int32)) (by decide) rfl (l' := #[.val (.ref a), .val (.ref sx), .val (.ref key), .val (.int (Int32.ofNat po)), .val (.int (Int32.ofNat po + Int32.ofNat ww)), .val (.int (Int32.ofNat A)), .val (.int (Int32.ofNat (pre.flatMap chs).length)), .val (.int cx), .val (.int (3 : Int32)), .val (.int (u6 (u6 cx))), .val (.int ((Int32.ofNat (A + 1)) + (-1 : Int32)))]) rfl (pc' := 162) rfl ?_
        rw [show Int32.ofNat (A + 1) + (-1 : Int32) = Int32.ofNat (A + 0) from by rw [show (-1 : Int32) = -(Int32.ofNat 1) from by decide, ← Int32.sub_eq_add_neg]; exact sub_nat (b := 1) (by omega) (by omega)]
        show Go p e below _ T20 (mkF m 162 #[.val (.ref a), .val (.ref sx), .val (.ref key), .val (.int (Int32.ofNat po)), .val (.int (Int32.ofNat po + Int32.ofNat ww)), .val (.int (Int32.ofNat A)), .val (.int (Int32.ofNat (pre.flatMap chs).length)), .val (.int cx), .val (.int (3 : Int32)), .val (.int (u6 (u6 cx))), .val (.int (Int32.ofNat (A + 0)))] [])
        refine s_goto W20 d9_162 (by decide) (pc' := 131) (by decide) ?_
        refine s_iload W20 d9_131 rfl (pc' := 133) rfl ?_
        refine s_iload W20 d9_133 rfl (pc' := 135) rfl ?_
        refine s_icmple W20 d9_135 (by decide) (pc1 := 165) (by decide) (pc2 := 138) rfl ?_ (fun q => absurd q (nlt32 (by rw [ofN (by omega), ofN (by omega)]; omega)))
        intro q135
        refine s_aloadN W20 d9_165 rfl rfl (pc' := 166) rfl ?_
        refine s_iload W20 d9_166 rfl (pc' := 168) rfl ?_
        refine gGetS W20 (host := "") (Or.inl (w_117 hw)) Via.refl (SLB.ext W20.old.2) d9_168 (pc' := 171) rfl ?_
        intro T21 W21
        refine s_iload W21 d9_171 rfl (pc' := 173) rfl ?_
        refine gLdI W21 (VLB.ext W21.old.2) ⟨by decide, by decide⟩ (v := .int (224 : Int32)) rfl d9_173 (pc' := 174) rfl ?_
        refine s_iload W21 d9_174 rfl (pc' := 176) rfl ?_
        refine s_ior W21 d9_176 (pc' := 177) rfl ?_
        refine s_i2b W21 d9_177 (pc' := 178) rfl ?_
        refine gStB W21 n0_key (List.mem_of_getElem? (i := 0) rfl) Vx1 (idxM (ofN (show A < 2147483648 by omega)) hz16 (by omega)).1 (i := A) (idxM (ofN (show A < 2147483648 by omega)) hz16 (by omega)).2 (by simp only [List.length_set, List.length_map]; omega) d9_178 (pc' := 179) rfl ?_
        intro T22 h22 W22 K22 Vx0
        rw [bb8] at Vx0
        have z22 : h20.size ≤ h22.size := K22.1
        refine s_iload W22 d9_179 rfl (pc' := 181) rfl ?_
        refine s_iload W22 d9_181 rfl (pc' := 183) rfl ?_
        refine s_iadd W22 d9_183 (pc' := 184) rfl ?_
        rw [show Int32.ofNat A + (3 : Int32) = Int32.ofNat (A + 3) from ofN_add (k := 3) (by omega)]
        show Go p e below _ T22 (mkF m 184 #[.val (.ref a), .val (.ref sx), .val (.ref key), .val (.int (Int32.ofNat po)), .val (.int (Int32.ofNat po + Int32.ofNat ww)), .val (.int (Int32.ofNat A)), .val (.int (Int32.ofNat (pre.flatMap chs).length)), .val (.int cx), .val (.int (3 : Int32)), .val (.int (u6 (u6 cx))), .val (.int (Int32.ofNat (A + 0)))] [(.int (Int32.ofNat (A + 3)))])
        refine s_istore W22 d9_184 (l' := #[.val (.ref a), .val (.ref sx), .val (.ref key), .val (.int (Int32.ofNat po)), .val (.int (Int32.ofNat po + Int32.ofNat ww)), .val (.int (Int32.ofNat (A + 3))), .val (.int (Int32.ofNat (pre.flatMap chs).length)), .val (.int cx), .val (.int (3 : Int32)), .val (.int (u6 (u6 cx))), .val (.int (Int32.ofNat (A + 0)))]) rfl (pc' := 186) rfl ?_
        refine s_iload W22 d9_186 rfl (pc' := 188) rfl ?_
        refine s_iload W22 d9_188 rfl (pc' := 190) rfl ?_
        refine gStatic W22 (w_119 hw) (w_120 hw) (w_121 hw) (w_122 hw) (by decide) pd_0 (ct_ccnt hw hEL [] cx h22) (by simp) d9_190 (pc' := 193) rfl rfl (argsL := [(.int cx)]) rfl rfl (rest := [(.int (Int32.ofNat (pre.flatMap chs).length))]) rfl (wt := 1) (Nat.le_of_eq rfl) (by decide) (by decide) (by decide) (by decide) ?_
        rintro v23 T23 h23 W23 z23 ⟨rfl, rfl⟩
        show Go p e below _ T23 (mkF m 193 #[.val (.ref a), .val (.ref sx), .val (.ref key), .val (.int (Int32.ofNat po)), .val (.int (Int32.ofNat po + Int32.ofNat ww)), .val (.int (Int32.ofNat (A + 3))), .val (.int (Int32.ofNat (pre.flatMap chs).length)), .val (.int cx), .val (.int (3 : Int32)), .val (.int (u6 (u6 cx))), .val (.int (Int32.ofNat (A + 0)))] [(.int (Int32.ofNat (cnt cx))), (.int (Int32.ofNat (pre.flatMap chs).length))])
        refine s_iadd W23 d9_193 (pc' := 194) rfl ?_
        have hcn : cnt cx ≤ 2 := by unfold cnt; split <;> omega
        rw [show Int32.ofNat (pre.flatMap chs).length + Int32.ofNat (cnt cx) = Int32.ofNat ((pre ++ [cx]).flatMap chs).length from by rw [clen_snoc]; exact ofN_add (by omega)]
        show Go p e below _ T23 (mkF m 194 #[.val (.ref a), .val (.ref sx), .val (.ref key), .val (.int (Int32.ofNat po)), .val (.int (Int32.ofNat po + Int32.ofNat ww)), .val (.int (Int32.ofNat (A + 3))), .val (.int (Int32.ofNat (pre.flatMap chs).length)), .val (.int cx), .val (.int (3 : Int32)), .val (.int (u6 (u6 cx))), .val (.int (Int32.ofNat (A + 0)))] [(.int (Int32.ofNat ((pre ++ [cx]).flatMap chs).length))])
        refine s_istore W23 d9_194 (l' := #[.val (.ref a), .val (.ref sx), .val (.ref key), .val (.int (Int32.ofNat po)), .val (.int (Int32.ofNat po + Int32.ofNat ww)), .val (.int (Int32.ofNat (A + 3))), .val (.int (Int32.ofNat ((pre ++ [cx]).flatMap chs).length)), .val (.int cx), .val (.int (3 : Int32)), .val (.int (u6 (u6 cx))), .val (.int (Int32.ofNat (A + 0)))]) rfl (pc' := 196) rfl ?_
        refine s_goto W23 d9_196 (by decide) (pc' := 14) (by decide) ?_
        have eA : A + 3 = po + usum (pre ++ [cx]) := by rw [usum_app, hA, show usum [cx] = usz cx + 0 from rfl, hs]; omega
        rw [eA]
        refine ih (pre ++ [cx]) (by rw [hsp, List.append_assoc]; rfl) T23 h22 _ _ _ _ (One1.i _) (One1.i _) (One1.i _) (One1.i _) W23 ?_ ?_
        · exact (((K1.trans K19 (allS (Or.inl (by simp)) all0)).trans K20 (allS (Or.inl (by simp)) all0)).trans K22 (allS (Or.inl (by simp)) all0))
        · rw [wrs_snoc, ← hA, ← enc3 hs]; exact Vx0
      · intro q54
        have r54 : ¬ cx.toInt < 55296 := fun q => q54 (lt32 (by rw [show (55296 : Int32).toInt = 55296 from by decide]; exact q))
        refine s_iload W18 d9_57 rfl (pc' := 59) rfl ?_
        refine s_ldcI W18 (w_165 hw) d9_59 (pc' := 61) rfl ?_
        refine s_icmpgt W18 d9_61 (by decide) (pc1 := 86) (by decide) (pc2 := 64) rfl ?_ (fun q => absurd q (fun q' => q' (lt32 (by rw [show (57343 : Int32).toInt = 57343 from by decide]; omega))))
        intro q61
        refine s_iload W18 d9_86 rfl (pc' := 88) rfl ?_
        refine s_iload W18 d9_88 rfl (pc' := 90) rfl ?_
        refine s_iadd W18 d9_90 (pc' := 91) rfl ?_
        rw [show Int32.ofNat A + (3 : Int32) = Int32.ofNat (A + 3) from ofN_add (k := 3) (by omega)]
        show Go p e below _ T18 (mkF m 91 #[.val (.ref a), .val (.ref sx), .val (.ref key), .val (.int (Int32.ofNat po)), .val (.int (Int32.ofNat po + Int32.ofNat ww)), .val (.int (Int32.ofNat A)), .val (.int (Int32.ofNat (pre.flatMap chs).length)), .val (.int cx), .val (.int (3 : Int32)), s9, s10] [(.int (Int32.ofNat (A + 3)))])
        refine s_iload W18 d9_91 rfl (pc' := 93) rfl ?_
        refine s_icmple W18 d9_93 (by decide) (pc1 := 118) (by decide) (pc2 := 96) rfl ?_ (fun q => absurd q (nlt32 (by rw [show Int32.ofNat po + Int32.ofNat ww = Int32.ofNat (po + ww) from ofN_add (by omega), ofN (by omega), ofN (by omega)]; omega)))
        intro q93
        refine s_iload W18 d9_118 rfl (pc' := 120) rfl ?_
        refine s_istore W18 d9_120 (l' := #[.val (.ref a), .val (.ref sx), .val (.ref key), .val (.int (Int32.ofNat po)), .val (.int (Int32.ofNat po + Int32.ofNat ww)), .val (.int (Int32.ofNat A)), .val (.int (Int32.ofNat (pre.flatMap chs).length)), .val (.int cx), .val (.int (3 : Int32)), .val (.int cx), s10]) (g9.st rfl rfl) (pc' := 122) rfl ?_
        refine s_iload W18 d9_122 rfl (pc' := 124) rfl ?_
        refine s_iload W18 d9_124 rfl (pc' := 126) rfl ?_
        refine s_iadd W18 d9_126 (pc' := 127) rfl ?_
        refine s_iconst W18 d9_127 (v := (1 : Int32)) (by decide) (pc' := 128) rfl ?_
        refine s_isub W18 d9_128 (pc' := 129) rfl ?_
        rw [show Int32.ofNat A + (3 : Int32) - (1 : Int32) = Int32.ofNat (A + 2) from by rw [show Int32.ofNat A + (3 : Int32) = Int32.ofNat (A + 3) from ofN_add (k := 3) (by omega)]; exact sub_nat (b := 1) (by omega) (by omega)]
        show Go p e below _ T18 (mkF m 129 #[.val (.ref a), .val (.ref sx), .val (.ref key), .val (.int (Int32.ofNat po)), .val (.int (Int32.ofNat po + Int32.ofNat ww)), .val (.int (Int32.ofNat A)), .val (.int (Int32.ofNat (pre.flatMap chs).length)), .val (.int cx), .val (.int (3 : Int32)), .val (.int cx), s10] [(.int (Int32.ofNat (A + 2)))])
        refine s_istore W18 d9_129 (l' := #[.val (.ref a), .val (.ref sx), .val (.ref key), .val (.int (Int32.ofNat po)), .val (.int (Int32.ofNat po + Int32.ofNat ww)), .val (.int (Int32.ofNat A)), .val (.int (Int32.ofNat (pre.flatMap chs).length)), .val (.int cx), .val (.int (3 : Int32)), .val (.int cx), .val (.int (Int32.ofNat (A + 2)))]) (g10.st rfl rfl) (pc' := 131) rfl ?_
        refine s_iload W18 d9_131 rfl (pc' := 133) rfl ?_
        refine s_iload W18 d9_133 rfl (pc' := 135) rfl ?_
        refine s_icmple W18 d9_135 (by decide) (pc1 := 165) (by decide) (pc2 := 138) rfl (fun q => absurd q (fun q' => q' (lt32 (by rw [ofN (by omega), ofN (by omega)]; omega)))) ?_
        intro q135
        refine s_aloadN W18 d9_138 rfl rfl (pc' := 139) rfl ?_
        refine s_iload W18 d9_139 rfl (pc' := 141) rfl ?_
        refine s_sipush W18 d9_141 (v := (128 : Int32)) (by decide) (pc' := 144) rfl ?_
        refine s_iload W18 d9_144 rfl (pc' := 146) rfl ?_
        refine s_bipush W18 d9_146 (v := (63 : Int32)) (by decide) (pc' := 148) rfl ?_
        refine s_iand W18 d9_148 (pc' := 149) rfl ?_
        refine s_ior W18 d9_149 (pc' := 150) rfl ?_
        refine s_i2b W18 d9_150 (pc' := 151) rfl ?_
        refine gStB W18 n0_key (List.mem_of_getElem? (i := 0) rfl) V1 (idxM (ofN (show (A + 2) < 2147483648 by omega)) hz16 (by omega)).1 (i := (A + 2)) (idxM (ofN (show (A + 2) < 2147483648 by omega)) hz16 (by omega)).2 (by simp only [List.length_set, List.length_map]; omega) d9_151 (pc' := 152) rfl ?_
        intro T24 h24 W24 K24 Vx2
        rw [bb8] at Vx2
        have z24 : h1.size ≤ h24.size := K24.1
        refine s_iload W24 d9_152 rfl (pc' := 154) rfl ?_
        refine s_bipush W24 d9_154 (v := (6 : Int32)) (by decide) (pc' := 156) rfl ?_
        refine s_iushr W24 d9_156 (pc' := 157) rfl ?_
        rw [show ((cx.toUInt32 >>> ((6 : Int32) &&& 31).toUInt32).toInt32) = u6 cx from rfl]
        show Go p e below _ T24 (mkF m 157 #[.val (.ref a), .val (.ref sx), .val (.ref key), .val (.int (Int32.ofNat po)), .val (.int (Int32.ofNat po + Int32.ofNat ww)), .val (.int (Int32.ofNat A)), .val (.int (Int32.ofNat (pre.flatMap chs).length)), .val (.int cx), .val (.int (3 : Int32)), .val (.int cx), .val (.int (Int32.ofNat (A + 2)))] [(.int (u6 cx))])
        refine s_istore W24 d9_157 (l' := #[.val (.ref a), .val (.ref sx), .val (.ref key), .val (.int (Int32.ofNat po)), .val (.int (Int32.ofNat po + Int32.ofNat ww)), .val (.int (Int32.ofNat A)), .val (.int (Int32.ofNat (pre.flatMap chs).length)), .val (.int cx), .val (.int (3 : Int32)), .val (.int (u6 cx)), .val (.int (Int32.ofNat (A + 2)))]) rfl (pc' := 159) rfl ?_
        refine s_iinc W24 d9_159 (v := (-1 : Int32)) (by decide) rfl (l' := #[.val (.ref a), .val (.ref sx), .val (.ref key), .val (.int (Int32.ofNat po)), .val (.int (Int32.ofNat po + Int32.ofNat ww)), .val (.int (Int32.ofNat A)), .val (.int (Int32.ofNat (pre.flatMap chs).length)), .val (.int cx), .val (.int (3 : Int32)), .val (.int (u6 cx)), .val (.int ((Int32.ofNat (A + 2)) + (-1 : Int32)))]) rfl (pc' := 162) rfl ?_
        rw [show Int32.ofNat (A + 2) + (-1 : Int32) = Int32.ofNat (A + 1) from by rw [show (-1 : Int32) = -(Int32.ofNat 1) from by decide, ← Int32.sub_eq_add_neg]; exact sub_nat (b := 1) (by omega) (by omega)]
        show Go p e below _ T24 (mkF m 162 #[.val (.ref a), .val (.ref sx), .val (.ref key), .val (.int (Int32.ofNat po)), .val (.int (Int32.ofNat po + Int32.ofNat ww)), .val (.int (Int32.ofNat A)), .val (.int (Int32.ofNat (pre.flatMap chs).length)), .val (.int cx), .val (.int (3 : Int32)), .val (.int (u6 cx)), .val (.int (Int32.ofNat (A + 1)))] [])
        refine s_goto W24 d9_162 (by decide) (pc' := 131) (by decide) ?_
        refine s_iload W24 d9_131 rfl (pc' := 133) rfl ?_
        refine s_iload W24 d9_133 rfl (pc' := 135) rfl ?_
        refine s_icmple W24 d9_135 (by decide) (pc1 := 165) (by decide) (pc2 := 138) rfl (fun q => absurd q (fun q' => q' (lt32 (by rw [ofN (by omega), ofN (by omega)]; omega)))) ?_
        intro q135
        refine s_aloadN W24 d9_138 rfl rfl (pc' := 139) rfl ?_
        refine s_iload W24 d9_139 rfl (pc' := 141) rfl ?_
        refine s_sipush W24 d9_141 (v := (128 : Int32)) (by decide) (pc' := 144) rfl ?_
        refine s_iload W24 d9_144 rfl (pc' := 146) rfl ?_
        refine s_bipush W24 d9_146 (v := (63 : Int32)) (by decide) (pc' := 148) rfl ?_
        refine s_iand W24 d9_148 (pc' := 149) rfl ?_
        refine s_ior W24 d9_149 (pc' := 150) rfl ?_
        refine s_i2b W24 d9_150 (pc' := 151) rfl ?_
        refine gStB W24 n0_key (List.mem_of_getElem? (i := 0) rfl) Vx2 (idxM (ofN (show (A + 1) < 2147483648 by omega)) hz16 (by omega)).1 (i := (A + 1)) (idxM (ofN (show (A + 1) < 2147483648 by omega)) hz16 (by omega)).2 (by simp only [List.length_set, List.length_map]; omega) d9_151 (pc' := 152) rfl ?_
        intro T25 h25 W25 K25 Vx1
        rw [bb8] at Vx1
        have z25 : h24.size ≤ h25.size := K25.1
        refine s_iload W25 d9_152 rfl (pc' := 154) rfl ?_
        refine s_bipush W25 d9_154 (v := (6 : Int32)) (by decide) (pc' := 156) rfl ?_
        refine s_iushr W25 d9_156 (pc' := 157) rfl ?_
        rw [show (((u6 cx).toUInt32 >>> ((6 : Int32) &&& 31).toUInt32).toInt32) = u6 (u6 cx) from rfl]
        show Go p e below _ T25 (mkF m 157 #[.val (.ref a), .val (.ref sx), .val (.ref key), .val (.int (Int32.ofNat po)), .val (.int (Int32.ofNat po + Int32.ofNat ww)), .val (.int (Int32.ofNat A)), .val (.int (Int32.ofNat (pre.flatMap chs).length)), .val (.int cx), .val (.int (3 : Int32)), .val (.int (u6 cx)), .val (.int (Int32.ofNat (A + 1)))] [(.int (u6 (u6 cx)))])
        refine s_istore W25 d9_157 (l' := #[.val (.ref a), .val (.ref sx), .val (.ref key), .val (.int (Int32.ofNat po)), .val (.int (Int32.ofNat po + Int32.ofNat ww)), .val (.int (Int32.ofNat A)), .val (.int (Int32.ofNat (pre.flatMap chs).length)), .val (.int cx), .val (.int (3 : Int32)), .val (.int (u6 (u6 cx))), .val (.int (Int32.ofNat (A + 1)))]) rfl (pc' := 159) rfl ?_
        refine s_iinc W25 d9_159 (v := (-1 : Int32)) (by decide) rfl (l' := #[.val (.ref a), .val (.ref sx), .val (.ref key), .val (.int (Int32.ofNat po)), .val (.int (Int32.ofNat po + Int32.ofNat ww)), .val (.int (Int32.ofNat A)), .val (.int (Int32.ofNat (pre.flatMap chs).length)), .val (.int cx), .val (.int (3 : Int32)), .val (.int (u6 (u6 cx))), .val (.int ((Int32.ofNat (A + 1)) + (-1 : Int32)))]) rfl (pc' := 162) rfl ?_
        rw [show Int32.ofNat (A + 1) + (-1 : Int32) = Int32.ofNat (A + 0) from by rw [show (-1 : Int32) = -(Int32.ofNat 1) from by decide, ← Int32.sub_eq_add_neg]; exact sub_nat (b := 1) (by omega) (by omega)]
        show Go p e below _ T25 (mkF m 162 #[.val (.ref a), .val (.ref sx), .val (.ref key), .val (.int (Int32.ofNat po)), .val (.int (Int32.ofNat po + Int32.ofNat ww)), .val (.int (Int32.ofNat A)), .val (.int (Int32.ofNat (pre.flatMap chs).length)), .val (.int cx), .val (.int (3 : Int32)), .val (.int (u6 (u6 cx))), .val (.int (Int32.ofNat (A + 0)))] [])
        refine s_goto W25 d9_162 (by decide) (pc' := 131) (by decide) ?_
        refine s_iload W25 d9_131 rfl (pc' := 133) rfl ?_
        refine s_iload W25 d9_133 rfl (pc' := 135) rfl ?_
        refine s_icmple W25 d9_135 (by decide) (pc1 := 165) (by decide) (pc2 := 138) rfl ?_ (fun q => absurd q (nlt32 (by rw [ofN (by omega), ofN (by omega)]; omega)))
        intro q135
        refine s_aloadN W25 d9_165 rfl rfl (pc' := 166) rfl ?_
        refine s_iload W25 d9_166 rfl (pc' := 168) rfl ?_
        refine gGetS W25 (host := "") (Or.inl (w_117 hw)) Via.refl (SLB.ext W25.old.2) d9_168 (pc' := 171) rfl ?_
        intro T26 W26
        refine s_iload W26 d9_171 rfl (pc' := 173) rfl ?_
        refine gLdI W26 (VLB.ext W26.old.2) ⟨by decide, by decide⟩ (v := .int (224 : Int32)) rfl d9_173 (pc' := 174) rfl ?_
        refine s_iload W26 d9_174 rfl (pc' := 176) rfl ?_
        refine s_ior W26 d9_176 (pc' := 177) rfl ?_
        refine s_i2b W26 d9_177 (pc' := 178) rfl ?_
        refine gStB W26 n0_key (List.mem_of_getElem? (i := 0) rfl) Vx1 (idxM (ofN (show A < 2147483648 by omega)) hz16 (by omega)).1 (i := A) (idxM (ofN (show A < 2147483648 by omega)) hz16 (by omega)).2 (by simp only [List.length_set, List.length_map]; omega) d9_178 (pc' := 179) rfl ?_
        intro T27 h27 W27 K27 Vx0
        rw [bb8] at Vx0
        have z27 : h25.size ≤ h27.size := K27.1
        refine s_iload W27 d9_179 rfl (pc' := 181) rfl ?_
        refine s_iload W27 d9_181 rfl (pc' := 183) rfl ?_
        refine s_iadd W27 d9_183 (pc' := 184) rfl ?_
        rw [show Int32.ofNat A + (3 : Int32) = Int32.ofNat (A + 3) from ofN_add (k := 3) (by omega)]
        show Go p e below _ T27 (mkF m 184 #[.val (.ref a), .val (.ref sx), .val (.ref key), .val (.int (Int32.ofNat po)), .val (.int (Int32.ofNat po + Int32.ofNat ww)), .val (.int (Int32.ofNat A)), .val (.int (Int32.ofNat (pre.flatMap chs).length)), .val (.int cx), .val (.int (3 : Int32)), .val (.int (u6 (u6 cx))), .val (.int (Int32.ofNat (A + 0)))] [(.int (Int32.ofNat (A + 3)))])
        refine s_istore W27 d9_184 (l' := #[.val (.ref a), .val (.ref sx), .val (.ref key), .val (.int (Int32.ofNat po)), .val (.int (Int32.ofNat po + Int32.ofNat ww)), .val (.int (Int32.ofNat (A + 3))), .val (.int (Int32.ofNat (pre.flatMap chs).length)), .val (.int cx), .val (.int (3 : Int32)), .val (.int (u6 (u6 cx))), .val (.int (Int32.ofNat (A + 0)))]) rfl (pc' := 186) rfl ?_
        refine s_iload W27 d9_186 rfl (pc' := 188) rfl ?_
        refine s_iload W27 d9_188 rfl (pc' := 190) rfl ?_
        refine gStatic W27 (w_119 hw) (w_120 hw) (w_121 hw) (w_122 hw) (by decide) pd_0 (ct_ccnt hw hEL [] cx h27) (by simp) d9_190 (pc' := 193) rfl rfl (argsL := [(.int cx)]) rfl rfl (rest := [(.int (Int32.ofNat (pre.flatMap chs).length))]) rfl (wt := 1) (Nat.le_of_eq rfl) (by decide) (by decide) (by decide) (by decide) ?_
        rintro v28 T28 h28 W28 z28 ⟨rfl, rfl⟩
        show Go p e below _ T28 (mkF m 193 #[.val (.ref a), .val (.ref sx), .val (.ref key), .val (.int (Int32.ofNat po)), .val (.int (Int32.ofNat po + Int32.ofNat ww)), .val (.int (Int32.ofNat (A + 3))), .val (.int (Int32.ofNat (pre.flatMap chs).length)), .val (.int cx), .val (.int (3 : Int32)), .val (.int (u6 (u6 cx))), .val (.int (Int32.ofNat (A + 0)))] [(.int (Int32.ofNat (cnt cx))), (.int (Int32.ofNat (pre.flatMap chs).length))])
        refine s_iadd W28 d9_193 (pc' := 194) rfl ?_
        have hcn : cnt cx ≤ 2 := by unfold cnt; split <;> omega
        rw [show Int32.ofNat (pre.flatMap chs).length + Int32.ofNat (cnt cx) = Int32.ofNat ((pre ++ [cx]).flatMap chs).length from by rw [clen_snoc]; exact ofN_add (by omega)]
        show Go p e below _ T28 (mkF m 194 #[.val (.ref a), .val (.ref sx), .val (.ref key), .val (.int (Int32.ofNat po)), .val (.int (Int32.ofNat po + Int32.ofNat ww)), .val (.int (Int32.ofNat (A + 3))), .val (.int (Int32.ofNat (pre.flatMap chs).length)), .val (.int cx), .val (.int (3 : Int32)), .val (.int (u6 (u6 cx))), .val (.int (Int32.ofNat (A + 0)))] [(.int (Int32.ofNat ((pre ++ [cx]).flatMap chs).length))])
        refine s_istore W28 d9_194 (l' := #[.val (.ref a), .val (.ref sx), .val (.ref key), .val (.int (Int32.ofNat po)), .val (.int (Int32.ofNat po + Int32.ofNat ww)), .val (.int (Int32.ofNat (A + 3))), .val (.int (Int32.ofNat ((pre ++ [cx]).flatMap chs).length)), .val (.int cx), .val (.int (3 : Int32)), .val (.int (u6 (u6 cx))), .val (.int (Int32.ofNat (A + 0)))]) rfl (pc' := 196) rfl ?_
        refine s_goto W28 d9_196 (by decide) (pc' := 14) (by decide) ?_
        have eA : A + 3 = po + usum (pre ++ [cx]) := by rw [usum_app, hA, show usum [cx] = usz cx + 0 from rfl, hs]; omega
        rw [eA]
        refine ih (pre ++ [cx]) (by rw [hsp, List.append_assoc]; rfl) T28 h27 _ _ _ _ (One1.i _) (One1.i _) (One1.i _) (One1.i _) W28 ?_ ?_
        · exact (((K1.trans K24 (allS (Or.inl (by simp)) all0)).trans K25 (allS (Or.inl (by simp)) all0)).trans K27 (allS (Or.inl (by simp)) all0))
        · rw [wrs_snoc, ← hA, ← enc3 hs]; exact Vx0
    · have rs := usz4 hs
      refine s_iload W1 d9_14 rfl (pc' := 16) rfl ?_
      refine s_aloadN W1 d9_16 rfl rfl (pc' := 17) rfl ?_
      refine gVirtual W1 S1.1 (w_64 hw) (w_65 hw) (fun s hZ => notFace_of_selects (args := #[]) (mv hZ (w_67 hw))) (w_67 hw) (w_66 hw) (w_18 hw) (w_68 hw) (by decide) pd_18 (ct_slen hw hEL [] sx d kd zz ccs cs h1 S1 lz (by omega) SCS hccs) (by simp) d9_17 (pc' := 20) rfl rfl (argsL := []) rfl rfl (rest := [(.int (Int32.ofNat (pre.flatMap chs).length))]) rfl (wt := 1) (Nat.le_of_eq rfl) (by decide) (by decide) (by decide) (by decide) ?_
      rintro v29 T29 h29 W29 z29 ⟨rfl, rfl⟩
      show Go p e below _ T29 (mkF m 20 #[.val (.ref a), .val (.ref sx), .val (.ref key), .val (.int (Int32.ofNat po)), .val (.int (Int32.ofNat po + Int32.ofNat ww)), .val (.int (Int32.ofNat A)), .val (.int (Int32.ofNat (pre.flatMap chs).length)), s7, s8, s9, s10] [(.int (Int32.ofNat cs.length)), (.int (Int32.ofNat (pre.flatMap chs).length))])
      refine s_icmpge W29 d9_20 (by decide) (pc1 := 199) (by decide) (pc2 := 23) rfl (fun q => absurd q (fun q' => q' (lt32 (by rw [ei, el]; omega)))) ?_
      intro q20
      refine s_aloadN W29 d9_23 rfl rfl (pc' := 24) rfl ?_
      refine s_iload W29 d9_24 rfl (pc' := 26) rfl ?_
      refine gVirtual W29 S1.1 (w_95 hw) (w_96 hw) (fun s hZ => notFace_of_selects (args := #[]) (mv hZ (w_98 hw))) (w_98 hw) (w_97 hw) (w_18 hw) (w_99 hw) (by decide) pd_0 (ct_cpA hw hEL [] sx d kd zz ccs cx fo (pre.flatMap chs).length cs h1 S1 lz hcs (by omega) hv hat SCS hccs SFO rfo SAD SHI SLO) (by simp) d9_26 (pc' := 29) rfl rfl (argsL := [(.int (Int32.ofNat (pre.flatMap chs).length))]) rfl rfl (rest := []) rfl (wt := 0) (Nat.le_of_eq rfl) (by decide) (by decide) (by decide) (by decide) ?_
      rintro v30 T30 h30 W30 z30 ⟨rfl, rfl⟩
      show Go p e below _ T30 (mkF m 29 #[.val (.ref a), .val (.ref sx), .val (.ref key), .val (.int (Int32.ofNat po)), .val (.int (Int32.ofNat po + Int32.ofNat ww)), .val (.int (Int32.ofNat A)), .val (.int (Int32.ofNat (pre.flatMap chs).length)), s7, s8, s9, s10] [(.int cx)])
      refine s_istore W30 d9_29 (l' := #[.val (.ref a), .val (.ref sx), .val (.ref key), .val (.int (Int32.ofNat po)), .val (.int (Int32.ofNat po + Int32.ofNat ww)), .val (.int (Int32.ofNat A)), .val (.int (Int32.ofNat (pre.flatMap chs).length)), .val (.int cx), s8, s9, s10]) (g7.st rfl rfl) (pc' := 31) rfl ?_
      refine s_iload W30 d9_31 rfl (pc' := 33) rfl ?_
      refine gStatic W30 (w_113 hw) (w_114 hw) (w_38 hw) (w_115 hw) (by decide) pd_0 (ct_usz hw hEL [] cx h1) (by simp) d9_33 (pc' := 36) rfl rfl (argsL := [(.int cx)]) rfl rfl (rest := []) rfl (wt := 0) (Nat.le_of_eq rfl) (by decide) (by decide) (by decide) (by decide) ?_
      rintro v31 T31 h31 W31 z31 ⟨rfl, rfl⟩
      rw [hs]
      show Go p e below _ T31 (mkF m 36 #[.val (.ref a), .val (.ref sx), .val (.ref key), .val (.int (Int32.ofNat po)), .val (.int (Int32.ofNat po + Int32.ofNat ww)), .val (.int (Int32.ofNat A)), .val (.int (Int32.ofNat (pre.flatMap chs).length)), .val (.int cx), s8, s9, s10] [(.int (4 : Int32))])
      refine s_istore W31 d9_36 (l' := #[.val (.ref a), .val (.ref sx), .val (.ref key), .val (.int (Int32.ofNat po)), .val (.int (Int32.ofNat po + Int32.ofNat ww)), .val (.int (Int32.ofNat A)), .val (.int (Int32.ofNat (pre.flatMap chs).length)), .val (.int cx), .val (.int (4 : Int32)), s9, s10]) (g8.st rfl rfl) (pc' := 38) rfl ?_
      refine s_iload W31 d9_38 rfl (pc' := 40) rfl ?_
      refine s_ifne W31 d9_40 (by decide) (pc1 := 50) (by decide) (pc2 := 43) rfl ?_ (fun q => absurd q hc0)
      intro q40
      refine s_iload W31 d9_50 rfl (pc' := 52) rfl ?_
      refine s_ldcI W31 (w_116 hw) d9_52 (pc' := 54) rfl ?_
      refine s_icmplt W31 d9_54 (by decide) (pc1 := 86) (by decide) (pc2 := 57) rfl (fun q => absurd q (nlt32 (by rw [show (55296 : Int32).toInt = 55296 from by decide]; omega))) ?_
      intro q54
      refine s_iload W31 d9_57 rfl (pc' := 59) rfl ?_
      refine s_ldcI W31 (w_165 hw) d9_59 (pc' := 61) rfl ?_
      refine s_icmpgt W31 d9_61 (by decide) (pc1 := 86) (by decide) (pc2 := 64) rfl ?_ (fun q => absurd q (fun q' => q' (lt32 (by rw [show (57343 : Int32).toInt = 57343 from by decide]; omega))))
      intro q61
      refine s_iload W31 d9_86 rfl (pc' := 88) rfl ?_
      refine s_iload W31 d9_88 rfl (pc' := 90) rfl ?_
      refine s_iadd W31 d9_90 (pc' := 91) rfl ?_
      rw [show Int32.ofNat A + (4 : Int32) = Int32.ofNat (A + 4) from ofN_add (k := 4) (by omega)]
      show Go p e below _ T31 (mkF m 91 #[.val (.ref a), .val (.ref sx), .val (.ref key), .val (.int (Int32.ofNat po)), .val (.int (Int32.ofNat po + Int32.ofNat ww)), .val (.int (Int32.ofNat A)), .val (.int (Int32.ofNat (pre.flatMap chs).length)), .val (.int cx), .val (.int (4 : Int32)), s9, s10] [(.int (Int32.ofNat (A + 4)))])
      refine s_iload W31 d9_91 rfl (pc' := 93) rfl ?_
      refine s_icmple W31 d9_93 (by decide) (pc1 := 118) (by decide) (pc2 := 96) rfl ?_ (fun q => absurd q (nlt32 (by rw [show Int32.ofNat po + Int32.ofNat ww = Int32.ofNat (po + ww) from ofN_add (by omega), ofN (by omega), ofN (by omega)]; omega)))
      intro q93
      refine s_iload W31 d9_118 rfl (pc' := 120) rfl ?_
      refine s_istore W31 d9_120 (l' := #[.val (.ref a), .val (.ref sx), .val (.ref key), .val (.int (Int32.ofNat po)), .val (.int (Int32.ofNat po + Int32.ofNat ww)), .val (.int (Int32.ofNat A)), .val (.int (Int32.ofNat (pre.flatMap chs).length)), .val (.int cx), .val (.int (4 : Int32)), .val (.int cx), s10]) (g9.st rfl rfl) (pc' := 122) rfl ?_
      refine s_iload W31 d9_122 rfl (pc' := 124) rfl ?_
      refine s_iload W31 d9_124 rfl (pc' := 126) rfl ?_
      refine s_iadd W31 d9_126 (pc' := 127) rfl ?_
      refine s_iconst W31 d9_127 (v := (1 : Int32)) (by decide) (pc' := 128) rfl ?_
      refine s_isub W31 d9_128 (pc' := 129) rfl ?_
      rw [show Int32.ofNat A + (4 : Int32) - (1 : Int32) = Int32.ofNat (A + 3) from by rw [show Int32.ofNat A + (4 : Int32) = Int32.ofNat (A + 4) from ofN_add (k := 4) (by omega)]; exact sub_nat (b := 1) (by omega) (by omega)]
      show Go p e below _ T31 (mkF m 129 #[.val (.ref a), .val (.ref sx), .val (.ref key), .val (.int (Int32.ofNat po)), .val (.int (Int32.ofNat po + Int32.ofNat ww)), .val (.int (Int32.ofNat A)), .val (.int (Int32.ofNat (pre.flatMap chs).length)), .val (.int cx), .val (.int (4 : Int32)), .val (.int cx), s10] [(.int (Int32.ofNat (A + 3)))])
      refine s_istore W31 d9_129 (l' := #[.val (.ref a), .val (.ref sx), .val (.ref key), .val (.int (Int32.ofNat po)), .val (.int (Int32.ofNat po + Int32.ofNat ww)), .val (.int (Int32.ofNat A)), .val (.int (Int32.ofNat (pre.flatMap chs).length)), .val (.int cx), .val (.int (4 : Int32)), .val (.int cx), .val (.int (Int32.ofNat (A + 3)))]) (g10.st rfl rfl) (pc' := 131) rfl ?_
      refine s_iload W31 d9_131 rfl (pc' := 133) rfl ?_
      refine s_iload W31 d9_133 rfl (pc' := 135) rfl ?_
      refine s_icmple W31 d9_135 (by decide) (pc1 := 165) (by decide) (pc2 := 138) rfl (fun q => absurd q (fun q' => q' (lt32 (by rw [ofN (by omega), ofN (by omega)]; omega)))) ?_
      intro q135
      refine s_aloadN W31 d9_138 rfl rfl (pc' := 139) rfl ?_
      refine s_iload W31 d9_139 rfl (pc' := 141) rfl ?_
      refine s_sipush W31 d9_141 (v := (128 : Int32)) (by decide) (pc' := 144) rfl ?_
      refine s_iload W31 d9_144 rfl (pc' := 146) rfl ?_
      refine s_bipush W31 d9_146 (v := (63 : Int32)) (by decide) (pc' := 148) rfl ?_
      refine s_iand W31 d9_148 (pc' := 149) rfl ?_
      refine s_ior W31 d9_149 (pc' := 150) rfl ?_
      refine s_i2b W31 d9_150 (pc' := 151) rfl ?_
      refine gStB W31 n0_key (List.mem_of_getElem? (i := 0) rfl) V1 (idxM (ofN (show (A + 3) < 2147483648 by omega)) hz16 (by omega)).1 (i := (A + 3)) (idxM (ofN (show (A + 3) < 2147483648 by omega)) hz16 (by omega)).2 (by simp only [List.length_set, List.length_map]; omega) d9_151 (pc' := 152) rfl ?_
      intro T32 h32 W32 K32 Vx3
      rw [bb8] at Vx3
      have z32 : h1.size ≤ h32.size := K32.1
      refine s_iload W32 d9_152 rfl (pc' := 154) rfl ?_
      refine s_bipush W32 d9_154 (v := (6 : Int32)) (by decide) (pc' := 156) rfl ?_
      refine s_iushr W32 d9_156 (pc' := 157) rfl ?_
      rw [show ((cx.toUInt32 >>> ((6 : Int32) &&& 31).toUInt32).toInt32) = u6 cx from rfl]
      show Go p e below _ T32 (mkF m 157 #[.val (.ref a), .val (.ref sx), .val (.ref key), .val (.int (Int32.ofNat po)), .val (.int (Int32.ofNat po + Int32.ofNat ww)), .val (.int (Int32.ofNat A)), .val (.int (Int32.ofNat (pre.flatMap chs).length)), .val (.int cx), .val (.int (4 : Int32)), .val (.int cx), .val (.int (Int32.ofNat (A + 3)))] [(.int (u6 cx))])
      refine s_istore W32 d9_157 (l' := #[.val (.ref a), .val (.ref sx), .val (.ref key), .val (.int (Int32.ofNat po)), .val (.int (Int32.ofNat po + Int32.ofNat ww)), .val (.int (Int32.ofNat A)), .val (.int (Int32.ofNat (pre.flatMap chs).length)), .val (.int cx), .val (.int (4 : Int32)), .val (.int (u6 cx)), .val (.int (Int32.ofNat (A + 3)))]) rfl (pc' := 159) rfl ?_
      refine s_iinc W32 d9_159 (v := (-1 : Int32)) (by decide) rfl (l' := #[.val (.ref a), .val (.ref sx), .val (.ref key), .val (.int (Int32.ofNat po)), .val (.int (Int32.ofNat po + Int32.ofNat ww)), .val (.int (Int32.ofNat A)), .val (.int (Int32.ofNat (pre.flatMap chs).length)), .val (.int cx), .val (.int (4 : Int32)), .val (.int (u6 cx)), .val (.int ((Int32.ofNat (A + 3)) + (-1 : Int32)))]) rfl (pc' := 162) rfl ?_
      rw [show Int32.ofNat (A + 3) + (-1 : Int32) = Int32.ofNat (A + 2) from by rw [show (-1 : Int32) = -(Int32.ofNat 1) from by decide, ← Int32.sub_eq_add_neg]; exact sub_nat (b := 1) (by omega) (by omega)]
      show Go p e below _ T32 (mkF m 162 #[.val (.ref a), .val (.ref sx), .val (.ref key), .val (.int (Int32.ofNat po)), .val (.int (Int32.ofNat po + Int32.ofNat ww)), .val (.int (Int32.ofNat A)), .val (.int (Int32.ofNat (pre.flatMap chs).length)), .val (.int cx), .val (.int (4 : Int32)), .val (.int (u6 cx)), .val (.int (Int32.ofNat (A + 2)))] [])
      refine s_goto W32 d9_162 (by decide) (pc' := 131) (by decide) ?_
      refine s_iload W32 d9_131 rfl (pc' := 133) rfl ?_
      refine s_iload W32 d9_133 rfl (pc' := 135) rfl ?_
      refine s_icmple W32 d9_135 (by decide) (pc1 := 165) (by decide) (pc2 := 138) rfl (fun q => absurd q (fun q' => q' (lt32 (by rw [ofN (by omega), ofN (by omega)]; omega)))) ?_
      intro q135
      refine s_aloadN W32 d9_138 rfl rfl (pc' := 139) rfl ?_
      refine s_iload W32 d9_139 rfl (pc' := 141) rfl ?_
      refine s_sipush W32 d9_141 (v := (128 : Int32)) (by decide) (pc' := 144) rfl ?_
      refine s_iload W32 d9_144 rfl (pc' := 146) rfl ?_
      refine s_bipush W32 d9_146 (v := (63 : Int32)) (by decide) (pc' := 148) rfl ?_
      refine s_iand W32 d9_148 (pc' := 149) rfl ?_
      refine s_ior W32 d9_149 (pc' := 150) rfl ?_
      refine s_i2b W32 d9_150 (pc' := 151) rfl ?_
      refine gStB W32 n0_key (List.mem_of_getElem? (i := 0) rfl) Vx3 (idxM (ofN (show (A + 2) < 2147483648 by omega)) hz16 (by omega)).1 (i := (A + 2)) (idxM (ofN (show (A + 2) < 2147483648 by omega)) hz16 (by omega)).2 (by simp only [List.length_set, List.length_map]; omega) d9_151 (pc' := 152) rfl ?_
      intro T33 h33 W33 K33 Vx2
      rw [bb8] at Vx2
      have z33 : h32.size ≤ h33.size := K33.1
      refine s_iload W33 d9_152 rfl (pc' := 154) rfl ?_
      refine s_bipush W33 d9_154 (v := (6 : Int32)) (by decide) (pc' := 156) rfl ?_
      refine s_iushr W33 d9_156 (pc' := 157) rfl ?_
      rw [show (((u6 cx).toUInt32 >>> ((6 : Int32) &&& 31).toUInt32).toInt32) = u6 (u6 cx) from rfl]
      show Go p e below _ T33 (mkF m 157 #[.val (.ref a), .val (.ref sx), .val (.ref key), .val (.int (Int32.ofNat po)), .val (.int (Int32.ofNat po + Int32.ofNat ww)), .val (.int (Int32.ofNat A)), .val (.int (Int32.ofNat (pre.flatMap chs).length)), .val (.int cx), .val (.int (4 : Int32)), .val (.int (u6 cx)), .val (.int (Int32.ofNat (A + 2)))] [(.int (u6 (u6 cx)))])
      refine s_istore W33 d9_157 (l' := #[.val (.ref a), .val (.ref sx), .val (.ref key), .val (.int (Int32.ofNat po)), .val (.int (Int32.ofNat po + Int32.ofNat ww)), .val (.int (Int32.ofNat A)), .val (.int (Int32.ofNat (pre.flatMap chs).length)), .val (.int cx), .val (.int (4 : Int32)), .val (.int (u6 (u6 cx))), .val (.int (Int32.ofNat (A + 2)))]) rfl (pc' := 159) rfl ?_
      refine s_iinc W33 d9_159 (v := (-1 : Int32)) (by decide) rfl (l' := #[.val (.ref a), .val (.ref sx), .val (.ref key), .val (.int (Int32.ofNat po)), .val (.int (Int32.ofNat po + Int32.ofNat ww)), .val (.int (Int32.ofNat A)), .val (.int (Int32.ofNat (pre.flatMap chs).length)), .val (.int cx), .val (.int (4 : Int32)), .val (.int (u6 (u6 cx))), .val (.int ((Int32.ofNat (A + 2)) + (-1 : Int32)))]) rfl (pc' := 162) rfl ?_
      rw [show Int32.ofNat (A + 2) + (-1 : Int32) = Int32.ofNat (A + 1) from by rw [show (-1 : Int32) = -(Int32.ofNat 1) from by decide, ← Int32.sub_eq_add_neg]; exact sub_nat (b := 1) (by omega) (by omega)]
      show Go p e below _ T33 (mkF m 162 #[.val (.ref a), .val (.ref sx), .val (.ref key), .val (.int (Int32.ofNat po)), .val (.int (Int32.ofNat po + Int32.ofNat ww)), .val (.int (Int32.ofNat A)), .val (.int (Int32.ofNat (pre.flatMap chs).length)), .val (.int cx), .val (.int (4 : Int32)), .val (.int (u6 (u6 cx))), .val (.int (Int32.ofNat (A + 1)))] [])
      refine s_goto W33 d9_162 (by decide) (pc' := 131) (by decide) ?_
      refine s_iload W33 d9_131 rfl (pc' := 133) rfl ?_
      refine s_iload W33 d9_133 rfl (pc' := 135) rfl ?_
      refine s_icmple W33 d9_135 (by decide) (pc1 := 165) (by decide) (pc2 := 138) rfl (fun q => absurd q (fun q' => q' (lt32 (by rw [ofN (by omega), ofN (by omega)]; omega)))) ?_
      intro q135
      refine s_aloadN W33 d9_138 rfl rfl (pc' := 139) rfl ?_
      refine s_iload W33 d9_139 rfl (pc' := 141) rfl ?_
      refine s_sipush W33 d9_141 (v := (128 : Int32)) (by decide) (pc' := 144) rfl ?_
      refine s_iload W33 d9_144 rfl (pc' := 146) rfl ?_
      refine s_bipush W33 d9_146 (v := (63 : Int32)) (by decide) (pc' := 148) rfl ?_
      refine s_iand W33 d9_148 (pc' := 149) rfl ?_
      refine s_ior W33 d9_149 (pc' := 150) rfl ?_
      refine s_i2b W33 d9_150 (pc' := 151) rfl ?_
      refine gStB W33 n0_key (List.mem_of_getElem? (i := 0) rfl) Vx2 (idxM (ofN (show (A + 1) < 2147483648 by omega)) hz16 (by omega)).1 (i := (A + 1)) (idxM (ofN (show (A + 1) < 2147483648 by omega)) hz16 (by omega)).2 (by simp only [List.length_set, List.length_map]; omega) d9_151 (pc' := 152) rfl ?_
      intro T34 h34 W34 K34 Vx1
      rw [bb8] at Vx1
      have z34 : h33.size ≤ h34.size := K34.1
      refine s_iload W34 d9_152 rfl (pc' := 154) rfl ?_
      refine s_bipush W34 d9_154 (v := (6 : Int32)) (by decide) (pc' := 156) rfl ?_
      refine s_iushr W34 d9_156 (pc' := 157) rfl ?_
      rw [show (((u6 (u6 cx)).toUInt32 >>> ((6 : Int32) &&& 31).toUInt32).toInt32) = u6 (u6 (u6 cx)) from rfl]
      show Go p e below _ T34 (mkF m 157 #[.val (.ref a), .val (.ref sx), .val (.ref key), .val (.int (Int32.ofNat po)), .val (.int (Int32.ofNat po + Int32.ofNat ww)), .val (.int (Int32.ofNat A)), .val (.int (Int32.ofNat (pre.flatMap chs).length)), .val (.int cx), .val (.int (4 : Int32)), .val (.int (u6 (u6 cx))), .val (.int (Int32.ofNat (A + 1)))] [(.int (u6 (u6 (u6 cx))))])
      refine s_istore W34 d9_157 (l' := #[.val (.ref a), .val (.ref sx), .val (.ref key), .val (.int (Int32.ofNat po)), .val (.int (Int32.ofNat po + Int32.ofNat ww)), .val (.int (Int32.ofNat A)), .val (.int (Int32.ofNat (pre.flatMap chs).length)), .val (.int cx), .val (.int (4 : Int32)), .val (.int (u6 (u6 (u6 cx)))), .val (.int (Int32.ofNat (A + 1)))]) rfl (pc' := 159) rfl ?_
      refine s_iinc W34 d9_159 (v := (-1 : Int32)) (by decide) rfl (l' := #[.val (.ref a), .val (.ref sx), .val (.ref key), .val (.int (Int32.ofNat po)), .val (.int (Int32.ofNat po + Int32.ofNat ww)), .val (.int (Int32.ofNat A)), .val (.int (Int32.ofNat (pre.flatMap chs).length)), .val (.int cx), .val (.int (4 : Int32)), .val (.int (u6 (u6 (u6 cx)))), .val (.int ((Int32.ofNat (A + 1)) + (-1 : Int32)))]) rfl (pc' := 162) rfl ?_
      rw [show Int32.ofNat (A + 1) + (-1 : Int32) = Int32.ofNat (A + 0) from by rw [show (-1 : Int32) = -(Int32.ofNat 1) from by decide, ← Int32.sub_eq_add_neg]; exact sub_nat (b := 1) (by omega) (by omega)]
      show Go p e below _ T34 (mkF m 162 #[.val (.ref a), .val (.ref sx), .val (.ref key), .val (.int (Int32.ofNat po)), .val (.int (Int32.ofNat po + Int32.ofNat ww)), .val (.int (Int32.ofNat A)), .val (.int (Int32.ofNat (pre.flatMap chs).length)), .val (.int cx), .val (.int (4 : Int32)), .val (.int (u6 (u6 (u6 cx)))), .val (.int (Int32.ofNat (A + 0)))] [])
      refine s_goto W34 d9_162 (by decide) (pc' := 131) (by decide) ?_
      refine s_iload W34 d9_131 rfl (pc' := 133) rfl ?_
      refine s_iload W34 d9_133 rfl (pc' := 135) rfl ?_
      refine s_icmple W34 d9_135 (by decide) (pc1 := 165) (by decide) (pc2 := 138) rfl ?_ (fun q => absurd q (nlt32 (by rw [ofN (by omega), ofN (by omega)]; omega)))
      intro q135
      refine s_aloadN W34 d9_165 rfl rfl (pc' := 166) rfl ?_
      refine s_iload W34 d9_166 rfl (pc' := 168) rfl ?_
      refine gGetS W34 (host := "") (Or.inl (w_117 hw)) Via.refl (SLB.ext W34.old.2) d9_168 (pc' := 171) rfl ?_
      intro T35 W35
      refine s_iload W35 d9_171 rfl (pc' := 173) rfl ?_
      refine gLdI W35 (VLB.ext W35.old.2) ⟨by decide, by decide⟩ (v := .int (240 : Int32)) rfl d9_173 (pc' := 174) rfl ?_
      refine s_iload W35 d9_174 rfl (pc' := 176) rfl ?_
      refine s_ior W35 d9_176 (pc' := 177) rfl ?_
      refine s_i2b W35 d9_177 (pc' := 178) rfl ?_
      refine gStB W35 n0_key (List.mem_of_getElem? (i := 0) rfl) Vx1 (idxM (ofN (show A < 2147483648 by omega)) hz16 (by omega)).1 (i := A) (idxM (ofN (show A < 2147483648 by omega)) hz16 (by omega)).2 (by simp only [List.length_set, List.length_map]; omega) d9_178 (pc' := 179) rfl ?_
      intro T36 h36 W36 K36 Vx0
      rw [bb8] at Vx0
      have z36 : h34.size ≤ h36.size := K36.1
      refine s_iload W36 d9_179 rfl (pc' := 181) rfl ?_
      refine s_iload W36 d9_181 rfl (pc' := 183) rfl ?_
      refine s_iadd W36 d9_183 (pc' := 184) rfl ?_
      rw [show Int32.ofNat A + (4 : Int32) = Int32.ofNat (A + 4) from ofN_add (k := 4) (by omega)]
      show Go p e below _ T36 (mkF m 184 #[.val (.ref a), .val (.ref sx), .val (.ref key), .val (.int (Int32.ofNat po)), .val (.int (Int32.ofNat po + Int32.ofNat ww)), .val (.int (Int32.ofNat A)), .val (.int (Int32.ofNat (pre.flatMap chs).length)), .val (.int cx), .val (.int (4 : Int32)), .val (.int (u6 (u6 (u6 cx)))), .val (.int (Int32.ofNat (A + 0)))] [(.int (Int32.ofNat (A + 4)))])
      refine s_istore W36 d9_184 (l' := #[.val (.ref a), .val (.ref sx), .val (.ref key), .val (.int (Int32.ofNat po)), .val (.int (Int32.ofNat po + Int32.ofNat ww)), .val (.int (Int32.ofNat (A + 4))), .val (.int (Int32.ofNat (pre.flatMap chs).length)), .val (.int cx), .val (.int (4 : Int32)), .val (.int (u6 (u6 (u6 cx)))), .val (.int (Int32.ofNat (A + 0)))]) rfl (pc' := 186) rfl ?_
      refine s_iload W36 d9_186 rfl (pc' := 188) rfl ?_
      refine s_iload W36 d9_188 rfl (pc' := 190) rfl ?_
      refine gStatic W36 (w_119 hw) (w_120 hw) (w_121 hw) (w_122 hw) (by decide) pd_0 (ct_ccnt hw hEL [] cx h36) (by simp) d9_190 (pc' := 193) rfl rfl (argsL := [(.int cx)]) rfl rfl (rest := [(.int (Int32.ofNat (pre.flatMap chs).length))]) rfl (wt := 1) (Nat.le_of_eq rfl) (by decide) (by decide) (by decide) (by decide) ?_
      rintro v37 T37 h37 W37 z37 ⟨rfl, rfl⟩
      show Go p e below _ T37 (mkF m 193 #[.val (.ref a), .val (.ref sx), .val (.ref key), .val (.int (Int32.ofNat po)), .val (.int (Int32.ofNat po + Int32.ofNat ww)), .val (.int (Int32.ofNat (A + 4))), .val (.int (Int32.ofNat (pre.flatMap chs).length)), .val (.int cx), .val (.int (4 : Int32)), .val (.int (u6 (u6 (u6 cx)))), .val (.int (Int32.ofNat (A + 0)))] [(.int (Int32.ofNat (cnt cx))), (.int (Int32.ofNat (pre.flatMap chs).length))])
      refine s_iadd W37 d9_193 (pc' := 194) rfl ?_
      have hcn : cnt cx ≤ 2 := by unfold cnt; split <;> omega
      rw [show Int32.ofNat (pre.flatMap chs).length + Int32.ofNat (cnt cx) = Int32.ofNat ((pre ++ [cx]).flatMap chs).length from by rw [clen_snoc]; exact ofN_add (by omega)]
      show Go p e below _ T37 (mkF m 194 #[.val (.ref a), .val (.ref sx), .val (.ref key), .val (.int (Int32.ofNat po)), .val (.int (Int32.ofNat po + Int32.ofNat ww)), .val (.int (Int32.ofNat (A + 4))), .val (.int (Int32.ofNat (pre.flatMap chs).length)), .val (.int cx), .val (.int (4 : Int32)), .val (.int (u6 (u6 (u6 cx)))), .val (.int (Int32.ofNat (A + 0)))] [(.int (Int32.ofNat ((pre ++ [cx]).flatMap chs).length))])
      refine s_istore W37 d9_194 (l' := #[.val (.ref a), .val (.ref sx), .val (.ref key), .val (.int (Int32.ofNat po)), .val (.int (Int32.ofNat po + Int32.ofNat ww)), .val (.int (Int32.ofNat (A + 4))), .val (.int (Int32.ofNat ((pre ++ [cx]).flatMap chs).length)), .val (.int cx), .val (.int (4 : Int32)), .val (.int (u6 (u6 (u6 cx)))), .val (.int (Int32.ofNat (A + 0)))]) rfl (pc' := 196) rfl ?_
      refine s_goto W37 d9_196 (by decide) (pc' := 14) (by decide) ?_
      have eA : A + 4 = po + usum (pre ++ [cx]) := by rw [usum_app, hA, show usum [cx] = usz cx + 0 from rfl, hs]; omega
      rw [eA]
      refine ih (pre ++ [cx]) (by rw [hsp, List.append_assoc]; rfl) T37 h36 _ _ _ _ (One1.i _) (One1.i _) (One1.i _) (One1.i _) W37 ?_ ?_
      · exact ((((K1.trans K32 (allS (Or.inl (by simp)) all0)).trans K33 (allS (Or.inl (by simp)) all0)).trans K34 (allS (Or.inl (by simp)) all0)).trans K36 (allS (Or.inl (by simp)) all0))
      · rw [wrs_snoc, ← hA, ← enc4 hs]; exact Vx0
def Q_same (Z : State) (n0 : Nat) (a b : Addr) (ka kb : ClassId) (xs : List Int32) (hx : xs.length = 16) (h0 : Heap) (v : Option Value) (h : Heap) : Prop := v = some (.int 1) ∧ h0 = h
set_option maxRecDepth 65536 in
set_option maxHeartbeats 40000000 in
theorem ct_same {l : Launch} {Z : State} {a0 : Array Value} (hw : ∀ d ∈ tables_1, d.before a0 Z = true) (hEL : EW Z a0 EL0) {n0 : Nat} (cds : List Jvm.Cond) (a b : Addr) (ka kb : ClassId) (xs : List Int32) (hx : xs.length = 16) (h0 : Heap) (Va : Arv Z h0 a ka .byte 16 (xs.map Value.int) (.int 0)) (Vb : Arv Z h0 b kb .byte 16 (xs.map Value.int) (.int 0)) :
    Ct l Z a0 EL0 n0 false true (⟨"com/example/trim_rowkey/trimrowkey/StringFieldEncodePinLaw", "same", "([B[B)Z"⟩ : MethodName) method_7_code 2 (Option.some Jvm.ClassFile.FieldType.boolean) cds ({ frames := 0, cells := 0, slots := 0, locals := 0 } : Room) [] #[(.ref a), (.ref b)] h0 (Q_same Z n0 a b ka kb xs hx h0) := by
  refine Ct.of (plainFor_of_name pn_4) hEL ?_
  intro p e s m below meth c T0 W0 hret hnm hs0
  refine Go.cast (ef_RR_2 m a b) ?_
  show Go p e below _ T0 (mkF m 0 #[.val (.ref a), .val (.ref b)] [])
  have hz16 : (16 : Int32).toInt = (16 : Nat) := by decide
  refine s_aloadN W0 d13_0 rfl rfl (pc' := 1) rfl ?_
  refine s_iconst W0 d13_1 (v := (0 : Int32)) (by decide) (pc' := 2) rfl ?_
  refine gLdB W0 Va ⟨by decide, by decide⟩ (v := .int xs[0]) (getD_map' (j := 0) _ _ _ (by omega)) d13_2 (pc' := 3) rfl ?_
  refine s_aloadN W0 d13_3 rfl rfl (pc' := 4) rfl ?_
  refine s_iconst W0 d13_4 (v := (0 : Int32)) (by decide) (pc' := 5) rfl ?_
  refine gLdB W0 Vb ⟨by decide, by decide⟩ (v := .int xs[0]) (getD_map' (j := 0) _ _ _ (by omega)) d13_5 (pc' := 6) rfl ?_
  refine s_icmpne W0 d13_6 (by decide) (pc1 := 168) (by decide) (pc2 := 9) rfl (fun q => (q rfl).elim) ?_
  intro q6
  refine s_aloadN W0 d13_9 rfl rfl (pc' := 10) rfl ?_
  refine s_iconst W0 d13_10 (v := (1 : Int32)) (by decide) (pc' := 11) rfl ?_
  refine gLdB W0 Va ⟨by decide, by decide⟩ (v := .int xs[1]) (getD_map' (j := 1) _ _ _ (by omega)) d13_11 (pc' := 12) rfl ?_
  refine s_aloadN W0 d13_12 rfl rfl (pc' := 13) rfl ?_
  refine s_iconst W0 d13_13 (v := (1 : Int32)) (by decide) (pc' := 14) rfl ?_
  refine gLdB W0 Vb ⟨by decide, by decide⟩ (v := .int xs[1]) (getD_map' (j := 1) _ _ _ (by omega)) d13_14 (pc' := 15) rfl ?_
  refine s_icmpne W0 d13_15 (by decide) (pc1 := 168) (by decide) (pc2 := 18) rfl (fun q => (q rfl).elim) ?_
  intro q15
  refine s_aloadN W0 d13_18 rfl rfl (pc' := 19) rfl ?_
  refine s_iconst W0 d13_19 (v := (2 : Int32)) (by decide) (pc' := 20) rfl ?_
  refine gLdB W0 Va ⟨by decide, by decide⟩ (v := .int xs[2]) (getD_map' (j := 2) _ _ _ (by omega)) d13_20 (pc' := 21) rfl ?_
  refine s_aloadN W0 d13_21 rfl rfl (pc' := 22) rfl ?_
  refine s_iconst W0 d13_22 (v := (2 : Int32)) (by decide) (pc' := 23) rfl ?_
  refine gLdB W0 Vb ⟨by decide, by decide⟩ (v := .int xs[2]) (getD_map' (j := 2) _ _ _ (by omega)) d13_23 (pc' := 24) rfl ?_
  refine s_icmpne W0 d13_24 (by decide) (pc1 := 168) (by decide) (pc2 := 27) rfl (fun q => (q rfl).elim) ?_
  intro q24
  refine s_aloadN W0 d13_27 rfl rfl (pc' := 28) rfl ?_
  refine s_iconst W0 d13_28 (v := (3 : Int32)) (by decide) (pc' := 29) rfl ?_
  refine gLdB W0 Va ⟨by decide, by decide⟩ (v := .int xs[3]) (getD_map' (j := 3) _ _ _ (by omega)) d13_29 (pc' := 30) rfl ?_
  refine s_aloadN W0 d13_30 rfl rfl (pc' := 31) rfl ?_
  refine s_iconst W0 d13_31 (v := (3 : Int32)) (by decide) (pc' := 32) rfl ?_
  refine gLdB W0 Vb ⟨by decide, by decide⟩ (v := .int xs[3]) (getD_map' (j := 3) _ _ _ (by omega)) d13_32 (pc' := 33) rfl ?_
  refine s_icmpne W0 d13_33 (by decide) (pc1 := 168) (by decide) (pc2 := 36) rfl (fun q => (q rfl).elim) ?_
  intro q33
  refine s_aloadN W0 d13_36 rfl rfl (pc' := 37) rfl ?_
  refine s_iconst W0 d13_37 (v := (4 : Int32)) (by decide) (pc' := 38) rfl ?_
  refine gLdB W0 Va ⟨by decide, by decide⟩ (v := .int xs[4]) (getD_map' (j := 4) _ _ _ (by omega)) d13_38 (pc' := 39) rfl ?_
  refine s_aloadN W0 d13_39 rfl rfl (pc' := 40) rfl ?_
  refine s_iconst W0 d13_40 (v := (4 : Int32)) (by decide) (pc' := 41) rfl ?_
  refine gLdB W0 Vb ⟨by decide, by decide⟩ (v := .int xs[4]) (getD_map' (j := 4) _ _ _ (by omega)) d13_41 (pc' := 42) rfl ?_
  refine s_icmpne W0 d13_42 (by decide) (pc1 := 168) (by decide) (pc2 := 45) rfl (fun q => (q rfl).elim) ?_
  intro q42
  refine s_aloadN W0 d13_45 rfl rfl (pc' := 46) rfl ?_
  refine s_iconst W0 d13_46 (v := (5 : Int32)) (by decide) (pc' := 47) rfl ?_
  refine gLdB W0 Va ⟨by decide, by decide⟩ (v := .int xs[5]) (getD_map' (j := 5) _ _ _ (by omega)) d13_47 (pc' := 48) rfl ?_
  refine s_aloadN W0 d13_48 rfl rfl (pc' := 49) rfl ?_
  refine s_iconst W0 d13_49 (v := (5 : Int32)) (by decide) (pc' := 50) rfl ?_
  refine gLdB W0 Vb ⟨by decide, by decide⟩ (v := .int xs[5]) (getD_map' (j := 5) _ _ _ (by omega)) d13_50 (pc' := 51) rfl ?_
  refine s_icmpne W0 d13_51 (by decide) (pc1 := 168) (by decide) (pc2 := 54) rfl (fun q => (q rfl).elim) ?_
  intro q51
  refine s_aloadN W0 d13_54 rfl rfl (pc' := 55) rfl ?_
  refine s_bipush W0 d13_55 (v := (6 : Int32)) (by decide) (pc' := 57) rfl ?_
  refine gLdB W0 Va ⟨by decide, by decide⟩ (v := .int xs[6]) (getD_map' (j := 6) _ _ _ (by omega)) d13_57 (pc' := 58) rfl ?_
  refine s_aloadN W0 d13_58 rfl rfl (pc' := 59) rfl ?_
  refine s_bipush W0 d13_59 (v := (6 : Int32)) (by decide) (pc' := 61) rfl ?_
  refine gLdB W0 Vb ⟨by decide, by decide⟩ (v := .int xs[6]) (getD_map' (j := 6) _ _ _ (by omega)) d13_61 (pc' := 62) rfl ?_
  refine s_icmpne W0 d13_62 (by decide) (pc1 := 168) (by decide) (pc2 := 65) rfl (fun q => (q rfl).elim) ?_
  intro q62
  refine s_aloadN W0 d13_65 rfl rfl (pc' := 66) rfl ?_
  refine s_bipush W0 d13_66 (v := (7 : Int32)) (by decide) (pc' := 68) rfl ?_
  refine gLdB W0 Va ⟨by decide, by decide⟩ (v := .int xs[7]) (getD_map' (j := 7) _ _ _ (by omega)) d13_68 (pc' := 69) rfl ?_
  refine s_aloadN W0 d13_69 rfl rfl (pc' := 70) rfl ?_
  refine s_bipush W0 d13_70 (v := (7 : Int32)) (by decide) (pc' := 72) rfl ?_
  refine gLdB W0 Vb ⟨by decide, by decide⟩ (v := .int xs[7]) (getD_map' (j := 7) _ _ _ (by omega)) d13_72 (pc' := 73) rfl ?_
  refine s_icmpne W0 d13_73 (by decide) (pc1 := 168) (by decide) (pc2 := 76) rfl (fun q => (q rfl).elim) ?_
  intro q73
  refine s_aloadN W0 d13_76 rfl rfl (pc' := 77) rfl ?_
  refine s_bipush W0 d13_77 (v := (8 : Int32)) (by decide) (pc' := 79) rfl ?_
  refine gLdB W0 Va ⟨by decide, by decide⟩ (v := .int xs[8]) (getD_map' (j := 8) _ _ _ (by omega)) d13_79 (pc' := 80) rfl ?_
  refine s_aloadN W0 d13_80 rfl rfl (pc' := 81) rfl ?_
  refine s_bipush W0 d13_81 (v := (8 : Int32)) (by decide) (pc' := 83) rfl ?_
  refine gLdB W0 Vb ⟨by decide, by decide⟩ (v := .int xs[8]) (getD_map' (j := 8) _ _ _ (by omega)) d13_83 (pc' := 84) rfl ?_
  refine s_icmpne W0 d13_84 (by decide) (pc1 := 168) (by decide) (pc2 := 87) rfl (fun q => (q rfl).elim) ?_
  intro q84
  refine s_aloadN W0 d13_87 rfl rfl (pc' := 88) rfl ?_
  refine s_bipush W0 d13_88 (v := (9 : Int32)) (by decide) (pc' := 90) rfl ?_
  refine gLdB W0 Va ⟨by decide, by decide⟩ (v := .int xs[9]) (getD_map' (j := 9) _ _ _ (by omega)) d13_90 (pc' := 91) rfl ?_
  refine s_aloadN W0 d13_91 rfl rfl (pc' := 92) rfl ?_
  refine s_bipush W0 d13_92 (v := (9 : Int32)) (by decide) (pc' := 94) rfl ?_
  refine gLdB W0 Vb ⟨by decide, by decide⟩ (v := .int xs[9]) (getD_map' (j := 9) _ _ _ (by omega)) d13_94 (pc' := 95) rfl ?_
  refine s_icmpne W0 d13_95 (by decide) (pc1 := 168) (by decide) (pc2 := 98) rfl (fun q => (q rfl).elim) ?_
  intro q95
  refine s_aloadN W0 d13_98 rfl rfl (pc' := 99) rfl ?_
  refine s_bipush W0 d13_99 (v := (10 : Int32)) (by decide) (pc' := 101) rfl ?_
  refine gLdB W0 Va ⟨by decide, by decide⟩ (v := .int xs[10]) (getD_map' (j := 10) _ _ _ (by omega)) d13_101 (pc' := 102) rfl ?_
  refine s_aloadN W0 d13_102 rfl rfl (pc' := 103) rfl ?_
  refine s_bipush W0 d13_103 (v := (10 : Int32)) (by decide) (pc' := 105) rfl ?_
  refine gLdB W0 Vb ⟨by decide, by decide⟩ (v := .int xs[10]) (getD_map' (j := 10) _ _ _ (by omega)) d13_105 (pc' := 106) rfl ?_
  refine s_icmpne W0 d13_106 (by decide) (pc1 := 168) (by decide) (pc2 := 109) rfl (fun q => (q rfl).elim) ?_
  intro q106
  refine s_aloadN W0 d13_109 rfl rfl (pc' := 110) rfl ?_
  refine s_bipush W0 d13_110 (v := (11 : Int32)) (by decide) (pc' := 112) rfl ?_
  refine gLdB W0 Va ⟨by decide, by decide⟩ (v := .int xs[11]) (getD_map' (j := 11) _ _ _ (by omega)) d13_112 (pc' := 113) rfl ?_
  refine s_aloadN W0 d13_113 rfl rfl (pc' := 114) rfl ?_
  refine s_bipush W0 d13_114 (v := (11 : Int32)) (by decide) (pc' := 116) rfl ?_
  refine gLdB W0 Vb ⟨by decide, by decide⟩ (v := .int xs[11]) (getD_map' (j := 11) _ _ _ (by omega)) d13_116 (pc' := 117) rfl ?_
  refine s_icmpne W0 d13_117 (by decide) (pc1 := 168) (by decide) (pc2 := 120) rfl (fun q => (q rfl).elim) ?_
  intro q117
  refine s_aloadN W0 d13_120 rfl rfl (pc' := 121) rfl ?_
  refine s_bipush W0 d13_121 (v := (12 : Int32)) (by decide) (pc' := 123) rfl ?_
  refine gLdB W0 Va ⟨by decide, by decide⟩ (v := .int xs[12]) (getD_map' (j := 12) _ _ _ (by omega)) d13_123 (pc' := 124) rfl ?_
  refine s_aloadN W0 d13_124 rfl rfl (pc' := 125) rfl ?_
  refine s_bipush W0 d13_125 (v := (12 : Int32)) (by decide) (pc' := 127) rfl ?_
  refine gLdB W0 Vb ⟨by decide, by decide⟩ (v := .int xs[12]) (getD_map' (j := 12) _ _ _ (by omega)) d13_127 (pc' := 128) rfl ?_
  refine s_icmpne W0 d13_128 (by decide) (pc1 := 168) (by decide) (pc2 := 131) rfl (fun q => (q rfl).elim) ?_
  intro q128
  refine s_aloadN W0 d13_131 rfl rfl (pc' := 132) rfl ?_
  refine s_bipush W0 d13_132 (v := (13 : Int32)) (by decide) (pc' := 134) rfl ?_
  refine gLdB W0 Va ⟨by decide, by decide⟩ (v := .int xs[13]) (getD_map' (j := 13) _ _ _ (by omega)) d13_134 (pc' := 135) rfl ?_
  refine s_aloadN W0 d13_135 rfl rfl (pc' := 136) rfl ?_
  refine s_bipush W0 d13_136 (v := (13 : Int32)) (by decide) (pc' := 138) rfl ?_
  refine gLdB W0 Vb ⟨by decide, by decide⟩ (v := .int xs[13]) (getD_map' (j := 13) _ _ _ (by omega)) d13_138 (pc' := 139) rfl ?_
  refine s_icmpne W0 d13_139 (by decide) (pc1 := 168) (by decide) (pc2 := 142) rfl (fun q => (q rfl).elim) ?_
  intro q139
  refine s_aloadN W0 d13_142 rfl rfl (pc' := 143) rfl ?_
  refine s_bipush W0 d13_143 (v := (14 : Int32)) (by decide) (pc' := 145) rfl ?_
  refine gLdB W0 Va ⟨by decide, by decide⟩ (v := .int xs[14]) (getD_map' (j := 14) _ _ _ (by omega)) d13_145 (pc' := 146) rfl ?_
  refine s_aloadN W0 d13_146 rfl rfl (pc' := 147) rfl ?_
  refine s_bipush W0 d13_147 (v := (14 : Int32)) (by decide) (pc' := 149) rfl ?_
  refine gLdB W0 Vb ⟨by decide, by decide⟩ (v := .int xs[14]) (getD_map' (j := 14) _ _ _ (by omega)) d13_149 (pc' := 150) rfl ?_
  refine s_icmpne W0 d13_150 (by decide) (pc1 := 168) (by decide) (pc2 := 153) rfl (fun q => (q rfl).elim) ?_
  intro q150
  refine s_aloadN W0 d13_153 rfl rfl (pc' := 154) rfl ?_
  refine s_bipush W0 d13_154 (v := (15 : Int32)) (by decide) (pc' := 156) rfl ?_
  refine gLdB W0 Va ⟨by decide, by decide⟩ (v := .int xs[15]) (getD_map' (j := 15) _ _ _ (by omega)) d13_156 (pc' := 157) rfl ?_
  refine s_aloadN W0 d13_157 rfl rfl (pc' := 158) rfl ?_
  refine s_bipush W0 d13_158 (v := (15 : Int32)) (by decide) (pc' := 160) rfl ?_
  refine gLdB W0 Vb ⟨by decide, by decide⟩ (v := .int xs[15]) (getD_map' (j := 15) _ _ _ (by omega)) d13_160 (pc' := 161) rfl ?_
  refine s_icmpne W0 d13_161 (by decide) (pc1 := 168) (by decide) (pc2 := 164) rfl (fun q => (q rfl).elim) ?_
  intro q161
  refine s_iconst W0 d13_164 (v := (1 : Int32)) (by decide) (pc' := 165) rfl ?_
  refine s_goto W0 d13_165 (by decide) (pc' := 169) (by decide) ?_
  exact gRetN W0 hret (by simp) d13_169 (by decide) (by decide) ⟨rfl, rfl⟩
def Q_law (Z : State) (n0 : Nat) (pa pb px pd ccs : Int32) (fo : Value) (lb : Addr) (kl : ClassId) (h0 : Heap) (v : Option Value) (h : Heap) : Prop := v = some (.int 1)
set_option maxRecDepth 65536 in
set_option maxHeartbeats 40000000 in
theorem ct_law {l : Launch} {Z : State} {a0 : Array Value} (hw : ∀ d ∈ tables_1, d.before a0 Z = true) (hEL : EW Z a0 EL0) {n0 : Nat} (cds : List Jvm.Cond) (pa pb px pd ccs : Int32) (fo : Value) (lb : Addr) (kl : ClassId) (h0 : Heap) (SCS : Sta Z Z.heap "java/lang/String" "COMPACT_STRINGS" "Z" (.int ccs)) (hccs : ¬ ccs = 0) (SFO : Sta Z Z.heap "jdk/internal/util/Preconditions" "SIOOBE_FORMATTER" "Ljava/util/function/BiFunction;" fo) (rfo : fo.isRef = true) (SAD : Sta Z Z.heap "java/lang/StringUTF16" "$assertionsDisabled" "Z" (.int 1)) (SHI : Sta Z Z.heap "java/lang/StringUTF16" "HI_BYTE_SHIFT" "I" (.int 0)) (SLO : Sta Z Z.heap "java/lang/StringUTF16" "LO_BYTE_SHIFT" "I" (.int 8)) (SLB : Sta Z Z.heap "com/example/trim_rowkey/trimrowkey/StringField" "LEAD_BYTE" "[I" (.ref lb)) (VLB : Arv Z Z.heap lb kl .int 5 [.int 0, .int 0, .int 192, .int 224, .int 240] (.int 0)) :
    Ct l Z a0 EL0 n0 false true x code maxLocals ret cds room_1 [] #[(.int pa), (.int pb), (.int px), (.int pd)] h0 (Q_law Z n0 pa pb px pd ccs fo lb kl h0) := by
  refine Ct.of (plainFor_of_name pn_4) hEL ?_
  intro p e s m below meth c T0 W0 hret hnm hs0
  refine Go.cast (ef_IIII_16 m pa pb px pd) ?_
  show Go p e below _ T0 (mkF m 0 #[.val (.int pa), .val (.int pb), .val (.int px), .val (.int pd), .unset, .unset, .unset, .unset, .unset, .unset, .unset, .unset, .unset, .unset, .unset, .unset] [])
  obtain ⟨po, hpo, epo⟩ := and_nat pd (k := 3) (by decide)
  obtain ⟨sk, hsk, esk⟩ := and_nat ((pd.toUInt32 >>> ((2 : Int32) &&& 31).toUInt32).toInt32) (k := 3) (by decide)
  refine s_iloadN W0 at_0 rfl (pc' := 1) rfl ?_
  refine s_iconst W0 at_1 (v := (3 : Int32)) (by decide) (pc' := 2) rfl ?_
  refine s_iand W0 at_2 (pc' := 3) rfl ?_
  refine s_iloadN W0 at_3 rfl (pc' := 4) rfl ?_
  refine gStatic W0 (w_0 hw) (w_1 hw) (w_2 hw) (w_3 hw) (by decide) pd_19 (ct_pick hw hEL [] (px &&& (3 : Int32)) pa h0) (by simp) at_4 (pc' := 7) rfl rfl (argsL := [(.int (px &&& (3 : Int32))), (.int pa)]) rfl rfl (rest := []) rfl (wt := 0) (Nat.le_of_eq rfl) (by decide) (by decide) (by decide) (by decide) ?_
  rintro v1 T1 h1 W1 z1 ⟨c1, rfl, hc1, rfl⟩
  show Go p e below _ T1 (mkF m 7 #[.val (.int pa), .val (.int pb), .val (.int px), .val (.int pd), .unset, .unset, .unset, .unset, .unset, .unset, .unset, .unset, .unset, .unset, .unset, .unset] [(.int c1)])
  refine s_istore W1 at_7 (l' := #[.val (.int pa), .val (.int pb), .val (.int px), .val (.int pd), .val (.int c1), .unset, .unset, .unset, .unset, .unset, .unset, .unset, .unset, .unset, .unset, .unset]) rfl (pc' := 9) rfl ?_
  refine s_iloadN W1 at_9 rfl (pc' := 10) rfl ?_
  refine s_iconst W1 at_10 (v := (2 : Int32)) (by decide) (pc' := 11) rfl ?_
  refine s_iushr W1 at_11 (pc' := 12) rfl ?_
  refine s_iconst W1 at_12 (v := (3 : Int32)) (by decide) (pc' := 13) rfl ?_
  refine s_iand W1 at_13 (pc' := 14) rfl ?_
  refine s_iloadN W1 at_14 rfl (pc' := 15) rfl ?_
  refine gStatic W1 (w_0 hw) (w_1 hw) (w_2 hw) (w_3 hw) (by decide) pd_19 (ct_pick hw hEL [] (((px.toUInt32 >>> ((2 : Int32) &&& 31).toUInt32).toInt32) &&& (3 : Int32)) pb h0) (by simp) at_15 (pc' := 18) rfl rfl (argsL := [(.int (((px.toUInt32 >>> ((2 : Int32) &&& 31).toUInt32).toInt32) &&& (3 : Int32))), (.int pb)]) rfl rfl (rest := []) rfl (wt := 0) (Nat.le_of_eq rfl) (by decide) (by decide) (by decide) (by decide) ?_
  rintro v2 T2 h2 W2 z2 ⟨c2, rfl, hc2, rfl⟩
  show Go p e below _ T2 (mkF m 18 #[.val (.int pa), .val (.int pb), .val (.int px), .val (.int pd), .val (.int c1), .unset, .unset, .unset, .unset, .unset, .unset, .unset, .unset, .unset, .unset, .unset] [(.int c2)])
  refine s_istore W2 at_18 (l' := #[.val (.int pa), .val (.int pb), .val (.int px), .val (.int pd), .val (.int c1), .val (.int c2), .unset, .unset, .unset, .unset, .unset, .unset, .unset, .unset, .unset, .unset]) rfl (pc' := 20) rfl ?_
  refine s_iconst W2 at_20 (v := (2 : Int32)) (by decide) (pc' := 21) rfl ?_
  refine s_iloadN W2 at_21 rfl (pc' := 22) rfl ?_
  refine s_iconst W2 at_22 (v := (4 : Int32)) (by decide) (pc' := 23) rfl ?_
  refine s_iushr W2 at_23 (pc' := 24) rfl ?_
  refine s_iconst W2 at_24 (v := (3 : Int32)) (by decide) (pc' := 25) rfl ?_
  refine s_iand W2 at_25 (pc' := 26) rfl ?_
  refine gStatic W2 (w_7 hw) (w_8 hw) (w_9 hw) (w_10 hw) (by decide) pd_19 (ct_mmin hw hEL [] (2 : Int32) (((px.toUInt32 >>> ((4 : Int32) &&& 31).toUInt32).toInt32) &&& (3 : Int32)) h0) (by simp) at_26 (pc' := 29) rfl rfl (argsL := [(.int (2 : Int32)), (.int (((px.toUInt32 >>> ((4 : Int32) &&& 31).toUInt32).toInt32) &&& (3 : Int32)))]) rfl rfl (rest := []) rfl (wt := 0) (Nat.le_of_eq rfl) (by decide) (by decide) (by decide) (by decide) ?_
  rintro v3 T3 h3 W3 z3 ⟨nn, rfl, rfl⟩
  show Go p e below _ T3 (mkF m 29 #[.val (.int pa), .val (.int pb), .val (.int px), .val (.int pd), .val (.int c1), .val (.int c2), .unset, .unset, .unset, .unset, .unset, .unset, .unset, .unset, .unset, .unset] [(.int nn)])
  refine s_istore W3 at_29 (l' := #[.val (.int pa), .val (.int pb), .val (.int px), .val (.int pd), .val (.int c1), .val (.int c2), .val (.int nn), .unset, .unset, .unset, .unset, .unset, .unset, .unset, .unset, .unset]) rfl (pc' := 31) rfl ?_
  refine s_iloadN W3 at_31 rfl (pc' := 32) rfl ?_
  refine s_iconst W3 at_32 (v := (3 : Int32)) (by decide) (pc' := 33) rfl ?_
  refine s_iand W3 at_33 (pc' := 34) rfl ?_
  rw [show (pd &&& (3 : Int32)) = Int32.ofNat po from epo]
  show Go p e below _ T3 (mkF m 34 #[.val (.int pa), .val (.int pb), .val (.int px), .val (.int pd), .val (.int c1), .val (.int c2), .val (.int nn), .unset, .unset, .unset, .unset, .unset, .unset, .unset, .unset, .unset] [(.int (Int32.ofNat po))])
  refine s_istore W3 at_34 (l' := #[.val (.int pa), .val (.int pb), .val (.int px), .val (.int pd), .val (.int c1), .val (.int c2), .val (.int nn), .val (.int (Int32.ofNat po)), .unset, .unset, .unset, .unset, .unset, .unset, .unset, .unset]) rfl (pc' := 36) rfl ?_
  refine s_iloadN W3 at_36 rfl (pc' := 37) rfl ?_
  refine s_iconst W3 at_37 (v := (2 : Int32)) (by decide) (pc' := 38) rfl ?_
  refine s_iushr W3 at_38 (pc' := 39) rfl ?_
  refine s_iconst W3 at_39 (v := (3 : Int32)) (by decide) (pc' := 40) rfl ?_
  refine s_iand W3 at_40 (pc' := 41) rfl ?_
  rw [show (((pd.toUInt32 >>> ((2 : Int32) &&& 31).toUInt32).toInt32) &&& (3 : Int32)) = Int32.ofNat sk from esk]
  show Go p e below _ T3 (mkF m 41 #[.val (.int pa), .val (.int pb), .val (.int px), .val (.int pd), .val (.int c1), .val (.int c2), .val (.int nn), .val (.int (Int32.ofNat po)), .unset, .unset, .unset, .unset, .unset, .unset, .unset, .unset] [(.int (Int32.ofNat sk))])
  refine s_istore W3 at_41 (l' := #[.val (.int pa), .val (.int pb), .val (.int px), .val (.int pd), .val (.int c1), .val (.int c2), .val (.int nn), .val (.int (Int32.ofNat po)), .val (.int (Int32.ofNat sk)), .unset, .unset, .unset, .unset, .unset, .unset, .unset]) rfl (pc' := 43) rfl ?_
  refine s_iconst W3 at_43 (v := (4 : Int32)) (by decide) (pc' := 44) rfl ?_
  refine gNewP (aty := .char) W3 (w_11 hw) (ad := "[C") (by decide +kernel) at_44 (pc' := 46) rfl (by decide) (cap := 4) (by decide) (by decide) (by decide) (by decide) ?_
  intro T4 h4 b4 g4 W4 E4 ⟨k4, V4, A4⟩
  have z4 : h0.size ≤ h4.size := E4.1
  have lt_b4 := natlt A4.lt
  have gg4 := nateq g4
  have n0_b4 : n0 ≤ b4 := by have := W3.n0le; omega
  have Vp4 : Arv Z h4 b4 k4 .char (4 : Int32) [(.int (0 : Int32)), (.int (0 : Int32)), (.int (0 : Int32)), (.int (0 : Int32))] (.int (0 : Int32)) := Arv.pad V4 (pad_rep [] (.int (0 : Int32)) 4)
  refine s_astore W4 at_46 rfl (l' := #[.val (.int pa), .val (.int pb), .val (.int px), .val (.int pd), .val (.int c1), .val (.int c2), .val (.int nn), .val (.int (Int32.ofNat po)), .val (.int (Int32.ofNat sk)), .val (.ref b4), .unset, .unset, .unset, .unset, .unset, .unset]) rfl (pc' := 48) rfl ?_
  refine s_bipush W4 at_48 (v := (16 : Int32)) (by decide) (pc' := 50) rfl ?_
  refine gNewP (aty := .byte) W4 (w_12 hw) (ad := "[B") (by decide +kernel) at_50 (pc' := 52) rfl (by decide) (cap := 16) (by decide) (by decide) (by decide) (by decide) ?_
  intro T5 h5 b5 g5 W5 E5 ⟨k5, V5, A5⟩
  have z5 : h4.size ≤ h5.size := E5.1
  have lt_b5 := natlt A5.lt
  have gg5 := nateq g5
  have n0_b5 : n0 ≤ b5 := by have := W4.n0le; omega
  have Vp5 : Arv Z h5 b5 k5 .byte (16 : Int32) [(.int (0 : Int32)), (.int (0 : Int32)), (.int (0 : Int32)), (.int (0 : Int32)), (.int (0 : Int32)), (.int (0 : Int32)), (.int (0 : Int32)), (.int (0 : Int32)), (.int (0 : Int32)), (.int (0 : Int32)), (.int (0 : Int32)), (.int (0 : Int32)), (.int (0 : Int32)), (.int (0 : Int32)), (.int (0 : Int32)), (.int (0 : Int32))] (.int (0 : Int32)) := Arv.pad V5 (pad_rep [] (.int (0 : Int32)) 16)
  refine s_astore W5 at_52 rfl (l' := #[.val (.int pa), .val (.int pb), .val (.int px), .val (.int pd), .val (.int c1), .val (.int c2), .val (.int nn), .val (.int (Int32.ofNat po)), .val (.int (Int32.ofNat sk)), .val (.ref b4), .val (.ref b5), .unset, .unset, .unset, .unset, .unset]) rfl (pc' := 54) rfl ?_
  refine s_bipush W5 at_54 (v := (16 : Int32)) (by decide) (pc' := 56) rfl ?_
  refine gNewP (aty := .byte) W5 (w_12 hw) (ad := "[B") (by decide +kernel) at_56 (pc' := 58) rfl (by decide) (cap := 16) (by decide) (by decide) (by decide) (by decide) ?_
  intro T6 h6 b6 g6 W6 E6 ⟨k6, V6, A6⟩
  have z6 : h5.size ≤ h6.size := E6.1
  have lt_b6 := natlt A6.lt
  have gg6 := nateq g6
  have n0_b6 : n0 ≤ b6 := by have := W5.n0le; omega
  have Vp6 : Arv Z h6 b6 k6 .byte (16 : Int32) [(.int (0 : Int32)), (.int (0 : Int32)), (.int (0 : Int32)), (.int (0 : Int32)), (.int (0 : Int32)), (.int (0 : Int32)), (.int (0 : Int32)), (.int (0 : Int32)), (.int (0 : Int32)), (.int (0 : Int32)), (.int (0 : Int32)), (.int (0 : Int32)), (.int (0 : Int32)), (.int (0 : Int32)), (.int (0 : Int32)), (.int (0 : Int32))] (.int (0 : Int32)) := Arv.pad V6 (pad_rep [] (.int (0 : Int32)) 16)
  refine s_astore W6 at_58 rfl (l' := #[.val (.int pa), .val (.int pb), .val (.int px), .val (.int pd), .val (.int c1), .val (.int c2), .val (.int nn), .val (.int (Int32.ofNat po)), .val (.int (Int32.ofNat sk)), .val (.ref b4), .val (.ref b5), .val (.ref b6), .unset, .unset, .unset, .unset]) rfl (pc' := 60) rfl ?_
  refine s_iconst W6 at_60 (v := (0 : Int32)) (by decide) (pc' := 61) rfl ?_
  refine s_istore W6 at_61 (l' := #[.val (.int pa), .val (.int pb), .val (.int px), .val (.int pd), .val (.int c1), .val (.int c2), .val (.int nn), .val (.int (Int32.ofNat po)), .val (.int (Int32.ofNat sk)), .val (.ref b4), .val (.ref b5), .val (.ref b6), .val (.int (0 : Int32)), .unset, .unset, .unset]) rfl (pc' := 63) rfl ?_
  refine s_iconst W6 at_63 (v := (0 : Int32)) (by decide) (pc' := 64) rfl ?_
  refine s_istore W6 at_64 (l' := #[.val (.int pa), .val (.int pb), .val (.int px), .val (.int pd), .val (.int c1), .val (.int c2), .val (.int nn), .val (.int (Int32.ofNat po)), .val (.int (Int32.ofNat sk)), .val (.ref b4), .val (.ref b5), .val (.ref b6), .val (.int (0 : Int32)), .val (.int (0 : Int32)), .unset, .unset]) rfl (pc' := 66) rfl ?_
  have fx7 := (Vp5.ext E6)
  have Zb5 : Arv Z h6 b5 k5 .byte 16 ((List.replicate 16 (0 : Int32)).map Value.int) (.int 0) := fx7
  have Zb6 : Arv Z h6 b6 k6 .byte 16 ((List.replicate 16 (0 : Int32)).map Value.int) (.int 0) := Vp6
  obtain ⟨a1, a2, a3⟩ := id hc1
  obtain ⟨b1, b2, b3⟩ := id hc2
  have z1 := usz_01 c1
  have z2 := usz_01 c2
  refine s_iload W6 at_66 rfl (pc' := 68) rfl ?_
  refine s_iconst W6 at_68 (v := (1 : Int32)) (by decide) (pc' := 69) rfl ?_
  refine s_icmplt W6 at_69 (by decide) (pc1 := 100) (by decide) (pc2 := 72) rfl ?_ ?_
  · intro q69
    have r69 := Int32.lt_iff_toInt_lt.mp q69
    rw [show (1 : Int32).toInt = 1 from by decide] at r69
    refine s_iload W6 at_100 rfl (pc' := 102) rfl ?_
    refine s_iconst W6 at_102 (v := (2 : Int32)) (by decide) (pc' := 103) rfl ?_
    refine s_icmplt W6 at_103 (by decide) (pc1 := 134) (by decide) (pc2 := 106) rfl ?_ (fun q => absurd q (fun q' => q' (lt32 (by rw [show (2 : Int32).toInt = 2 from by decide]; omega))))
    intro q103
    refine s_aload W6 at_134 rfl rfl (pc' := 136) rfl ?_
    refine s_iload W6 at_136 rfl (pc' := 138) rfl ?_
    refine gStatic W6 (w_13 hw) (w_14 hw) (w_2 hw) (w_15 hw) (by decide) pd_20 (ct_str0n hw hEL [] b4 h6) (by simp) at_138 (pc' := 141) rfl rfl (argsL := [(.ref b4), (.int (0 : Int32))]) rfl rfl (rest := []) rfl (wt := 0) (Nat.le_of_eq rfl) (by decide) (by decide) (by decide) (by decide) ?_
    rintro v8 T8 h8 W8 z8 ⟨sv, ds, ks, rfl, Ks, Ss⟩
    have lt_sv := natlt Ss.1.lt
    show Go p e below _ T8 (mkF m 141 #[.val (.int pa), .val (.int pb), .val (.int px), .val (.int pd), .val (.int c1), .val (.int c2), .val (.int nn), .val (.int (Int32.ofNat po)), .val (.int (Int32.ofNat sk)), .val (.ref b4), .val (.ref b5), .val (.ref b6), .val (.int (0 : Int32)), .val (.int (0 : Int32)), .unset, .unset] [(.ref sv)])
    refine s_astore W8 at_141 rfl (l' := #[.val (.int pa), .val (.int pb), .val (.int px), .val (.int pd), .val (.int c1), .val (.int c2), .val (.int nn), .val (.int (Int32.ofNat po)), .val (.int (Int32.ofNat sk)), .val (.ref b4), .val (.ref b5), .val (.ref b6), .val (.int (0 : Int32)), .val (.int (0 : Int32)), .val (.ref sv), .unset]) rfl (pc' := 143) rfl ?_
    refine gNew W8 (w_36 hw) (w_37 hw) (w_38 hw) at_143 (pc' := 146) rfl (by decide) (by decide) ?_
    intro T9 h9 b9 g9 W9 E9 ⟨A9, D9, U9⟩
    have z9 : h8.size ≤ h9.size := E9.1
    have lt_b9 := natlt A9.lt
    have gg9 := nateq g9
    have n0_b9 : n0 ≤ b9 := by have := W8.n0le; omega
    have F9_name : Fld Z h9 b9 "com/example/trim_rowkey/trimrowkey/Field" "name" "Ljava/lang/String;" .null := D9 (Or.inr (w_50 hw)) (ty := (.object "java/lang/String")) (by decide)
    have F9_width : Fld Z h9 b9 "com/example/trim_rowkey/trimrowkey/Field" "width" "I" (.int (0 : Int32)) := D9 (Or.inr (w_52 hw)) (ty := .int) (by decide)
    refine s_dup W9 at_146 rfl (pc' := 147) rfl ?_
    refine gLdcS W9 (w_39 hw) (wS hw) (List.mem_of_getElem? (i := 0) rfl) (vs := [(.int (102 : Int32))]) (z := (1 : Int32)) ⟨by decide +kernel, by decide +kernel⟩ (by decide) (by decide) at_147 (pc' := 149) rfl (nn := 4) (by decide) (by decide) (by decide) (by decide) ?_
    intro T10 h10 s10 d10 k10 W10 E10 A10 C10 F10 V10 N10
    have z10 : h9.size ≤ h10.size := E10.1
    have lt_s10 := natlt A10.lt
    have lt_d10 := natlt V10.lt
    refine s_iload W10 at_149 rfl (pc' := 151) rfl ?_
    refine s_iload W10 at_151 rfl (pc' := 153) rfl ?_
    refine s_iadd W10 at_153 (pc' := 154) rfl ?_
    rw [show ((0 : Int32) + (Int32.ofNat sk)) = Int32.ofNat (0 + sk) from ofN_add (j := 0) (by omega)]
    have fx11 := (A9.ext E10)
    have fx12 := ((Ss.ext E9).ext E10)
    have ne_ads := (fx11).neArv fx12.2.2.2 (w_37 hw)
    have fx13 := (F9_name.ext E10)
    have fx14 := (F9_width.ext E10)
    refine gSpecial W10 rfl (w_40 hw) (w_41 hw) (w_38 hw) (w_42 hw) (by decide) pd_17 (ct_sfinit hw hEL [] b9 s10 (Int32.ofNat (0 + sk)) h10 fx11 fx13 fx14 n0_b9) (by simp) at_154 (pc' := 157) rfl rfl (argsL := [(.ref s10), (.int (Int32.ofNat (0 + sk)))]) rfl rfl (rest := [(.ref b9)]) rfl (wt := 1) (Nat.le_of_eq rfl) (by decide) (by decide) (by decide) (by decide) ?_
    rintro v15 T15 h15 W15 z15 ⟨rfl, Kf, Ef, Ff⟩
    show Go p e below _ T15 (mkF m 157 #[.val (.int pa), .val (.int pb), .val (.int px), .val (.int pd), .val (.int c1), .val (.int c2), .val (.int nn), .val (.int (Int32.ofNat po)), .val (.int (Int32.ofNat sk)), .val (.ref b4), .val (.ref b5), .val (.ref b6), .val (.int (0 : Int32)), .val (.int (0 : Int32)), .val (.ref sv), .unset] [(.ref b9)])
    refine s_astore W15 at_157 rfl (l' := #[.val (.int pa), .val (.int pb), .val (.int px), .val (.int pd), .val (.int c1), .val (.int c2), .val (.int nn), .val (.int (Int32.ofNat po)), .val (.int (Int32.ofNat sk)), .val (.ref b4), .val (.ref b5), .val (.ref b6), .val (.int (0 : Int32)), .val (.int (0 : Int32)), .val (.ref sv), .val (.ref b9)]) rfl (pc' := 159) rfl ?_
    refine s_aload W15 at_159 rfl rfl (pc' := 161) rfl ?_
    refine s_aload W15 at_161 rfl rfl (pc' := 163) rfl ?_
    refine s_aload W15 at_163 rfl rfl (pc' := 165) rfl ?_
    refine s_iload W15 at_165 rfl (pc' := 167) rfl ?_
    have fx16 := (fx12.keep Kf (ninS (ane (by omega)) nin0) (ninS (Ne.symm ne_ads) nin0))
    refine gVirtual W15 Ef (w_53 hw) (w_54 hw) (fun s hZ => notFace_of_selects (args := #[]) (mv hZ (w_56 hw))) (w_56 hw) (w_55 hw) (w_38 hw) (w_57 hw) (by decide) pd_21 (ct_enc0 hw hEL [] b9 sv ds b6 ks (Int32.ofNat po) ccs (0 + sk) h15 Ef Ff fx16 SCS hccs) (by simp) at_167 (pc' := 170) rfl rfl (argsL := [(.ref sv), (.ref b6), (.int (Int32.ofNat po))]) rfl rfl (rest := []) rfl (wt := 0) (Nat.le_of_eq rfl) (by decide) (by decide) (by decide) (by decide) ?_
    rintro v17 T17 h17 W17 z17 ⟨rfl, rfl⟩
    show Go p e below _ T17 (mkF m 170 #[.val (.int pa), .val (.int pb), .val (.int px), .val (.int pd), .val (.int c1), .val (.int c2), .val (.int nn), .val (.int (Int32.ofNat po)), .val (.int (Int32.ofNat sk)), .val (.ref b4), .val (.ref b5), .val (.ref b6), .val (.int (0 : Int32)), .val (.int (0 : Int32)), .val (.ref sv), .val (.ref b9)] [])
    refine s_aload W17 at_170 rfl rfl (pc' := 172) rfl ?_
    refine s_aload W17 at_172 rfl rfl (pc' := 174) rfl ?_
    have fx18 := ((((Zb6.keep Ks nin0).ext E9).ext E10).keep Kf (ninS (ane (by omega)) nin0))
    have fx19 := ((((Zb5.keep Ks nin0).ext E9).ext E10).keep Kf (ninS (ane (by omega)) nin0))
    refine gStatic W17 (w_75 hw) (w_76 hw) (w_2 hw) (w_77 hw) (by decide) pd_22 (ct_same hw hEL [] b6 b5 k6 k5 (List.replicate 16 (0 : Int32)) (by simp only [wr1_len, List.length_replicate]) h15 fx18 fx19) (by simp) at_174 (pc' := 177) rfl rfl (argsL := [(.ref b6), (.ref b5)]) rfl rfl (rest := []) rfl (wt := 0) (Nat.le_of_eq rfl) (by decide) (by decide) (by decide) (by decide) ?_
    rintro v20 T20 h20 W20 z20 ⟨rfl, rfl⟩
    show Go p e below _ T20 (mkF m 177 #[.val (.int pa), .val (.int pb), .val (.int px), .val (.int pd), .val (.int c1), .val (.int c2), .val (.int nn), .val (.int (Int32.ofNat po)), .val (.int (Int32.ofNat sk)), .val (.ref b4), .val (.ref b5), .val (.ref b6), .val (.int (0 : Int32)), .val (.int (0 : Int32)), .val (.ref sv), .val (.ref b9)] [(.int (1 : Int32))])
    exact gRetN W20 hret (by simp) at_177 (by decide) (by decide) rfl
  · intro q69
    refine s_aload W6 at_72 rfl rfl (pc' := 74) rfl ?_
    refine s_iload W6 at_74 rfl (pc' := 76) rfl ?_
    refine s_iload W6 at_76 rfl (pc' := 78) rfl ?_
    by_cases hqc1 : c1.toInt < 65536
    · have hb_c1 : c1.toInt < 65536 := hqc1
      have fx21 := ((Vp4.ext E5).ext E6)
      refine gStatic W6 (w_78 hw) (w_79 hw) (w_2 hw) (w_80 hw) (by decide) pd_23 (ct_chS hw hEL [] b4 k4 c1 4 0 [(.int (0 : Int32)), (.int (0 : Int32)), (.int (0 : Int32)), (.int (0 : Int32))] h6 (show (4 : Int32).toInt = ((4 : Nat) : Int) by decide) fx21 n0_b4 hc1 hb_c1 (show 0 < 4 by decide)) (by simp) at_78 (pc' := 81) rfl rfl (argsL := [(.ref b4), (.int (0 : Int32)), (.int c1)]) rfl rfl (rest := []) rfl (wt := 0) (Nat.le_of_eq rfl) (by decide) (by decide) (by decide) (by decide) ?_
      rintro v22 T22 h22 W22 z22 ⟨rfl, Kcc1, Vcc1⟩
      replace Vcc1 : Arv Z h22 b4 k4 .char 4 [(.int c1), (.int (0 : Int32)), (.int (0 : Int32)), (.int (0 : Int32))] (.int 0) := Vcc1
      show Go p e below _ T22 (mkF m 81 #[.val (.int pa), .val (.int pb), .val (.int px), .val (.int pd), .val (.int c1), .val (.int c2), .val (.int nn), .val (.int (Int32.ofNat po)), .val (.int (Int32.ofNat sk)), .val (.ref b4), .val (.ref b5), .val (.ref b6), .val (.int (0 : Int32)), .val (.int (0 : Int32)), .unset, .unset] [(.int (1 : Int32))])
      refine s_istore W22 at_81 (l' := #[.val (.int pa), .val (.int pb), .val (.int px), .val (.int pd), .val (.int c1), .val (.int c2), .val (.int nn), .val (.int (Int32.ofNat po)), .val (.int (Int32.ofNat sk)), .val (.ref b4), .val (.ref b5), .val (.ref b6), .val (.int (1 : Int32)), .val (.int (0 : Int32)), .unset, .unset]) rfl (pc' := 83) rfl ?_
      refine s_iload W22 at_83 rfl (pc' := 85) rfl ?_
      refine s_aload W22 at_85 rfl rfl (pc' := 87) rfl ?_
      refine s_iload W22 at_87 rfl (pc' := 89) rfl ?_
      refine s_iload W22 at_89 rfl (pc' := 91) rfl ?_
      refine s_iadd W22 at_91 (pc' := 92) rfl ?_
      refine s_iload W22 at_92 rfl (pc' := 94) rfl ?_
      rw [show ((Int32.ofNat po) + (0 : Int32)) = Int32.ofNat po from by rw [Int32.add_zero]]
      have fx23 := (Zb5.keep Kcc1 (ninS (ane (by omega)) nin0))
      refine gStatic W22 (w_82 hw) (w_83 hw) (w_2 hw) (w_84 hw) (by decide) pd_15 (ct_put hw hEL [] b5 k5 c1 po (List.replicate 16 (0 : Int32)) h22 fx23 (by simp only [wr1_len, List.length_replicate]) hc1 (by omega) n0_b5) (fun x hx => by rcases List.mem_singleton.mp hx with rfl; exact List.mem_of_getElem? (i := 1) rfl) at_94 (pc' := 97) rfl rfl (argsL := [(.ref b5), (.int (Int32.ofNat po)), (.int c1)]) rfl rfl (rest := [(.int (0 : Int32))]) rfl (wt := 1) (Nat.le_of_eq rfl) (by decide) (by decide) (by decide) (by decide) ?_
      rintro v24 T24 h24 W24 z24 ⟨rfl, Kpc1, Vpc1⟩
      show Go p e below _ T24 (mkF m 97 #[.val (.int pa), .val (.int pb), .val (.int px), .val (.int pd), .val (.int c1), .val (.int c2), .val (.int nn), .val (.int (Int32.ofNat po)), .val (.int (Int32.ofNat sk)), .val (.ref b4), .val (.ref b5), .val (.ref b6), .val (.int (1 : Int32)), .val (.int (0 : Int32)), .unset, .unset] [(.int (Int32.ofNat (usz c1))), (.int (0 : Int32))])
      refine s_iadd W24 at_97 (pc' := 98) rfl ?_
      rw [show ((0 : Int32) + (Int32.ofNat (usz c1))) = Int32.ofNat (usz c1) from Int32.zero_add _]
      show Go p e below _ T24 (mkF m 98 #[.val (.int pa), .val (.int pb), .val (.int px), .val (.int pd), .val (.int c1), .val (.int c2), .val (.int nn), .val (.int (Int32.ofNat po)), .val (.int (Int32.ofNat sk)), .val (.ref b4), .val (.ref b5), .val (.ref b6), .val (.int (1 : Int32)), .val (.int (0 : Int32)), .unset, .unset] [(.int (Int32.ofNat (usz c1)))])
      refine s_istore W24 at_98 (l' := #[.val (.int pa), .val (.int pb), .val (.int px), .val (.int pd), .val (.int c1), .val (.int c2), .val (.int nn), .val (.int (Int32.ofNat po)), .val (.int (Int32.ofNat sk)), .val (.ref b4), .val (.ref b5), .val (.ref b6), .val (.int (1 : Int32)), .val (.int (Int32.ofNat (usz c1))), .unset, .unset]) rfl (pc' := 100) rfl ?_
      refine s_iload W24 at_100 rfl (pc' := 102) rfl ?_
      refine s_iconst W24 at_102 (v := (2 : Int32)) (by decide) (pc' := 103) rfl ?_
      refine s_icmplt W24 at_103 (by decide) (pc1 := 134) (by decide) (pc2 := 106) rfl ?_ ?_
      · intro q103
        refine s_aload W24 at_134 rfl rfl (pc' := 136) rfl ?_
        refine s_iload W24 at_136 rfl (pc' := 138) rfl ?_
        have fx25 := (Vcc1.keep Kpc1 (ninS (ane (by omega)) nin0))
        refine gStatic W24 (w_13 hw) (w_14 hw) (w_2 hw) (w_15 hw) (by decide) pd_20 (ct_str1n hw hEL [] b4 k4 c1 (0 : Int32) (0 : Int32) (0 : Int32) ccs h24 fx25 (chs_wide hc1 _ (by rw [show chs c1 = _ from if_pos hb_c1]; simp)) SCS hccs SAD SHI SLO) (by simp) at_138 (pc' := 141) rfl rfl (argsL := [(.ref b4), (.int (1 : Int32))]) rfl rfl (rest := []) rfl (wt := 0) (Nat.le_of_eq rfl) (by decide) (by decide) (by decide) (by decide) ?_
        rintro v26 T26 h26 W26 z26 ⟨sv, ds, ks, zzs, rfl, Ks, gs, Ss, ls, gd⟩
        have lt_ds := natlt Ss.2.2.2.lt
        have gs_ := natle gs
        have gd_ := natle gd
        have lt_sv := natlt Ss.1.lt
        show Go p e below _ T26 (mkF m 141 #[.val (.int pa), .val (.int pb), .val (.int px), .val (.int pd), .val (.int c1), .val (.int c2), .val (.int nn), .val (.int (Int32.ofNat po)), .val (.int (Int32.ofNat sk)), .val (.ref b4), .val (.ref b5), .val (.ref b6), .val (.int (1 : Int32)), .val (.int (Int32.ofNat (usz c1))), .unset, .unset] [(.ref sv)])
        refine s_astore W26 at_141 rfl (l' := #[.val (.int pa), .val (.int pb), .val (.int px), .val (.int pd), .val (.int c1), .val (.int c2), .val (.int nn), .val (.int (Int32.ofNat po)), .val (.int (Int32.ofNat sk)), .val (.ref b4), .val (.ref b5), .val (.ref b6), .val (.int (1 : Int32)), .val (.int (Int32.ofNat (usz c1))), .val (.ref sv), .unset]) rfl (pc' := 143) rfl ?_
        refine gNew W26 (w_36 hw) (w_37 hw) (w_38 hw) at_143 (pc' := 146) rfl (by decide) (by decide) ?_
        intro T27 h27 b27 g27 W27 E27 ⟨A27, D27, U27⟩
        have z27 : h26.size ≤ h27.size := E27.1
        have lt_b27 := natlt A27.lt
        have gg27 := nateq g27
        have n0_b27 : n0 ≤ b27 := by have := W26.n0le; omega
        have F27_name : Fld Z h27 b27 "com/example/trim_rowkey/trimrowkey/Field" "name" "Ljava/lang/String;" .null := D27 (Or.inr (w_50 hw)) (ty := (.object "java/lang/String")) (by decide)
        have F27_width : Fld Z h27 b27 "com/example/trim_rowkey/trimrowkey/Field" "width" "I" (.int (0 : Int32)) := D27 (Or.inr (w_52 hw)) (ty := .int) (by decide)
        refine s_dup W27 at_146 rfl (pc' := 147) rfl ?_
        refine gLdcS W27 (w_39 hw) (wS hw) (List.mem_of_getElem? (i := 0) rfl) (vs := [(.int (102 : Int32))]) (z := (1 : Int32)) ⟨by decide +kernel, by decide +kernel⟩ (by decide) (by decide) at_147 (pc' := 149) rfl (nn := 4) (by decide) (by decide) (by decide) (by decide) ?_
        intro T28 h28 s28 d28 k28 W28 E28 A28 C28 F28 V28 N28
        have z28 : h27.size ≤ h28.size := E28.1
        have lt_s28 := natlt A28.lt
        have lt_d28 := natlt V28.lt
        refine s_iload W28 at_149 rfl (pc' := 151) rfl ?_
        refine s_iload W28 at_151 rfl (pc' := 153) rfl ?_
        refine s_iadd W28 at_153 (pc' := 154) rfl ?_
        rw [show ((Int32.ofNat (usz c1)) + (Int32.ofNat sk)) = Int32.ofNat (usz c1 + sk) from ofN_add (by omega)]
        have fx29 := (A27.ext E28)
        have fx30 := (F27_name.ext E28)
        have fx31 := (F27_width.ext E28)
        refine gSpecial W28 rfl (w_40 hw) (w_41 hw) (w_38 hw) (w_42 hw) (by decide) pd_17 (ct_sfinit hw hEL [] b27 s28 (Int32.ofNat (usz c1 + sk)) h28 fx29 fx30 fx31 n0_b27) (by simp) at_154 (pc' := 157) rfl rfl (argsL := [(.ref s28), (.int (Int32.ofNat (usz c1 + sk)))]) rfl rfl (rest := [(.ref b27)]) rfl (wt := 1) (Nat.le_of_eq rfl) (by decide) (by decide) (by decide) (by decide) ?_
        rintro v32 T32 h32 W32 z32 ⟨rfl, Kf, Ef, Ff⟩
        show Go p e below _ T32 (mkF m 157 #[.val (.int pa), .val (.int pb), .val (.int px), .val (.int pd), .val (.int c1), .val (.int c2), .val (.int nn), .val (.int (Int32.ofNat po)), .val (.int (Int32.ofNat sk)), .val (.ref b4), .val (.ref b5), .val (.ref b6), .val (.int (1 : Int32)), .val (.int (Int32.ofNat (usz c1))), .val (.ref sv), .unset] [(.ref b27)])
        refine s_astore W32 at_157 rfl (l' := #[.val (.int pa), .val (.int pb), .val (.int px), .val (.int pd), .val (.int c1), .val (.int c2), .val (.int nn), .val (.int (Int32.ofNat po)), .val (.int (Int32.ofNat sk)), .val (.ref b4), .val (.ref b5), .val (.ref b6), .val (.int (1 : Int32)), .val (.int (Int32.ofNat (usz c1))), .val (.ref sv), .val (.ref b27)]) rfl (pc' := 159) rfl ?_
        refine s_aload W32 at_159 rfl rfl (pc' := 161) rfl ?_
        refine s_aload W32 at_161 rfl rfl (pc' := 163) rfl ?_
        refine s_aload W32 at_163 rfl rfl (pc' := 165) rfl ?_
        refine s_iload W32 at_165 rfl (pc' := 167) rfl ?_
        have ecs : [c1] = [c1].flatMap chs := (by first | (simp only [List.flatMap_cons, List.flatMap_nil, List.append_nil, show chs c1 = _ from if_pos hb_c1]; done) | (simp only [List.flatMap_cons, List.flatMap_nil, List.append_nil, show chs c1 = _ from if_pos hb_c1]; rfl))
        have hall : ∀ x ∈ [c1], VCP x := by intro x hx; simp only [List.mem_cons, List.not_mem_nil, or_false] at hx; rcases hx with rfl <;> assumption
        have hwd : ∀ x ∈ [c1], 0 ≤ x.toInt ∧ x.toInt < 65536 := by rw [ecs]; intro x hx; obtain ⟨y, hy, hx⟩ := List.mem_flatMap.mp hx; exact chs_wide (hall y hy) x hx
        have eus : usum [c1] = usz c1 + 0 := rfl
        have fx33 := (((Ss.ext E27).ext E28).keep Kf (ninS (ane (by omega)) nin0) (ninS (ane (by omega)) nin0))
        have fx34 := ((((((Zb6.keep Kcc1 (ninS (ane (by omega)) nin0)).keep Kpc1 (ninS (ane (by omega)) nin0)).keep Ks nin0).ext E27).ext E28).keep Kf (ninS (ane (by omega)) nin0))
        refine gVirtual W32 Ef (w_53 hw) (w_54 hw) (fun s hZ => notFace_of_selects (args := #[]) (mv hZ (w_56 hw))) (w_56 hw) (w_55 hw) (w_38 hw) (w_57 hw) (by decide) pd_21 (ct_enc hw hEL [] b27 sv ds b6 lb ks k6 kl zzs ccs fo po (usz c1 + sk) (List.replicate 16 0) [c1] [c1] h32 Ef Ff fx33 ls hwd ecs (show 1 ≤ 1000 by decide) hall fx34 (by rfl) (by omega) (by omega) n0_b6 (ane (by omega)) (ane (by omega)) SLB VLB SCS hccs SFO rfo SAD SHI SLO) (fun x hx => by rcases List.mem_singleton.mp hx with rfl; exact List.mem_of_getElem? (i := 1) rfl) at_167 (pc' := 170) rfl rfl (argsL := [(.ref sv), (.ref b6), (.int (Int32.ofNat po))]) rfl rfl (rest := []) rfl (wt := 0) (Nat.le_of_eq rfl) (by decide) (by decide) (by decide) (by decide) ?_
        rintro v35 T35 h35 W35 z35 ⟨rfl, Ke, Ve⟩
        show Go p e below _ T35 (mkF m 170 #[.val (.int pa), .val (.int pb), .val (.int px), .val (.int pd), .val (.int c1), .val (.int c2), .val (.int nn), .val (.int (Int32.ofNat po)), .val (.int (Int32.ofNat sk)), .val (.ref b4), .val (.ref b5), .val (.ref b6), .val (.int (1 : Int32)), .val (.int (Int32.ofNat (usz c1))), .val (.ref sv), .val (.ref b27)] [])
        refine s_aload W35 at_170 rfl rfl (pc' := 172) rfl ?_
        refine s_aload W35 at_172 rfl rfl (pc' := 174) rfl ?_
        have fx36 := (((((Vpc1.keep Ks nin0).ext E27).ext E28).keep Kf (ninS (ane (by omega)) nin0)).keep Ke (ninS (ane (by omega)) nin0))
        refine gStatic W35 (w_75 hw) (w_76 hw) (w_2 hw) (w_77 hw) (by decide) pd_22 (ct_same hw hEL [] b6 b5 k6 k5 (wr1 (List.replicate 16 (0 : Int32)) po c1) (by simp only [wr1_len, List.length_replicate]) h35 Ve fx36) (by simp) at_174 (pc' := 177) rfl rfl (argsL := [(.ref b6), (.ref b5)]) rfl rfl (rest := []) rfl (wt := 0) (Nat.le_of_eq rfl) (by decide) (by decide) (by decide) (by decide) ?_
        rintro v37 T37 h37 W37 z37 ⟨rfl, rfl⟩
        show Go p e below _ T37 (mkF m 177 #[.val (.int pa), .val (.int pb), .val (.int px), .val (.int pd), .val (.int c1), .val (.int c2), .val (.int nn), .val (.int (Int32.ofNat po)), .val (.int (Int32.ofNat sk)), .val (.ref b4), .val (.ref b5), .val (.ref b6), .val (.int (1 : Int32)), .val (.int (Int32.ofNat (usz c1))), .val (.ref sv), .val (.ref b27)] [(.int (1 : Int32))])
        exact gRetN W37 hret (by simp) at_177 (by decide) (by decide) rfl
      · intro q103
        refine s_aload W24 at_106 rfl rfl (pc' := 108) rfl ?_
        refine s_iload W24 at_108 rfl (pc' := 110) rfl ?_
        refine s_iload W24 at_110 rfl (pc' := 112) rfl ?_
        by_cases hqc2 : c2.toInt < 65536
        · have hb_c2 : c2.toInt < 65536 := hqc2
          have fx38 := (Vcc1.keep Kpc1 (ninS (ane (by omega)) nin0))
          refine gStatic W24 (w_78 hw) (w_79 hw) (w_2 hw) (w_80 hw) (by decide) pd_23 (ct_chS hw hEL [] b4 k4 c2 4 1 [(.int c1), (.int (0 : Int32)), (.int (0 : Int32)), (.int (0 : Int32))] h24 (show (4 : Int32).toInt = ((4 : Nat) : Int) by decide) fx38 n0_b4 hc2 hb_c2 (show 1 < 4 by decide)) (by simp) at_112 (pc' := 115) rfl rfl (argsL := [(.ref b4), (.int (1 : Int32)), (.int c2)]) rfl rfl (rest := []) rfl (wt := 0) (Nat.le_of_eq rfl) (by decide) (by decide) (by decide) (by decide) ?_
          rintro v39 T39 h39 W39 z39 ⟨rfl, Kcc2, Vcc2⟩
          replace Vcc2 : Arv Z h39 b4 k4 .char 4 [(.int c1), (.int c2), (.int (0 : Int32)), (.int (0 : Int32))] (.int 0) := Vcc2
          show Go p e below _ T39 (mkF m 115 #[.val (.int pa), .val (.int pb), .val (.int px), .val (.int pd), .val (.int c1), .val (.int c2), .val (.int nn), .val (.int (Int32.ofNat po)), .val (.int (Int32.ofNat sk)), .val (.ref b4), .val (.ref b5), .val (.ref b6), .val (.int (1 : Int32)), .val (.int (Int32.ofNat (usz c1))), .unset, .unset] [(.int (2 : Int32))])
          refine s_istore W39 at_115 (l' := #[.val (.int pa), .val (.int pb), .val (.int px), .val (.int pd), .val (.int c1), .val (.int c2), .val (.int nn), .val (.int (Int32.ofNat po)), .val (.int (Int32.ofNat sk)), .val (.ref b4), .val (.ref b5), .val (.ref b6), .val (.int (2 : Int32)), .val (.int (Int32.ofNat (usz c1))), .unset, .unset]) rfl (pc' := 117) rfl ?_
          refine s_iload W39 at_117 rfl (pc' := 119) rfl ?_
          refine s_aload W39 at_119 rfl rfl (pc' := 121) rfl ?_
          refine s_iload W39 at_121 rfl (pc' := 123) rfl ?_
          refine s_iload W39 at_123 rfl (pc' := 125) rfl ?_
          refine s_iadd W39 at_125 (pc' := 126) rfl ?_
          refine s_iload W39 at_126 rfl (pc' := 128) rfl ?_
          rw [show ((Int32.ofNat po) + (Int32.ofNat (usz c1))) = Int32.ofNat (po + (usz c1)) from ofN_add (by omega)]
          have fx40 := (Vpc1.keep Kcc2 (ninS (ane (by omega)) nin0))
          refine gStatic W39 (w_82 hw) (w_83 hw) (w_2 hw) (w_84 hw) (by decide) pd_15 (ct_put hw hEL [] b5 k5 c2 (po + (usz c1)) (wr1 (List.replicate 16 (0 : Int32)) po c1) h39 fx40 (by simp only [wr1_len, List.length_replicate]) hc2 (by omega) n0_b5) (fun x hx => by rcases List.mem_singleton.mp hx with rfl; exact List.mem_of_getElem? (i := 1) rfl) at_128 (pc' := 131) rfl rfl (argsL := [(.ref b5), (.int (Int32.ofNat (po + (usz c1)))), (.int c2)]) rfl rfl (rest := [(.int (Int32.ofNat (usz c1)))]) rfl (wt := 1) (Nat.le_of_eq rfl) (by decide) (by decide) (by decide) (by decide) ?_
          rintro v41 T41 h41 W41 z41 ⟨rfl, Kpc2, Vpc2⟩
          show Go p e below _ T41 (mkF m 131 #[.val (.int pa), .val (.int pb), .val (.int px), .val (.int pd), .val (.int c1), .val (.int c2), .val (.int nn), .val (.int (Int32.ofNat po)), .val (.int (Int32.ofNat sk)), .val (.ref b4), .val (.ref b5), .val (.ref b6), .val (.int (2 : Int32)), .val (.int (Int32.ofNat (usz c1))), .unset, .unset] [(.int (Int32.ofNat (usz c2))), (.int (Int32.ofNat (usz c1)))])
          refine s_iadd W41 at_131 (pc' := 132) rfl ?_
          rw [show ((Int32.ofNat (usz c1)) + (Int32.ofNat (usz c2))) = Int32.ofNat (usz c1 + usz c2) from ofN_add (by omega)]
          show Go p e below _ T41 (mkF m 132 #[.val (.int pa), .val (.int pb), .val (.int px), .val (.int pd), .val (.int c1), .val (.int c2), .val (.int nn), .val (.int (Int32.ofNat po)), .val (.int (Int32.ofNat sk)), .val (.ref b4), .val (.ref b5), .val (.ref b6), .val (.int (2 : Int32)), .val (.int (Int32.ofNat (usz c1))), .unset, .unset] [(.int (Int32.ofNat (usz c1 + usz c2)))])
          refine s_istore W41 at_132 (l' := #[.val (.int pa), .val (.int pb), .val (.int px), .val (.int pd), .val (.int c1), .val (.int c2), .val (.int nn), .val (.int (Int32.ofNat po)), .val (.int (Int32.ofNat sk)), .val (.ref b4), .val (.ref b5), .val (.ref b6), .val (.int (2 : Int32)), .val (.int (Int32.ofNat (usz c1 + usz c2))), .unset, .unset]) rfl (pc' := 134) rfl ?_
          refine s_aload W41 at_134 rfl rfl (pc' := 136) rfl ?_
          refine s_iload W41 at_136 rfl (pc' := 138) rfl ?_
          have fx42 := (Vcc2.keep Kpc2 (ninS (ane (by omega)) nin0))
          refine gStatic W41 (w_13 hw) (w_14 hw) (w_2 hw) (w_15 hw) (by decide) pd_20 (ct_str2n hw hEL [] b4 k4 c1 c2 (0 : Int32) (0 : Int32) ccs h41 fx42 (chs_wide hc1 _ (by rw [show chs c1 = _ from if_pos hb_c1]; simp)) (chs_wide hc2 _ (by rw [show chs c2 = _ from if_pos hb_c2]; simp)) SCS hccs SAD SHI SLO) (by simp) at_138 (pc' := 141) rfl rfl (argsL := [(.ref b4), (.int (2 : Int32))]) rfl rfl (rest := []) rfl (wt := 0) (Nat.le_of_eq rfl) (by decide) (by decide) (by decide) (by decide) ?_
          rintro v43 T43 h43 W43 z43 ⟨sv, ds, ks, zzs, rfl, Ks, gs, Ss, ls, gd⟩
          have lt_ds := natlt Ss.2.2.2.lt
          have gs_ := natle gs
          have gd_ := natle gd
          have lt_sv := natlt Ss.1.lt
          show Go p e below _ T43 (mkF m 141 #[.val (.int pa), .val (.int pb), .val (.int px), .val (.int pd), .val (.int c1), .val (.int c2), .val (.int nn), .val (.int (Int32.ofNat po)), .val (.int (Int32.ofNat sk)), .val (.ref b4), .val (.ref b5), .val (.ref b6), .val (.int (2 : Int32)), .val (.int (Int32.ofNat (usz c1 + usz c2))), .unset, .unset] [(.ref sv)])
          refine s_astore W43 at_141 rfl (l' := #[.val (.int pa), .val (.int pb), .val (.int px), .val (.int pd), .val (.int c1), .val (.int c2), .val (.int nn), .val (.int (Int32.ofNat po)), .val (.int (Int32.ofNat sk)), .val (.ref b4), .val (.ref b5), .val (.ref b6), .val (.int (2 : Int32)), .val (.int (Int32.ofNat (usz c1 + usz c2))), .val (.ref sv), .unset]) rfl (pc' := 143) rfl ?_
          refine gNew W43 (w_36 hw) (w_37 hw) (w_38 hw) at_143 (pc' := 146) rfl (by decide) (by decide) ?_
          intro T44 h44 b44 g44 W44 E44 ⟨A44, D44, U44⟩
          have z44 : h43.size ≤ h44.size := E44.1
          have lt_b44 := natlt A44.lt
          have gg44 := nateq g44
          have n0_b44 : n0 ≤ b44 := by have := W43.n0le; omega
          have F44_name : Fld Z h44 b44 "com/example/trim_rowkey/trimrowkey/Field" "name" "Ljava/lang/String;" .null := D44 (Or.inr (w_50 hw)) (ty := (.object "java/lang/String")) (by decide)
          have F44_width : Fld Z h44 b44 "com/example/trim_rowkey/trimrowkey/Field" "width" "I" (.int (0 : Int32)) := D44 (Or.inr (w_52 hw)) (ty := .int) (by decide)
          refine s_dup W44 at_146 rfl (pc' := 147) rfl ?_
          refine gLdcS W44 (w_39 hw) (wS hw) (List.mem_of_getElem? (i := 0) rfl) (vs := [(.int (102 : Int32))]) (z := (1 : Int32)) ⟨by decide +kernel, by decide +kernel⟩ (by decide) (by decide) at_147 (pc' := 149) rfl (nn := 4) (by decide) (by decide) (by decide) (by decide) ?_
          intro T45 h45 s45 d45 k45 W45 E45 A45 C45 F45 V45 N45
          have z45 : h44.size ≤ h45.size := E45.1
          have lt_s45 := natlt A45.lt
          have lt_d45 := natlt V45.lt
          refine s_iload W45 at_149 rfl (pc' := 151) rfl ?_
          refine s_iload W45 at_151 rfl (pc' := 153) rfl ?_
          refine s_iadd W45 at_153 (pc' := 154) rfl ?_
          rw [show ((Int32.ofNat (usz c1 + usz c2)) + (Int32.ofNat sk)) = Int32.ofNat (usz c1 + usz c2 + sk) from ofN_add (by omega)]
          have fx46 := (A44.ext E45)
          have fx47 := (F44_name.ext E45)
          have fx48 := (F44_width.ext E45)
          refine gSpecial W45 rfl (w_40 hw) (w_41 hw) (w_38 hw) (w_42 hw) (by decide) pd_17 (ct_sfinit hw hEL [] b44 s45 (Int32.ofNat (usz c1 + usz c2 + sk)) h45 fx46 fx47 fx48 n0_b44) (by simp) at_154 (pc' := 157) rfl rfl (argsL := [(.ref s45), (.int (Int32.ofNat (usz c1 + usz c2 + sk)))]) rfl rfl (rest := [(.ref b44)]) rfl (wt := 1) (Nat.le_of_eq rfl) (by decide) (by decide) (by decide) (by decide) ?_
          rintro v49 T49 h49 W49 z49 ⟨rfl, Kf, Ef, Ff⟩
          show Go p e below _ T49 (mkF m 157 #[.val (.int pa), .val (.int pb), .val (.int px), .val (.int pd), .val (.int c1), .val (.int c2), .val (.int nn), .val (.int (Int32.ofNat po)), .val (.int (Int32.ofNat sk)), .val (.ref b4), .val (.ref b5), .val (.ref b6), .val (.int (2 : Int32)), .val (.int (Int32.ofNat (usz c1 + usz c2))), .val (.ref sv), .unset] [(.ref b44)])
          refine s_astore W49 at_157 rfl (l' := #[.val (.int pa), .val (.int pb), .val (.int px), .val (.int pd), .val (.int c1), .val (.int c2), .val (.int nn), .val (.int (Int32.ofNat po)), .val (.int (Int32.ofNat sk)), .val (.ref b4), .val (.ref b5), .val (.ref b6), .val (.int (2 : Int32)), .val (.int (Int32.ofNat (usz c1 + usz c2))), .val (.ref sv), .val (.ref b44)]) rfl (pc' := 159) rfl ?_
          refine s_aload W49 at_159 rfl rfl (pc' := 161) rfl ?_
          refine s_aload W49 at_161 rfl rfl (pc' := 163) rfl ?_
          refine s_aload W49 at_163 rfl rfl (pc' := 165) rfl ?_
          refine s_iload W49 at_165 rfl (pc' := 167) rfl ?_
          have ecs : [c1, c2] = [c1, c2].flatMap chs := (by first | (simp only [List.flatMap_cons, List.flatMap_nil, List.append_nil, show chs c1 = _ from if_pos hb_c1, show chs c2 = _ from if_pos hb_c2]; done) | (simp only [List.flatMap_cons, List.flatMap_nil, List.append_nil, show chs c1 = _ from if_pos hb_c1, show chs c2 = _ from if_pos hb_c2]; rfl))
          have hall : ∀ x ∈ [c1, c2], VCP x := by intro x hx; simp only [List.mem_cons, List.not_mem_nil, or_false] at hx; rcases hx with rfl | rfl <;> assumption
          have hwd : ∀ x ∈ [c1, c2], 0 ≤ x.toInt ∧ x.toInt < 65536 := by rw [ecs]; intro x hx; obtain ⟨y, hy, hx⟩ := List.mem_flatMap.mp hx; exact chs_wide (hall y hy) x hx
          have eus : usum [c1, c2] = usz c1 + (usz c2 + 0) := rfl
          have fx50 := (((Ss.ext E44).ext E45).keep Kf (ninS (ane (by omega)) nin0) (ninS (ane (by omega)) nin0))
          have fx51 := ((((((((Zb6.keep Kcc1 (ninS (ane (by omega)) nin0)).keep Kpc1 (ninS (ane (by omega)) nin0)).keep Kcc2 (ninS (ane (by omega)) nin0)).keep Kpc2 (ninS (ane (by omega)) nin0)).keep Ks nin0).ext E44).ext E45).keep Kf (ninS (ane (by omega)) nin0))
          refine gVirtual W49 Ef (w_53 hw) (w_54 hw) (fun s hZ => notFace_of_selects (args := #[]) (mv hZ (w_56 hw))) (w_56 hw) (w_55 hw) (w_38 hw) (w_57 hw) (by decide) pd_21 (ct_enc hw hEL [] b44 sv ds b6 lb ks k6 kl zzs ccs fo po (usz c1 + usz c2 + sk) (List.replicate 16 0) [c1, c2] [c1, c2] h49 Ef Ff fx50 ls hwd ecs (show 2 ≤ 1000 by decide) hall fx51 (by rfl) (by omega) (by omega) n0_b6 (ane (by omega)) (ane (by omega)) SLB VLB SCS hccs SFO rfo SAD SHI SLO) (fun x hx => by rcases List.mem_singleton.mp hx with rfl; exact List.mem_of_getElem? (i := 1) rfl) at_167 (pc' := 170) rfl rfl (argsL := [(.ref sv), (.ref b6), (.int (Int32.ofNat po))]) rfl rfl (rest := []) rfl (wt := 0) (Nat.le_of_eq rfl) (by decide) (by decide) (by decide) (by decide) ?_
          rintro v52 T52 h52 W52 z52 ⟨rfl, Ke, Ve⟩
          show Go p e below _ T52 (mkF m 170 #[.val (.int pa), .val (.int pb), .val (.int px), .val (.int pd), .val (.int c1), .val (.int c2), .val (.int nn), .val (.int (Int32.ofNat po)), .val (.int (Int32.ofNat sk)), .val (.ref b4), .val (.ref b5), .val (.ref b6), .val (.int (2 : Int32)), .val (.int (Int32.ofNat (usz c1 + usz c2))), .val (.ref sv), .val (.ref b44)] [])
          refine s_aload W52 at_170 rfl rfl (pc' := 172) rfl ?_
          refine s_aload W52 at_172 rfl rfl (pc' := 174) rfl ?_
          have fx53 := (((((Vpc2.keep Ks nin0).ext E44).ext E45).keep Kf (ninS (ane (by omega)) nin0)).keep Ke (ninS (ane (by omega)) nin0))
          refine gStatic W52 (w_75 hw) (w_76 hw) (w_2 hw) (w_77 hw) (by decide) pd_22 (ct_same hw hEL [] b6 b5 k6 k5 (wr1 (wr1 (List.replicate 16 (0 : Int32)) po c1) (po + (usz c1)) c2) (by simp only [wr1_len, List.length_replicate]) h52 Ve fx53) (by simp) at_174 (pc' := 177) rfl rfl (argsL := [(.ref b6), (.ref b5)]) rfl rfl (rest := []) rfl (wt := 0) (Nat.le_of_eq rfl) (by decide) (by decide) (by decide) (by decide) ?_
          rintro v54 T54 h54 W54 z54 ⟨rfl, rfl⟩
          show Go p e below _ T54 (mkF m 177 #[.val (.int pa), .val (.int pb), .val (.int px), .val (.int pd), .val (.int c1), .val (.int c2), .val (.int nn), .val (.int (Int32.ofNat po)), .val (.int (Int32.ofNat sk)), .val (.ref b4), .val (.ref b5), .val (.ref b6), .val (.int (2 : Int32)), .val (.int (Int32.ofNat (usz c1 + usz c2))), .val (.ref sv), .val (.ref b44)] [(.int (1 : Int32))])
          exact gRetN W54 hret (by simp) at_177 (by decide) (by decide) rfl
        · have hb_c2 : 65536 ≤ c2.toInt := by omega
          have fx55 := (Vcc1.keep Kpc1 (ninS (ane (by omega)) nin0))
          refine gStatic W24 (w_78 hw) (w_79 hw) (w_2 hw) (w_80 hw) (by decide) pd_23 (ct_chB hw hEL [] b4 k4 c2 4 1 [(.int c1), (.int (0 : Int32)), (.int (0 : Int32)), (.int (0 : Int32))] h24 (show (4 : Int32).toInt = ((4 : Nat) : Int) by decide) fx55 n0_b4 hc2 hb_c2 (show 2 < 4 by decide)) (by simp) at_112 (pc' := 115) rfl rfl (argsL := [(.ref b4), (.int (1 : Int32)), (.int c2)]) rfl rfl (rest := []) rfl (wt := 0) (Nat.le_of_eq rfl) (by decide) (by decide) (by decide) (by decide) ?_
          rintro v56 T56 h56 W56 z56 ⟨rfl, Kcc2, Vcc2⟩
          replace Vcc2 : Arv Z h56 b4 k4 .char 4 [(.int c1), (.int (hiC c2)), (.int (loC c2)), (.int (0 : Int32))] (.int 0) := Vcc2
          show Go p e below _ T56 (mkF m 115 #[.val (.int pa), .val (.int pb), .val (.int px), .val (.int pd), .val (.int c1), .val (.int c2), .val (.int nn), .val (.int (Int32.ofNat po)), .val (.int (Int32.ofNat sk)), .val (.ref b4), .val (.ref b5), .val (.ref b6), .val (.int (1 : Int32)), .val (.int (Int32.ofNat (usz c1))), .unset, .unset] [(.int (3 : Int32))])
          refine s_istore W56 at_115 (l' := #[.val (.int pa), .val (.int pb), .val (.int px), .val (.int pd), .val (.int c1), .val (.int c2), .val (.int nn), .val (.int (Int32.ofNat po)), .val (.int (Int32.ofNat sk)), .val (.ref b4), .val (.ref b5), .val (.ref b6), .val (.int (3 : Int32)), .val (.int (Int32.ofNat (usz c1))), .unset, .unset]) rfl (pc' := 117) rfl ?_
          refine s_iload W56 at_117 rfl (pc' := 119) rfl ?_
          refine s_aload W56 at_119 rfl rfl (pc' := 121) rfl ?_
          refine s_iload W56 at_121 rfl (pc' := 123) rfl ?_
          refine s_iload W56 at_123 rfl (pc' := 125) rfl ?_
          refine s_iadd W56 at_125 (pc' := 126) rfl ?_
          refine s_iload W56 at_126 rfl (pc' := 128) rfl ?_
          rw [show ((Int32.ofNat po) + (Int32.ofNat (usz c1))) = Int32.ofNat (po + (usz c1)) from ofN_add (by omega)]
          have fx57 := (Vpc1.keep Kcc2 (ninS (ane (by omega)) nin0))
          refine gStatic W56 (w_82 hw) (w_83 hw) (w_2 hw) (w_84 hw) (by decide) pd_15 (ct_put hw hEL [] b5 k5 c2 (po + (usz c1)) (wr1 (List.replicate 16 (0 : Int32)) po c1) h56 fx57 (by simp only [wr1_len, List.length_replicate]) hc2 (by omega) n0_b5) (fun x hx => by rcases List.mem_singleton.mp hx with rfl; exact List.mem_of_getElem? (i := 1) rfl) at_128 (pc' := 131) rfl rfl (argsL := [(.ref b5), (.int (Int32.ofNat (po + (usz c1)))), (.int c2)]) rfl rfl (rest := [(.int (Int32.ofNat (usz c1)))]) rfl (wt := 1) (Nat.le_of_eq rfl) (by decide) (by decide) (by decide) (by decide) ?_
          rintro v58 T58 h58 W58 z58 ⟨rfl, Kpc2, Vpc2⟩
          show Go p e below _ T58 (mkF m 131 #[.val (.int pa), .val (.int pb), .val (.int px), .val (.int pd), .val (.int c1), .val (.int c2), .val (.int nn), .val (.int (Int32.ofNat po)), .val (.int (Int32.ofNat sk)), .val (.ref b4), .val (.ref b5), .val (.ref b6), .val (.int (3 : Int32)), .val (.int (Int32.ofNat (usz c1))), .unset, .unset] [(.int (Int32.ofNat (usz c2))), (.int (Int32.ofNat (usz c1)))])
          refine s_iadd W58 at_131 (pc' := 132) rfl ?_
          rw [show ((Int32.ofNat (usz c1)) + (Int32.ofNat (usz c2))) = Int32.ofNat (usz c1 + usz c2) from ofN_add (by omega)]
          show Go p e below _ T58 (mkF m 132 #[.val (.int pa), .val (.int pb), .val (.int px), .val (.int pd), .val (.int c1), .val (.int c2), .val (.int nn), .val (.int (Int32.ofNat po)), .val (.int (Int32.ofNat sk)), .val (.ref b4), .val (.ref b5), .val (.ref b6), .val (.int (3 : Int32)), .val (.int (Int32.ofNat (usz c1))), .unset, .unset] [(.int (Int32.ofNat (usz c1 + usz c2)))])
          refine s_istore W58 at_132 (l' := #[.val (.int pa), .val (.int pb), .val (.int px), .val (.int pd), .val (.int c1), .val (.int c2), .val (.int nn), .val (.int (Int32.ofNat po)), .val (.int (Int32.ofNat sk)), .val (.ref b4), .val (.ref b5), .val (.ref b6), .val (.int (3 : Int32)), .val (.int (Int32.ofNat (usz c1 + usz c2))), .unset, .unset]) rfl (pc' := 134) rfl ?_
          refine s_aload W58 at_134 rfl rfl (pc' := 136) rfl ?_
          refine s_iload W58 at_136 rfl (pc' := 138) rfl ?_
          have fx59 := (Vcc2.keep Kpc2 (ninS (ane (by omega)) nin0))
          refine gStatic W58 (w_13 hw) (w_14 hw) (w_2 hw) (w_15 hw) (by decide) pd_20 (ct_str3n hw hEL [] b4 k4 c1 (hiC c2) (loC c2) (0 : Int32) ccs h58 fx59 (chs_wide hc1 _ (by rw [show chs c1 = _ from if_pos hb_c1]; simp)) (chs_wide hc2 _ (by rw [show chs c2 = _ from if_neg (by omega)]; simp)) (chs_wide hc2 _ (by rw [show chs c2 = _ from if_neg (by omega)]; simp)) SCS hccs SAD SHI SLO) (by simp) at_138 (pc' := 141) rfl rfl (argsL := [(.ref b4), (.int (3 : Int32))]) rfl rfl (rest := []) rfl (wt := 0) (Nat.le_of_eq rfl) (by decide) (by decide) (by decide) (by decide) ?_
          rintro v60 T60 h60 W60 z60 ⟨sv, ds, ks, zzs, rfl, Ks, gs, Ss, ls, gd⟩
          have lt_ds := natlt Ss.2.2.2.lt
          have gs_ := natle gs
          have gd_ := natle gd
          have lt_sv := natlt Ss.1.lt
          show Go p e below _ T60 (mkF m 141 #[.val (.int pa), .val (.int pb), .val (.int px), .val (.int pd), .val (.int c1), .val (.int c2), .val (.int nn), .val (.int (Int32.ofNat po)), .val (.int (Int32.ofNat sk)), .val (.ref b4), .val (.ref b5), .val (.ref b6), .val (.int (3 : Int32)), .val (.int (Int32.ofNat (usz c1 + usz c2))), .unset, .unset] [(.ref sv)])
          refine s_astore W60 at_141 rfl (l' := #[.val (.int pa), .val (.int pb), .val (.int px), .val (.int pd), .val (.int c1), .val (.int c2), .val (.int nn), .val (.int (Int32.ofNat po)), .val (.int (Int32.ofNat sk)), .val (.ref b4), .val (.ref b5), .val (.ref b6), .val (.int (3 : Int32)), .val (.int (Int32.ofNat (usz c1 + usz c2))), .val (.ref sv), .unset]) rfl (pc' := 143) rfl ?_
          refine gNew W60 (w_36 hw) (w_37 hw) (w_38 hw) at_143 (pc' := 146) rfl (by decide) (by decide) ?_
          intro T61 h61 b61 g61 W61 E61 ⟨A61, D61, U61⟩
          have z61 : h60.size ≤ h61.size := E61.1
          have lt_b61 := natlt A61.lt
          have gg61 := nateq g61
          have n0_b61 : n0 ≤ b61 := by have := W60.n0le; omega
          have F61_name : Fld Z h61 b61 "com/example/trim_rowkey/trimrowkey/Field" "name" "Ljava/lang/String;" .null := D61 (Or.inr (w_50 hw)) (ty := (.object "java/lang/String")) (by decide)
          have F61_width : Fld Z h61 b61 "com/example/trim_rowkey/trimrowkey/Field" "width" "I" (.int (0 : Int32)) := D61 (Or.inr (w_52 hw)) (ty := .int) (by decide)
          refine s_dup W61 at_146 rfl (pc' := 147) rfl ?_
          refine gLdcS W61 (w_39 hw) (wS hw) (List.mem_of_getElem? (i := 0) rfl) (vs := [(.int (102 : Int32))]) (z := (1 : Int32)) ⟨by decide +kernel, by decide +kernel⟩ (by decide) (by decide) at_147 (pc' := 149) rfl (nn := 4) (by decide) (by decide) (by decide) (by decide) ?_
          intro T62 h62 s62 d62 k62 W62 E62 A62 C62 F62 V62 N62
          have z62 : h61.size ≤ h62.size := E62.1
          have lt_s62 := natlt A62.lt
          have lt_d62 := natlt V62.lt
          refine s_iload W62 at_149 rfl (pc' := 151) rfl ?_
          refine s_iload W62 at_151 rfl (pc' := 153) rfl ?_
          refine s_iadd W62 at_153 (pc' := 154) rfl ?_
          rw [show ((Int32.ofNat (usz c1 + usz c2)) + (Int32.ofNat sk)) = Int32.ofNat (usz c1 + usz c2 + sk) from ofN_add (by omega)]
          have fx63 := (A61.ext E62)
          have fx64 := (F61_name.ext E62)
          have fx65 := (F61_width.ext E62)
          refine gSpecial W62 rfl (w_40 hw) (w_41 hw) (w_38 hw) (w_42 hw) (by decide) pd_17 (ct_sfinit hw hEL [] b61 s62 (Int32.ofNat (usz c1 + usz c2 + sk)) h62 fx63 fx64 fx65 n0_b61) (by simp) at_154 (pc' := 157) rfl rfl (argsL := [(.ref s62), (.int (Int32.ofNat (usz c1 + usz c2 + sk)))]) rfl rfl (rest := [(.ref b61)]) rfl (wt := 1) (Nat.le_of_eq rfl) (by decide) (by decide) (by decide) (by decide) ?_
          rintro v66 T66 h66 W66 z66 ⟨rfl, Kf, Ef, Ff⟩
          show Go p e below _ T66 (mkF m 157 #[.val (.int pa), .val (.int pb), .val (.int px), .val (.int pd), .val (.int c1), .val (.int c2), .val (.int nn), .val (.int (Int32.ofNat po)), .val (.int (Int32.ofNat sk)), .val (.ref b4), .val (.ref b5), .val (.ref b6), .val (.int (3 : Int32)), .val (.int (Int32.ofNat (usz c1 + usz c2))), .val (.ref sv), .unset] [(.ref b61)])
          refine s_astore W66 at_157 rfl (l' := #[.val (.int pa), .val (.int pb), .val (.int px), .val (.int pd), .val (.int c1), .val (.int c2), .val (.int nn), .val (.int (Int32.ofNat po)), .val (.int (Int32.ofNat sk)), .val (.ref b4), .val (.ref b5), .val (.ref b6), .val (.int (3 : Int32)), .val (.int (Int32.ofNat (usz c1 + usz c2))), .val (.ref sv), .val (.ref b61)]) rfl (pc' := 159) rfl ?_
          refine s_aload W66 at_159 rfl rfl (pc' := 161) rfl ?_
          refine s_aload W66 at_161 rfl rfl (pc' := 163) rfl ?_
          refine s_aload W66 at_163 rfl rfl (pc' := 165) rfl ?_
          refine s_iload W66 at_165 rfl (pc' := 167) rfl ?_
          have ecs : [c1, (hiC c2), (loC c2)] = [c1, c2].flatMap chs := (by first | (simp only [List.flatMap_cons, List.flatMap_nil, List.append_nil, show chs c1 = _ from if_pos hb_c1, show chs c2 = _ from if_neg (show ¬ c2.toInt < 65536 by omega)]; done) | (simp only [List.flatMap_cons, List.flatMap_nil, List.append_nil, show chs c1 = _ from if_pos hb_c1, show chs c2 = _ from if_neg (show ¬ c2.toInt < 65536 by omega)]; rfl))
          have hall : ∀ x ∈ [c1, c2], VCP x := by intro x hx; simp only [List.mem_cons, List.not_mem_nil, or_false] at hx; rcases hx with rfl | rfl <;> assumption
          have hwd : ∀ x ∈ [c1, (hiC c2), (loC c2)], 0 ≤ x.toInt ∧ x.toInt < 65536 := by rw [ecs]; intro x hx; obtain ⟨y, hy, hx⟩ := List.mem_flatMap.mp hx; exact chs_wide (hall y hy) x hx
          have eus : usum [c1, c2] = usz c1 + (usz c2 + 0) := rfl
          have fx67 := (((Ss.ext E61).ext E62).keep Kf (ninS (ane (by omega)) nin0) (ninS (ane (by omega)) nin0))
          have fx68 := ((((((((Zb6.keep Kcc1 (ninS (ane (by omega)) nin0)).keep Kpc1 (ninS (ane (by omega)) nin0)).keep Kcc2 (ninS (ane (by omega)) nin0)).keep Kpc2 (ninS (ane (by omega)) nin0)).keep Ks nin0).ext E61).ext E62).keep Kf (ninS (ane (by omega)) nin0))
          refine gVirtual W66 Ef (w_53 hw) (w_54 hw) (fun s hZ => notFace_of_selects (args := #[]) (mv hZ (w_56 hw))) (w_56 hw) (w_55 hw) (w_38 hw) (w_57 hw) (by decide) pd_21 (ct_enc hw hEL [] b61 sv ds b6 lb ks k6 kl zzs ccs fo po (usz c1 + usz c2 + sk) (List.replicate 16 0) [c1, c2] [c1, (hiC c2), (loC c2)] h66 Ef Ff fx67 ls hwd ecs (show 3 ≤ 1000 by decide) hall fx68 (by rfl) (by omega) (by omega) n0_b6 (ane (by omega)) (ane (by omega)) SLB VLB SCS hccs SFO rfo SAD SHI SLO) (fun x hx => by rcases List.mem_singleton.mp hx with rfl; exact List.mem_of_getElem? (i := 1) rfl) at_167 (pc' := 170) rfl rfl (argsL := [(.ref sv), (.ref b6), (.int (Int32.ofNat po))]) rfl rfl (rest := []) rfl (wt := 0) (Nat.le_of_eq rfl) (by decide) (by decide) (by decide) (by decide) ?_
          rintro v69 T69 h69 W69 z69 ⟨rfl, Ke, Ve⟩
          show Go p e below _ T69 (mkF m 170 #[.val (.int pa), .val (.int pb), .val (.int px), .val (.int pd), .val (.int c1), .val (.int c2), .val (.int nn), .val (.int (Int32.ofNat po)), .val (.int (Int32.ofNat sk)), .val (.ref b4), .val (.ref b5), .val (.ref b6), .val (.int (3 : Int32)), .val (.int (Int32.ofNat (usz c1 + usz c2))), .val (.ref sv), .val (.ref b61)] [])
          refine s_aload W69 at_170 rfl rfl (pc' := 172) rfl ?_
          refine s_aload W69 at_172 rfl rfl (pc' := 174) rfl ?_
          have fx70 := (((((Vpc2.keep Ks nin0).ext E61).ext E62).keep Kf (ninS (ane (by omega)) nin0)).keep Ke (ninS (ane (by omega)) nin0))
          refine gStatic W69 (w_75 hw) (w_76 hw) (w_2 hw) (w_77 hw) (by decide) pd_22 (ct_same hw hEL [] b6 b5 k6 k5 (wr1 (wr1 (List.replicate 16 (0 : Int32)) po c1) (po + (usz c1)) c2) (by simp only [wr1_len, List.length_replicate]) h69 Ve fx70) (by simp) at_174 (pc' := 177) rfl rfl (argsL := [(.ref b6), (.ref b5)]) rfl rfl (rest := []) rfl (wt := 0) (Nat.le_of_eq rfl) (by decide) (by decide) (by decide) (by decide) ?_
          rintro v71 T71 h71 W71 z71 ⟨rfl, rfl⟩
          show Go p e below _ T71 (mkF m 177 #[.val (.int pa), .val (.int pb), .val (.int px), .val (.int pd), .val (.int c1), .val (.int c2), .val (.int nn), .val (.int (Int32.ofNat po)), .val (.int (Int32.ofNat sk)), .val (.ref b4), .val (.ref b5), .val (.ref b6), .val (.int (3 : Int32)), .val (.int (Int32.ofNat (usz c1 + usz c2))), .val (.ref sv), .val (.ref b61)] [(.int (1 : Int32))])
          exact gRetN W71 hret (by simp) at_177 (by decide) (by decide) rfl
    · have hb_c1 : 65536 ≤ c1.toInt := by omega
      have fx72 := ((Vp4.ext E5).ext E6)
      refine gStatic W6 (w_78 hw) (w_79 hw) (w_2 hw) (w_80 hw) (by decide) pd_23 (ct_chB hw hEL [] b4 k4 c1 4 0 [(.int (0 : Int32)), (.int (0 : Int32)), (.int (0 : Int32)), (.int (0 : Int32))] h6 (show (4 : Int32).toInt = ((4 : Nat) : Int) by decide) fx72 n0_b4 hc1 hb_c1 (show 1 < 4 by decide)) (by simp) at_78 (pc' := 81) rfl rfl (argsL := [(.ref b4), (.int (0 : Int32)), (.int c1)]) rfl rfl (rest := []) rfl (wt := 0) (Nat.le_of_eq rfl) (by decide) (by decide) (by decide) (by decide) ?_
      rintro v73 T73 h73 W73 z73 ⟨rfl, Kcc1, Vcc1⟩
      replace Vcc1 : Arv Z h73 b4 k4 .char 4 [(.int (hiC c1)), (.int (loC c1)), (.int (0 : Int32)), (.int (0 : Int32))] (.int 0) := Vcc1
      show Go p e below _ T73 (mkF m 81 #[.val (.int pa), .val (.int pb), .val (.int px), .val (.int pd), .val (.int c1), .val (.int c2), .val (.int nn), .val (.int (Int32.ofNat po)), .val (.int (Int32.ofNat sk)), .val (.ref b4), .val (.ref b5), .val (.ref b6), .val (.int (0 : Int32)), .val (.int (0 : Int32)), .unset, .unset] [(.int (2 : Int32))])
      refine s_istore W73 at_81 (l' := #[.val (.int pa), .val (.int pb), .val (.int px), .val (.int pd), .val (.int c1), .val (.int c2), .val (.int nn), .val (.int (Int32.ofNat po)), .val (.int (Int32.ofNat sk)), .val (.ref b4), .val (.ref b5), .val (.ref b6), .val (.int (2 : Int32)), .val (.int (0 : Int32)), .unset, .unset]) rfl (pc' := 83) rfl ?_
      refine s_iload W73 at_83 rfl (pc' := 85) rfl ?_
      refine s_aload W73 at_85 rfl rfl (pc' := 87) rfl ?_
      refine s_iload W73 at_87 rfl (pc' := 89) rfl ?_
      refine s_iload W73 at_89 rfl (pc' := 91) rfl ?_
      refine s_iadd W73 at_91 (pc' := 92) rfl ?_
      refine s_iload W73 at_92 rfl (pc' := 94) rfl ?_
      rw [show ((Int32.ofNat po) + (0 : Int32)) = Int32.ofNat po from by rw [Int32.add_zero]]
      have fx74 := (Zb5.keep Kcc1 (ninS (ane (by omega)) nin0))
      refine gStatic W73 (w_82 hw) (w_83 hw) (w_2 hw) (w_84 hw) (by decide) pd_15 (ct_put hw hEL [] b5 k5 c1 po (List.replicate 16 (0 : Int32)) h73 fx74 (by simp only [wr1_len, List.length_replicate]) hc1 (by omega) n0_b5) (fun x hx => by rcases List.mem_singleton.mp hx with rfl; exact List.mem_of_getElem? (i := 1) rfl) at_94 (pc' := 97) rfl rfl (argsL := [(.ref b5), (.int (Int32.ofNat po)), (.int c1)]) rfl rfl (rest := [(.int (0 : Int32))]) rfl (wt := 1) (Nat.le_of_eq rfl) (by decide) (by decide) (by decide) (by decide) ?_
      rintro v75 T75 h75 W75 z75 ⟨rfl, Kpc1, Vpc1⟩
      show Go p e below _ T75 (mkF m 97 #[.val (.int pa), .val (.int pb), .val (.int px), .val (.int pd), .val (.int c1), .val (.int c2), .val (.int nn), .val (.int (Int32.ofNat po)), .val (.int (Int32.ofNat sk)), .val (.ref b4), .val (.ref b5), .val (.ref b6), .val (.int (2 : Int32)), .val (.int (0 : Int32)), .unset, .unset] [(.int (Int32.ofNat (usz c1))), (.int (0 : Int32))])
      refine s_iadd W75 at_97 (pc' := 98) rfl ?_
      rw [show ((0 : Int32) + (Int32.ofNat (usz c1))) = Int32.ofNat (usz c1) from Int32.zero_add _]
      show Go p e below _ T75 (mkF m 98 #[.val (.int pa), .val (.int pb), .val (.int px), .val (.int pd), .val (.int c1), .val (.int c2), .val (.int nn), .val (.int (Int32.ofNat po)), .val (.int (Int32.ofNat sk)), .val (.ref b4), .val (.ref b5), .val (.ref b6), .val (.int (2 : Int32)), .val (.int (0 : Int32)), .unset, .unset] [(.int (Int32.ofNat (usz c1)))])
      refine s_istore W75 at_98 (l' := #[.val (.int pa), .val (.int pb), .val (.int px), .val (.int pd), .val (.int c1), .val (.int c2), .val (.int nn), .val (.int (Int32.ofNat po)), .val (.int (Int32.ofNat sk)), .val (.ref b4), .val (.ref b5), .val (.ref b6), .val (.int (2 : Int32)), .val (.int (Int32.ofNat (usz c1))), .unset, .unset]) rfl (pc' := 100) rfl ?_
      refine s_iload W75 at_100 rfl (pc' := 102) rfl ?_
      refine s_iconst W75 at_102 (v := (2 : Int32)) (by decide) (pc' := 103) rfl ?_
      refine s_icmplt W75 at_103 (by decide) (pc1 := 134) (by decide) (pc2 := 106) rfl ?_ ?_
      · intro q103
        refine s_aload W75 at_134 rfl rfl (pc' := 136) rfl ?_
        refine s_iload W75 at_136 rfl (pc' := 138) rfl ?_
        have fx76 := (Vcc1.keep Kpc1 (ninS (ane (by omega)) nin0))
        refine gStatic W75 (w_13 hw) (w_14 hw) (w_2 hw) (w_15 hw) (by decide) pd_20 (ct_str2n hw hEL [] b4 k4 (hiC c1) (loC c1) (0 : Int32) (0 : Int32) ccs h75 fx76 (chs_wide hc1 _ (by rw [show chs c1 = _ from if_neg (by omega)]; simp)) (chs_wide hc1 _ (by rw [show chs c1 = _ from if_neg (by omega)]; simp)) SCS hccs SAD SHI SLO) (by simp) at_138 (pc' := 141) rfl rfl (argsL := [(.ref b4), (.int (2 : Int32))]) rfl rfl (rest := []) rfl (wt := 0) (Nat.le_of_eq rfl) (by decide) (by decide) (by decide) (by decide) ?_
        rintro v77 T77 h77 W77 z77 ⟨sv, ds, ks, zzs, rfl, Ks, gs, Ss, ls, gd⟩
        have lt_ds := natlt Ss.2.2.2.lt
        have gs_ := natle gs
        have gd_ := natle gd
        have lt_sv := natlt Ss.1.lt
        show Go p e below _ T77 (mkF m 141 #[.val (.int pa), .val (.int pb), .val (.int px), .val (.int pd), .val (.int c1), .val (.int c2), .val (.int nn), .val (.int (Int32.ofNat po)), .val (.int (Int32.ofNat sk)), .val (.ref b4), .val (.ref b5), .val (.ref b6), .val (.int (2 : Int32)), .val (.int (Int32.ofNat (usz c1))), .unset, .unset] [(.ref sv)])
        refine s_astore W77 at_141 rfl (l' := #[.val (.int pa), .val (.int pb), .val (.int px), .val (.int pd), .val (.int c1), .val (.int c2), .val (.int nn), .val (.int (Int32.ofNat po)), .val (.int (Int32.ofNat sk)), .val (.ref b4), .val (.ref b5), .val (.ref b6), .val (.int (2 : Int32)), .val (.int (Int32.ofNat (usz c1))), .val (.ref sv), .unset]) rfl (pc' := 143) rfl ?_
        refine gNew W77 (w_36 hw) (w_37 hw) (w_38 hw) at_143 (pc' := 146) rfl (by decide) (by decide) ?_
        intro T78 h78 b78 g78 W78 E78 ⟨A78, D78, U78⟩
        have z78 : h77.size ≤ h78.size := E78.1
        have lt_b78 := natlt A78.lt
        have gg78 := nateq g78
        have n0_b78 : n0 ≤ b78 := by have := W77.n0le; omega
        have F78_name : Fld Z h78 b78 "com/example/trim_rowkey/trimrowkey/Field" "name" "Ljava/lang/String;" .null := D78 (Or.inr (w_50 hw)) (ty := (.object "java/lang/String")) (by decide)
        have F78_width : Fld Z h78 b78 "com/example/trim_rowkey/trimrowkey/Field" "width" "I" (.int (0 : Int32)) := D78 (Or.inr (w_52 hw)) (ty := .int) (by decide)
        refine s_dup W78 at_146 rfl (pc' := 147) rfl ?_
        refine gLdcS W78 (w_39 hw) (wS hw) (List.mem_of_getElem? (i := 0) rfl) (vs := [(.int (102 : Int32))]) (z := (1 : Int32)) ⟨by decide +kernel, by decide +kernel⟩ (by decide) (by decide) at_147 (pc' := 149) rfl (nn := 4) (by decide) (by decide) (by decide) (by decide) ?_
        intro T79 h79 s79 d79 k79 W79 E79 A79 C79 F79 V79 N79
        have z79 : h78.size ≤ h79.size := E79.1
        have lt_s79 := natlt A79.lt
        have lt_d79 := natlt V79.lt
        refine s_iload W79 at_149 rfl (pc' := 151) rfl ?_
        refine s_iload W79 at_151 rfl (pc' := 153) rfl ?_
        refine s_iadd W79 at_153 (pc' := 154) rfl ?_
        rw [show ((Int32.ofNat (usz c1)) + (Int32.ofNat sk)) = Int32.ofNat (usz c1 + sk) from ofN_add (by omega)]
        have fx80 := (A78.ext E79)
        have fx81 := (F78_name.ext E79)
        have fx82 := (F78_width.ext E79)
        refine gSpecial W79 rfl (w_40 hw) (w_41 hw) (w_38 hw) (w_42 hw) (by decide) pd_17 (ct_sfinit hw hEL [] b78 s79 (Int32.ofNat (usz c1 + sk)) h79 fx80 fx81 fx82 n0_b78) (by simp) at_154 (pc' := 157) rfl rfl (argsL := [(.ref s79), (.int (Int32.ofNat (usz c1 + sk)))]) rfl rfl (rest := [(.ref b78)]) rfl (wt := 1) (Nat.le_of_eq rfl) (by decide) (by decide) (by decide) (by decide) ?_
        rintro v83 T83 h83 W83 z83 ⟨rfl, Kf, Ef, Ff⟩
        show Go p e below _ T83 (mkF m 157 #[.val (.int pa), .val (.int pb), .val (.int px), .val (.int pd), .val (.int c1), .val (.int c2), .val (.int nn), .val (.int (Int32.ofNat po)), .val (.int (Int32.ofNat sk)), .val (.ref b4), .val (.ref b5), .val (.ref b6), .val (.int (2 : Int32)), .val (.int (Int32.ofNat (usz c1))), .val (.ref sv), .unset] [(.ref b78)])
        refine s_astore W83 at_157 rfl (l' := #[.val (.int pa), .val (.int pb), .val (.int px), .val (.int pd), .val (.int c1), .val (.int c2), .val (.int nn), .val (.int (Int32.ofNat po)), .val (.int (Int32.ofNat sk)), .val (.ref b4), .val (.ref b5), .val (.ref b6), .val (.int (2 : Int32)), .val (.int (Int32.ofNat (usz c1))), .val (.ref sv), .val (.ref b78)]) rfl (pc' := 159) rfl ?_
        refine s_aload W83 at_159 rfl rfl (pc' := 161) rfl ?_
        refine s_aload W83 at_161 rfl rfl (pc' := 163) rfl ?_
        refine s_aload W83 at_163 rfl rfl (pc' := 165) rfl ?_
        refine s_iload W83 at_165 rfl (pc' := 167) rfl ?_
        have ecs : [(hiC c1), (loC c1)] = [c1].flatMap chs := (by first | (simp only [List.flatMap_cons, List.flatMap_nil, List.append_nil, show chs c1 = _ from if_neg (show ¬ c1.toInt < 65536 by omega)]; done) | (simp only [List.flatMap_cons, List.flatMap_nil, List.append_nil, show chs c1 = _ from if_neg (show ¬ c1.toInt < 65536 by omega)]; rfl))
        have hall : ∀ x ∈ [c1], VCP x := by intro x hx; simp only [List.mem_cons, List.not_mem_nil, or_false] at hx; rcases hx with rfl <;> assumption
        have hwd : ∀ x ∈ [(hiC c1), (loC c1)], 0 ≤ x.toInt ∧ x.toInt < 65536 := by rw [ecs]; intro x hx; obtain ⟨y, hy, hx⟩ := List.mem_flatMap.mp hx; exact chs_wide (hall y hy) x hx
        have eus : usum [c1] = usz c1 + 0 := rfl
        have fx84 := (((Ss.ext E78).ext E79).keep Kf (ninS (ane (by omega)) nin0) (ninS (ane (by omega)) nin0))
        have fx85 := ((((((Zb6.keep Kcc1 (ninS (ane (by omega)) nin0)).keep Kpc1 (ninS (ane (by omega)) nin0)).keep Ks nin0).ext E78).ext E79).keep Kf (ninS (ane (by omega)) nin0))
        refine gVirtual W83 Ef (w_53 hw) (w_54 hw) (fun s hZ => notFace_of_selects (args := #[]) (mv hZ (w_56 hw))) (w_56 hw) (w_55 hw) (w_38 hw) (w_57 hw) (by decide) pd_21 (ct_enc hw hEL [] b78 sv ds b6 lb ks k6 kl zzs ccs fo po (usz c1 + sk) (List.replicate 16 0) [c1] [(hiC c1), (loC c1)] h83 Ef Ff fx84 ls hwd ecs (show 2 ≤ 1000 by decide) hall fx85 (by rfl) (by omega) (by omega) n0_b6 (ane (by omega)) (ane (by omega)) SLB VLB SCS hccs SFO rfo SAD SHI SLO) (fun x hx => by rcases List.mem_singleton.mp hx with rfl; exact List.mem_of_getElem? (i := 1) rfl) at_167 (pc' := 170) rfl rfl (argsL := [(.ref sv), (.ref b6), (.int (Int32.ofNat po))]) rfl rfl (rest := []) rfl (wt := 0) (Nat.le_of_eq rfl) (by decide) (by decide) (by decide) (by decide) ?_
        rintro v86 T86 h86 W86 z86 ⟨rfl, Ke, Ve⟩
        show Go p e below _ T86 (mkF m 170 #[.val (.int pa), .val (.int pb), .val (.int px), .val (.int pd), .val (.int c1), .val (.int c2), .val (.int nn), .val (.int (Int32.ofNat po)), .val (.int (Int32.ofNat sk)), .val (.ref b4), .val (.ref b5), .val (.ref b6), .val (.int (2 : Int32)), .val (.int (Int32.ofNat (usz c1))), .val (.ref sv), .val (.ref b78)] [])
        refine s_aload W86 at_170 rfl rfl (pc' := 172) rfl ?_
        refine s_aload W86 at_172 rfl rfl (pc' := 174) rfl ?_
        have fx87 := (((((Vpc1.keep Ks nin0).ext E78).ext E79).keep Kf (ninS (ane (by omega)) nin0)).keep Ke (ninS (ane (by omega)) nin0))
        refine gStatic W86 (w_75 hw) (w_76 hw) (w_2 hw) (w_77 hw) (by decide) pd_22 (ct_same hw hEL [] b6 b5 k6 k5 (wr1 (List.replicate 16 (0 : Int32)) po c1) (by simp only [wr1_len, List.length_replicate]) h86 Ve fx87) (by simp) at_174 (pc' := 177) rfl rfl (argsL := [(.ref b6), (.ref b5)]) rfl rfl (rest := []) rfl (wt := 0) (Nat.le_of_eq rfl) (by decide) (by decide) (by decide) (by decide) ?_
        rintro v88 T88 h88 W88 z88 ⟨rfl, rfl⟩
        show Go p e below _ T88 (mkF m 177 #[.val (.int pa), .val (.int pb), .val (.int px), .val (.int pd), .val (.int c1), .val (.int c2), .val (.int nn), .val (.int (Int32.ofNat po)), .val (.int (Int32.ofNat sk)), .val (.ref b4), .val (.ref b5), .val (.ref b6), .val (.int (2 : Int32)), .val (.int (Int32.ofNat (usz c1))), .val (.ref sv), .val (.ref b78)] [(.int (1 : Int32))])
        exact gRetN W88 hret (by simp) at_177 (by decide) (by decide) rfl
      · intro q103
        refine s_aload W75 at_106 rfl rfl (pc' := 108) rfl ?_
        refine s_iload W75 at_108 rfl (pc' := 110) rfl ?_
        refine s_iload W75 at_110 rfl (pc' := 112) rfl ?_
        by_cases hqc2 : c2.toInt < 65536
        · have hb_c2 : c2.toInt < 65536 := hqc2
          have fx89 := (Vcc1.keep Kpc1 (ninS (ane (by omega)) nin0))
          refine gStatic W75 (w_78 hw) (w_79 hw) (w_2 hw) (w_80 hw) (by decide) pd_23 (ct_chS hw hEL [] b4 k4 c2 4 2 [(.int (hiC c1)), (.int (loC c1)), (.int (0 : Int32)), (.int (0 : Int32))] h75 (show (4 : Int32).toInt = ((4 : Nat) : Int) by decide) fx89 n0_b4 hc2 hb_c2 (show 2 < 4 by decide)) (by simp) at_112 (pc' := 115) rfl rfl (argsL := [(.ref b4), (.int (2 : Int32)), (.int c2)]) rfl rfl (rest := []) rfl (wt := 0) (Nat.le_of_eq rfl) (by decide) (by decide) (by decide) (by decide) ?_
          rintro v90 T90 h90 W90 z90 ⟨rfl, Kcc2, Vcc2⟩
          replace Vcc2 : Arv Z h90 b4 k4 .char 4 [(.int (hiC c1)), (.int (loC c1)), (.int c2), (.int (0 : Int32))] (.int 0) := Vcc2
          show Go p e below _ T90 (mkF m 115 #[.val (.int pa), .val (.int pb), .val (.int px), .val (.int pd), .val (.int c1), .val (.int c2), .val (.int nn), .val (.int (Int32.ofNat po)), .val (.int (Int32.ofNat sk)), .val (.ref b4), .val (.ref b5), .val (.ref b6), .val (.int (2 : Int32)), .val (.int (Int32.ofNat (usz c1))), .unset, .unset] [(.int (3 : Int32))])
          refine s_istore W90 at_115 (l' := #[.val (.int pa), .val (.int pb), .val (.int px), .val (.int pd), .val (.int c1), .val (.int c2), .val (.int nn), .val (.int (Int32.ofNat po)), .val (.int (Int32.ofNat sk)), .val (.ref b4), .val (.ref b5), .val (.ref b6), .val (.int (3 : Int32)), .val (.int (Int32.ofNat (usz c1))), .unset, .unset]) rfl (pc' := 117) rfl ?_
          refine s_iload W90 at_117 rfl (pc' := 119) rfl ?_
          refine s_aload W90 at_119 rfl rfl (pc' := 121) rfl ?_
          refine s_iload W90 at_121 rfl (pc' := 123) rfl ?_
          refine s_iload W90 at_123 rfl (pc' := 125) rfl ?_
          refine s_iadd W90 at_125 (pc' := 126) rfl ?_
          refine s_iload W90 at_126 rfl (pc' := 128) rfl ?_
          rw [show ((Int32.ofNat po) + (Int32.ofNat (usz c1))) = Int32.ofNat (po + (usz c1)) from ofN_add (by omega)]
          have fx91 := (Vpc1.keep Kcc2 (ninS (ane (by omega)) nin0))
          refine gStatic W90 (w_82 hw) (w_83 hw) (w_2 hw) (w_84 hw) (by decide) pd_15 (ct_put hw hEL [] b5 k5 c2 (po + (usz c1)) (wr1 (List.replicate 16 (0 : Int32)) po c1) h90 fx91 (by simp only [wr1_len, List.length_replicate]) hc2 (by omega) n0_b5) (fun x hx => by rcases List.mem_singleton.mp hx with rfl; exact List.mem_of_getElem? (i := 1) rfl) at_128 (pc' := 131) rfl rfl (argsL := [(.ref b5), (.int (Int32.ofNat (po + (usz c1)))), (.int c2)]) rfl rfl (rest := [(.int (Int32.ofNat (usz c1)))]) rfl (wt := 1) (Nat.le_of_eq rfl) (by decide) (by decide) (by decide) (by decide) ?_
          rintro v92 T92 h92 W92 z92 ⟨rfl, Kpc2, Vpc2⟩
          show Go p e below _ T92 (mkF m 131 #[.val (.int pa), .val (.int pb), .val (.int px), .val (.int pd), .val (.int c1), .val (.int c2), .val (.int nn), .val (.int (Int32.ofNat po)), .val (.int (Int32.ofNat sk)), .val (.ref b4), .val (.ref b5), .val (.ref b6), .val (.int (3 : Int32)), .val (.int (Int32.ofNat (usz c1))), .unset, .unset] [(.int (Int32.ofNat (usz c2))), (.int (Int32.ofNat (usz c1)))])
          refine s_iadd W92 at_131 (pc' := 132) rfl ?_
          rw [show ((Int32.ofNat (usz c1)) + (Int32.ofNat (usz c2))) = Int32.ofNat (usz c1 + usz c2) from ofN_add (by omega)]
          show Go p e below _ T92 (mkF m 132 #[.val (.int pa), .val (.int pb), .val (.int px), .val (.int pd), .val (.int c1), .val (.int c2), .val (.int nn), .val (.int (Int32.ofNat po)), .val (.int (Int32.ofNat sk)), .val (.ref b4), .val (.ref b5), .val (.ref b6), .val (.int (3 : Int32)), .val (.int (Int32.ofNat (usz c1))), .unset, .unset] [(.int (Int32.ofNat (usz c1 + usz c2)))])
          refine s_istore W92 at_132 (l' := #[.val (.int pa), .val (.int pb), .val (.int px), .val (.int pd), .val (.int c1), .val (.int c2), .val (.int nn), .val (.int (Int32.ofNat po)), .val (.int (Int32.ofNat sk)), .val (.ref b4), .val (.ref b5), .val (.ref b6), .val (.int (3 : Int32)), .val (.int (Int32.ofNat (usz c1 + usz c2))), .unset, .unset]) rfl (pc' := 134) rfl ?_
          refine s_aload W92 at_134 rfl rfl (pc' := 136) rfl ?_
          refine s_iload W92 at_136 rfl (pc' := 138) rfl ?_
          have fx93 := (Vcc2.keep Kpc2 (ninS (ane (by omega)) nin0))
          refine gStatic W92 (w_13 hw) (w_14 hw) (w_2 hw) (w_15 hw) (by decide) pd_20 (ct_str3n hw hEL [] b4 k4 (hiC c1) (loC c1) c2 (0 : Int32) ccs h92 fx93 (chs_wide hc1 _ (by rw [show chs c1 = _ from if_neg (by omega)]; simp)) (chs_wide hc1 _ (by rw [show chs c1 = _ from if_neg (by omega)]; simp)) (chs_wide hc2 _ (by rw [show chs c2 = _ from if_pos hb_c2]; simp)) SCS hccs SAD SHI SLO) (by simp) at_138 (pc' := 141) rfl rfl (argsL := [(.ref b4), (.int (3 : Int32))]) rfl rfl (rest := []) rfl (wt := 0) (Nat.le_of_eq rfl) (by decide) (by decide) (by decide) (by decide) ?_
          rintro v94 T94 h94 W94 z94 ⟨sv, ds, ks, zzs, rfl, Ks, gs, Ss, ls, gd⟩
          have lt_ds := natlt Ss.2.2.2.lt
          have gs_ := natle gs
          have gd_ := natle gd
          have lt_sv := natlt Ss.1.lt
          show Go p e below _ T94 (mkF m 141 #[.val (.int pa), .val (.int pb), .val (.int px), .val (.int pd), .val (.int c1), .val (.int c2), .val (.int nn), .val (.int (Int32.ofNat po)), .val (.int (Int32.ofNat sk)), .val (.ref b4), .val (.ref b5), .val (.ref b6), .val (.int (3 : Int32)), .val (.int (Int32.ofNat (usz c1 + usz c2))), .unset, .unset] [(.ref sv)])
          refine s_astore W94 at_141 rfl (l' := #[.val (.int pa), .val (.int pb), .val (.int px), .val (.int pd), .val (.int c1), .val (.int c2), .val (.int nn), .val (.int (Int32.ofNat po)), .val (.int (Int32.ofNat sk)), .val (.ref b4), .val (.ref b5), .val (.ref b6), .val (.int (3 : Int32)), .val (.int (Int32.ofNat (usz c1 + usz c2))), .val (.ref sv), .unset]) rfl (pc' := 143) rfl ?_
          refine gNew W94 (w_36 hw) (w_37 hw) (w_38 hw) at_143 (pc' := 146) rfl (by decide) (by decide) ?_
          intro T95 h95 b95 g95 W95 E95 ⟨A95, D95, U95⟩
          have z95 : h94.size ≤ h95.size := E95.1
          have lt_b95 := natlt A95.lt
          have gg95 := nateq g95
          have n0_b95 : n0 ≤ b95 := by have := W94.n0le; omega
          have F95_name : Fld Z h95 b95 "com/example/trim_rowkey/trimrowkey/Field" "name" "Ljava/lang/String;" .null := D95 (Or.inr (w_50 hw)) (ty := (.object "java/lang/String")) (by decide)
          have F95_width : Fld Z h95 b95 "com/example/trim_rowkey/trimrowkey/Field" "width" "I" (.int (0 : Int32)) := D95 (Or.inr (w_52 hw)) (ty := .int) (by decide)
          refine s_dup W95 at_146 rfl (pc' := 147) rfl ?_
          refine gLdcS W95 (w_39 hw) (wS hw) (List.mem_of_getElem? (i := 0) rfl) (vs := [(.int (102 : Int32))]) (z := (1 : Int32)) ⟨by decide +kernel, by decide +kernel⟩ (by decide) (by decide) at_147 (pc' := 149) rfl (nn := 4) (by decide) (by decide) (by decide) (by decide) ?_
          intro T96 h96 s96 d96 k96 W96 E96 A96 C96 F96 V96 N96
          have z96 : h95.size ≤ h96.size := E96.1
          have lt_s96 := natlt A96.lt
          have lt_d96 := natlt V96.lt
          refine s_iload W96 at_149 rfl (pc' := 151) rfl ?_
          refine s_iload W96 at_151 rfl (pc' := 153) rfl ?_
          refine s_iadd W96 at_153 (pc' := 154) rfl ?_
          rw [show ((Int32.ofNat (usz c1 + usz c2)) + (Int32.ofNat sk)) = Int32.ofNat (usz c1 + usz c2 + sk) from ofN_add (by omega)]
          have fx97 := (A95.ext E96)
          have fx98 := (F95_name.ext E96)
          have fx99 := (F95_width.ext E96)
          refine gSpecial W96 rfl (w_40 hw) (w_41 hw) (w_38 hw) (w_42 hw) (by decide) pd_17 (ct_sfinit hw hEL [] b95 s96 (Int32.ofNat (usz c1 + usz c2 + sk)) h96 fx97 fx98 fx99 n0_b95) (by simp) at_154 (pc' := 157) rfl rfl (argsL := [(.ref s96), (.int (Int32.ofNat (usz c1 + usz c2 + sk)))]) rfl rfl (rest := [(.ref b95)]) rfl (wt := 1) (Nat.le_of_eq rfl) (by decide) (by decide) (by decide) (by decide) ?_
          rintro v100 T100 h100 W100 z100 ⟨rfl, Kf, Ef, Ff⟩
          show Go p e below _ T100 (mkF m 157 #[.val (.int pa), .val (.int pb), .val (.int px), .val (.int pd), .val (.int c1), .val (.int c2), .val (.int nn), .val (.int (Int32.ofNat po)), .val (.int (Int32.ofNat sk)), .val (.ref b4), .val (.ref b5), .val (.ref b6), .val (.int (3 : Int32)), .val (.int (Int32.ofNat (usz c1 + usz c2))), .val (.ref sv), .unset] [(.ref b95)])
          refine s_astore W100 at_157 rfl (l' := #[.val (.int pa), .val (.int pb), .val (.int px), .val (.int pd), .val (.int c1), .val (.int c2), .val (.int nn), .val (.int (Int32.ofNat po)), .val (.int (Int32.ofNat sk)), .val (.ref b4), .val (.ref b5), .val (.ref b6), .val (.int (3 : Int32)), .val (.int (Int32.ofNat (usz c1 + usz c2))), .val (.ref sv), .val (.ref b95)]) rfl (pc' := 159) rfl ?_
          refine s_aload W100 at_159 rfl rfl (pc' := 161) rfl ?_
          refine s_aload W100 at_161 rfl rfl (pc' := 163) rfl ?_
          refine s_aload W100 at_163 rfl rfl (pc' := 165) rfl ?_
          refine s_iload W100 at_165 rfl (pc' := 167) rfl ?_
          have ecs : [(hiC c1), (loC c1), c2] = [c1, c2].flatMap chs := (by first | (simp only [List.flatMap_cons, List.flatMap_nil, List.append_nil, show chs c1 = _ from if_neg (show ¬ c1.toInt < 65536 by omega), show chs c2 = _ from if_pos hb_c2]; done) | (simp only [List.flatMap_cons, List.flatMap_nil, List.append_nil, show chs c1 = _ from if_neg (show ¬ c1.toInt < 65536 by omega), show chs c2 = _ from if_pos hb_c2]; rfl))
          have hall : ∀ x ∈ [c1, c2], VCP x := by intro x hx; simp only [List.mem_cons, List.not_mem_nil, or_false] at hx; rcases hx with rfl | rfl <;> assumption
          have hwd : ∀ x ∈ [(hiC c1), (loC c1), c2], 0 ≤ x.toInt ∧ x.toInt < 65536 := by rw [ecs]; intro x hx; obtain ⟨y, hy, hx⟩ := List.mem_flatMap.mp hx; exact chs_wide (hall y hy) x hx
          have eus : usum [c1, c2] = usz c1 + (usz c2 + 0) := rfl
          have fx101 := (((Ss.ext E95).ext E96).keep Kf (ninS (ane (by omega)) nin0) (ninS (ane (by omega)) nin0))
          have fx102 := ((((((((Zb6.keep Kcc1 (ninS (ane (by omega)) nin0)).keep Kpc1 (ninS (ane (by omega)) nin0)).keep Kcc2 (ninS (ane (by omega)) nin0)).keep Kpc2 (ninS (ane (by omega)) nin0)).keep Ks nin0).ext E95).ext E96).keep Kf (ninS (ane (by omega)) nin0))
          refine gVirtual W100 Ef (w_53 hw) (w_54 hw) (fun s hZ => notFace_of_selects (args := #[]) (mv hZ (w_56 hw))) (w_56 hw) (w_55 hw) (w_38 hw) (w_57 hw) (by decide) pd_21 (ct_enc hw hEL [] b95 sv ds b6 lb ks k6 kl zzs ccs fo po (usz c1 + usz c2 + sk) (List.replicate 16 0) [c1, c2] [(hiC c1), (loC c1), c2] h100 Ef Ff fx101 ls hwd ecs (show 3 ≤ 1000 by decide) hall fx102 (by rfl) (by omega) (by omega) n0_b6 (ane (by omega)) (ane (by omega)) SLB VLB SCS hccs SFO rfo SAD SHI SLO) (fun x hx => by rcases List.mem_singleton.mp hx with rfl; exact List.mem_of_getElem? (i := 1) rfl) at_167 (pc' := 170) rfl rfl (argsL := [(.ref sv), (.ref b6), (.int (Int32.ofNat po))]) rfl rfl (rest := []) rfl (wt := 0) (Nat.le_of_eq rfl) (by decide) (by decide) (by decide) (by decide) ?_
          rintro v103 T103 h103 W103 z103 ⟨rfl, Ke, Ve⟩
          show Go p e below _ T103 (mkF m 170 #[.val (.int pa), .val (.int pb), .val (.int px), .val (.int pd), .val (.int c1), .val (.int c2), .val (.int nn), .val (.int (Int32.ofNat po)), .val (.int (Int32.ofNat sk)), .val (.ref b4), .val (.ref b5), .val (.ref b6), .val (.int (3 : Int32)), .val (.int (Int32.ofNat (usz c1 + usz c2))), .val (.ref sv), .val (.ref b95)] [])
          refine s_aload W103 at_170 rfl rfl (pc' := 172) rfl ?_
          refine s_aload W103 at_172 rfl rfl (pc' := 174) rfl ?_
          have fx104 := (((((Vpc2.keep Ks nin0).ext E95).ext E96).keep Kf (ninS (ane (by omega)) nin0)).keep Ke (ninS (ane (by omega)) nin0))
          refine gStatic W103 (w_75 hw) (w_76 hw) (w_2 hw) (w_77 hw) (by decide) pd_22 (ct_same hw hEL [] b6 b5 k6 k5 (wr1 (wr1 (List.replicate 16 (0 : Int32)) po c1) (po + (usz c1)) c2) (by simp only [wr1_len, List.length_replicate]) h103 Ve fx104) (by simp) at_174 (pc' := 177) rfl rfl (argsL := [(.ref b6), (.ref b5)]) rfl rfl (rest := []) rfl (wt := 0) (Nat.le_of_eq rfl) (by decide) (by decide) (by decide) (by decide) ?_
          rintro v105 T105 h105 W105 z105 ⟨rfl, rfl⟩
          show Go p e below _ T105 (mkF m 177 #[.val (.int pa), .val (.int pb), .val (.int px), .val (.int pd), .val (.int c1), .val (.int c2), .val (.int nn), .val (.int (Int32.ofNat po)), .val (.int (Int32.ofNat sk)), .val (.ref b4), .val (.ref b5), .val (.ref b6), .val (.int (3 : Int32)), .val (.int (Int32.ofNat (usz c1 + usz c2))), .val (.ref sv), .val (.ref b95)] [(.int (1 : Int32))])
          exact gRetN W105 hret (by simp) at_177 (by decide) (by decide) rfl
        · have hb_c2 : 65536 ≤ c2.toInt := by omega
          have fx106 := (Vcc1.keep Kpc1 (ninS (ane (by omega)) nin0))
          refine gStatic W75 (w_78 hw) (w_79 hw) (w_2 hw) (w_80 hw) (by decide) pd_23 (ct_chB hw hEL [] b4 k4 c2 4 2 [(.int (hiC c1)), (.int (loC c1)), (.int (0 : Int32)), (.int (0 : Int32))] h75 (show (4 : Int32).toInt = ((4 : Nat) : Int) by decide) fx106 n0_b4 hc2 hb_c2 (show 3 < 4 by decide)) (by simp) at_112 (pc' := 115) rfl rfl (argsL := [(.ref b4), (.int (2 : Int32)), (.int c2)]) rfl rfl (rest := []) rfl (wt := 0) (Nat.le_of_eq rfl) (by decide) (by decide) (by decide) (by decide) ?_
          rintro v107 T107 h107 W107 z107 ⟨rfl, Kcc2, Vcc2⟩
          replace Vcc2 : Arv Z h107 b4 k4 .char 4 [(.int (hiC c1)), (.int (loC c1)), (.int (hiC c2)), (.int (loC c2))] (.int 0) := Vcc2
          show Go p e below _ T107 (mkF m 115 #[.val (.int pa), .val (.int pb), .val (.int px), .val (.int pd), .val (.int c1), .val (.int c2), .val (.int nn), .val (.int (Int32.ofNat po)), .val (.int (Int32.ofNat sk)), .val (.ref b4), .val (.ref b5), .val (.ref b6), .val (.int (2 : Int32)), .val (.int (Int32.ofNat (usz c1))), .unset, .unset] [(.int (4 : Int32))])
          refine s_istore W107 at_115 (l' := #[.val (.int pa), .val (.int pb), .val (.int px), .val (.int pd), .val (.int c1), .val (.int c2), .val (.int nn), .val (.int (Int32.ofNat po)), .val (.int (Int32.ofNat sk)), .val (.ref b4), .val (.ref b5), .val (.ref b6), .val (.int (4 : Int32)), .val (.int (Int32.ofNat (usz c1))), .unset, .unset]) rfl (pc' := 117) rfl ?_
          refine s_iload W107 at_117 rfl (pc' := 119) rfl ?_
          refine s_aload W107 at_119 rfl rfl (pc' := 121) rfl ?_
          refine s_iload W107 at_121 rfl (pc' := 123) rfl ?_
          refine s_iload W107 at_123 rfl (pc' := 125) rfl ?_
          refine s_iadd W107 at_125 (pc' := 126) rfl ?_
          refine s_iload W107 at_126 rfl (pc' := 128) rfl ?_
          rw [show ((Int32.ofNat po) + (Int32.ofNat (usz c1))) = Int32.ofNat (po + (usz c1)) from ofN_add (by omega)]
          have fx108 := (Vpc1.keep Kcc2 (ninS (ane (by omega)) nin0))
          refine gStatic W107 (w_82 hw) (w_83 hw) (w_2 hw) (w_84 hw) (by decide) pd_15 (ct_put hw hEL [] b5 k5 c2 (po + (usz c1)) (wr1 (List.replicate 16 (0 : Int32)) po c1) h107 fx108 (by simp only [wr1_len, List.length_replicate]) hc2 (by omega) n0_b5) (fun x hx => by rcases List.mem_singleton.mp hx with rfl; exact List.mem_of_getElem? (i := 1) rfl) at_128 (pc' := 131) rfl rfl (argsL := [(.ref b5), (.int (Int32.ofNat (po + (usz c1)))), (.int c2)]) rfl rfl (rest := [(.int (Int32.ofNat (usz c1)))]) rfl (wt := 1) (Nat.le_of_eq rfl) (by decide) (by decide) (by decide) (by decide) ?_
          rintro v109 T109 h109 W109 z109 ⟨rfl, Kpc2, Vpc2⟩
          show Go p e below _ T109 (mkF m 131 #[.val (.int pa), .val (.int pb), .val (.int px), .val (.int pd), .val (.int c1), .val (.int c2), .val (.int nn), .val (.int (Int32.ofNat po)), .val (.int (Int32.ofNat sk)), .val (.ref b4), .val (.ref b5), .val (.ref b6), .val (.int (4 : Int32)), .val (.int (Int32.ofNat (usz c1))), .unset, .unset] [(.int (Int32.ofNat (usz c2))), (.int (Int32.ofNat (usz c1)))])
          refine s_iadd W109 at_131 (pc' := 132) rfl ?_
          rw [show ((Int32.ofNat (usz c1)) + (Int32.ofNat (usz c2))) = Int32.ofNat (usz c1 + usz c2) from ofN_add (by omega)]
          show Go p e below _ T109 (mkF m 132 #[.val (.int pa), .val (.int pb), .val (.int px), .val (.int pd), .val (.int c1), .val (.int c2), .val (.int nn), .val (.int (Int32.ofNat po)), .val (.int (Int32.ofNat sk)), .val (.ref b4), .val (.ref b5), .val (.ref b6), .val (.int (4 : Int32)), .val (.int (Int32.ofNat (usz c1))), .unset, .unset] [(.int (Int32.ofNat (usz c1 + usz c2)))])
          refine s_istore W109 at_132 (l' := #[.val (.int pa), .val (.int pb), .val (.int px), .val (.int pd), .val (.int c1), .val (.int c2), .val (.int nn), .val (.int (Int32.ofNat po)), .val (.int (Int32.ofNat sk)), .val (.ref b4), .val (.ref b5), .val (.ref b6), .val (.int (4 : Int32)), .val (.int (Int32.ofNat (usz c1 + usz c2))), .unset, .unset]) rfl (pc' := 134) rfl ?_
          refine s_aload W109 at_134 rfl rfl (pc' := 136) rfl ?_
          refine s_iload W109 at_136 rfl (pc' := 138) rfl ?_
          have fx110 := (Vcc2.keep Kpc2 (ninS (ane (by omega)) nin0))
          refine gStatic W109 (w_13 hw) (w_14 hw) (w_2 hw) (w_15 hw) (by decide) pd_20 (ct_str4n hw hEL [] b4 k4 (hiC c1) (loC c1) (hiC c2) (loC c2) ccs h109 fx110 (chs_wide hc1 _ (by rw [show chs c1 = _ from if_neg (by omega)]; simp)) (chs_wide hc1 _ (by rw [show chs c1 = _ from if_neg (by omega)]; simp)) (chs_wide hc2 _ (by rw [show chs c2 = _ from if_neg (by omega)]; simp)) (chs_wide hc2 _ (by rw [show chs c2 = _ from if_neg (by omega)]; simp)) SCS hccs SAD SHI SLO) (by simp) at_138 (pc' := 141) rfl rfl (argsL := [(.ref b4), (.int (4 : Int32))]) rfl rfl (rest := []) rfl (wt := 0) (Nat.le_of_eq rfl) (by decide) (by decide) (by decide) (by decide) ?_
          rintro v111 T111 h111 W111 z111 ⟨sv, ds, ks, zzs, rfl, Ks, gs, Ss, ls, gd⟩
          have lt_ds := natlt Ss.2.2.2.lt
          have gs_ := natle gs
          have gd_ := natle gd
          have lt_sv := natlt Ss.1.lt
          show Go p e below _ T111 (mkF m 141 #[.val (.int pa), .val (.int pb), .val (.int px), .val (.int pd), .val (.int c1), .val (.int c2), .val (.int nn), .val (.int (Int32.ofNat po)), .val (.int (Int32.ofNat sk)), .val (.ref b4), .val (.ref b5), .val (.ref b6), .val (.int (4 : Int32)), .val (.int (Int32.ofNat (usz c1 + usz c2))), .unset, .unset] [(.ref sv)])
          refine s_astore W111 at_141 rfl (l' := #[.val (.int pa), .val (.int pb), .val (.int px), .val (.int pd), .val (.int c1), .val (.int c2), .val (.int nn), .val (.int (Int32.ofNat po)), .val (.int (Int32.ofNat sk)), .val (.ref b4), .val (.ref b5), .val (.ref b6), .val (.int (4 : Int32)), .val (.int (Int32.ofNat (usz c1 + usz c2))), .val (.ref sv), .unset]) rfl (pc' := 143) rfl ?_
          refine gNew W111 (w_36 hw) (w_37 hw) (w_38 hw) at_143 (pc' := 146) rfl (by decide) (by decide) ?_
          intro T112 h112 b112 g112 W112 E112 ⟨A112, D112, U112⟩
          have z112 : h111.size ≤ h112.size := E112.1
          have lt_b112 := natlt A112.lt
          have gg112 := nateq g112
          have n0_b112 : n0 ≤ b112 := by have := W111.n0le; omega
          have F112_name : Fld Z h112 b112 "com/example/trim_rowkey/trimrowkey/Field" "name" "Ljava/lang/String;" .null := D112 (Or.inr (w_50 hw)) (ty := (.object "java/lang/String")) (by decide)
          have F112_width : Fld Z h112 b112 "com/example/trim_rowkey/trimrowkey/Field" "width" "I" (.int (0 : Int32)) := D112 (Or.inr (w_52 hw)) (ty := .int) (by decide)
          refine s_dup W112 at_146 rfl (pc' := 147) rfl ?_
          refine gLdcS W112 (w_39 hw) (wS hw) (List.mem_of_getElem? (i := 0) rfl) (vs := [(.int (102 : Int32))]) (z := (1 : Int32)) ⟨by decide +kernel, by decide +kernel⟩ (by decide) (by decide) at_147 (pc' := 149) rfl (nn := 4) (by decide) (by decide) (by decide) (by decide) ?_
          intro T113 h113 s113 d113 k113 W113 E113 A113 C113 F113 V113 N113
          have z113 : h112.size ≤ h113.size := E113.1
          have lt_s113 := natlt A113.lt
          have lt_d113 := natlt V113.lt
          refine s_iload W113 at_149 rfl (pc' := 151) rfl ?_
          refine s_iload W113 at_151 rfl (pc' := 153) rfl ?_
          refine s_iadd W113 at_153 (pc' := 154) rfl ?_
          rw [show ((Int32.ofNat (usz c1 + usz c2)) + (Int32.ofNat sk)) = Int32.ofNat (usz c1 + usz c2 + sk) from ofN_add (by omega)]
          have fx114 := (A112.ext E113)
          have fx115 := (F112_name.ext E113)
          have fx116 := (F112_width.ext E113)
          refine gSpecial W113 rfl (w_40 hw) (w_41 hw) (w_38 hw) (w_42 hw) (by decide) pd_17 (ct_sfinit hw hEL [] b112 s113 (Int32.ofNat (usz c1 + usz c2 + sk)) h113 fx114 fx115 fx116 n0_b112) (by simp) at_154 (pc' := 157) rfl rfl (argsL := [(.ref s113), (.int (Int32.ofNat (usz c1 + usz c2 + sk)))]) rfl rfl (rest := [(.ref b112)]) rfl (wt := 1) (Nat.le_of_eq rfl) (by decide) (by decide) (by decide) (by decide) ?_
          rintro v117 T117 h117 W117 z117 ⟨rfl, Kf, Ef, Ff⟩
          show Go p e below _ T117 (mkF m 157 #[.val (.int pa), .val (.int pb), .val (.int px), .val (.int pd), .val (.int c1), .val (.int c2), .val (.int nn), .val (.int (Int32.ofNat po)), .val (.int (Int32.ofNat sk)), .val (.ref b4), .val (.ref b5), .val (.ref b6), .val (.int (4 : Int32)), .val (.int (Int32.ofNat (usz c1 + usz c2))), .val (.ref sv), .unset] [(.ref b112)])
          refine s_astore W117 at_157 rfl (l' := #[.val (.int pa), .val (.int pb), .val (.int px), .val (.int pd), .val (.int c1), .val (.int c2), .val (.int nn), .val (.int (Int32.ofNat po)), .val (.int (Int32.ofNat sk)), .val (.ref b4), .val (.ref b5), .val (.ref b6), .val (.int (4 : Int32)), .val (.int (Int32.ofNat (usz c1 + usz c2))), .val (.ref sv), .val (.ref b112)]) rfl (pc' := 159) rfl ?_
          refine s_aload W117 at_159 rfl rfl (pc' := 161) rfl ?_
          refine s_aload W117 at_161 rfl rfl (pc' := 163) rfl ?_
          refine s_aload W117 at_163 rfl rfl (pc' := 165) rfl ?_
          refine s_iload W117 at_165 rfl (pc' := 167) rfl ?_
          have ecs : [(hiC c1), (loC c1), (hiC c2), (loC c2)] = [c1, c2].flatMap chs := (by first | (simp only [List.flatMap_cons, List.flatMap_nil, List.append_nil, show chs c1 = _ from if_neg (show ¬ c1.toInt < 65536 by omega), show chs c2 = _ from if_neg (show ¬ c2.toInt < 65536 by omega)]; done) | (simp only [List.flatMap_cons, List.flatMap_nil, List.append_nil, show chs c1 = _ from if_neg (show ¬ c1.toInt < 65536 by omega), show chs c2 = _ from if_neg (show ¬ c2.toInt < 65536 by omega)]; rfl))
          have hall : ∀ x ∈ [c1, c2], VCP x := by intro x hx; simp only [List.mem_cons, List.not_mem_nil, or_false] at hx; rcases hx with rfl | rfl <;> assumption
          have hwd : ∀ x ∈ [(hiC c1), (loC c1), (hiC c2), (loC c2)], 0 ≤ x.toInt ∧ x.toInt < 65536 := by rw [ecs]; intro x hx; obtain ⟨y, hy, hx⟩ := List.mem_flatMap.mp hx; exact chs_wide (hall y hy) x hx
          have eus : usum [c1, c2] = usz c1 + (usz c2 + 0) := rfl
          have fx118 := (((Ss.ext E112).ext E113).keep Kf (ninS (ane (by omega)) nin0) (ninS (ane (by omega)) nin0))
          have fx119 := ((((((((Zb6.keep Kcc1 (ninS (ane (by omega)) nin0)).keep Kpc1 (ninS (ane (by omega)) nin0)).keep Kcc2 (ninS (ane (by omega)) nin0)).keep Kpc2 (ninS (ane (by omega)) nin0)).keep Ks nin0).ext E112).ext E113).keep Kf (ninS (ane (by omega)) nin0))
          refine gVirtual W117 Ef (w_53 hw) (w_54 hw) (fun s hZ => notFace_of_selects (args := #[]) (mv hZ (w_56 hw))) (w_56 hw) (w_55 hw) (w_38 hw) (w_57 hw) (by decide) pd_21 (ct_enc hw hEL [] b112 sv ds b6 lb ks k6 kl zzs ccs fo po (usz c1 + usz c2 + sk) (List.replicate 16 0) [c1, c2] [(hiC c1), (loC c1), (hiC c2), (loC c2)] h117 Ef Ff fx118 ls hwd ecs (show 4 ≤ 1000 by decide) hall fx119 (by rfl) (by omega) (by omega) n0_b6 (ane (by omega)) (ane (by omega)) SLB VLB SCS hccs SFO rfo SAD SHI SLO) (fun x hx => by rcases List.mem_singleton.mp hx with rfl; exact List.mem_of_getElem? (i := 1) rfl) at_167 (pc' := 170) rfl rfl (argsL := [(.ref sv), (.ref b6), (.int (Int32.ofNat po))]) rfl rfl (rest := []) rfl (wt := 0) (Nat.le_of_eq rfl) (by decide) (by decide) (by decide) (by decide) ?_
          rintro v120 T120 h120 W120 z120 ⟨rfl, Ke, Ve⟩
          show Go p e below _ T120 (mkF m 170 #[.val (.int pa), .val (.int pb), .val (.int px), .val (.int pd), .val (.int c1), .val (.int c2), .val (.int nn), .val (.int (Int32.ofNat po)), .val (.int (Int32.ofNat sk)), .val (.ref b4), .val (.ref b5), .val (.ref b6), .val (.int (4 : Int32)), .val (.int (Int32.ofNat (usz c1 + usz c2))), .val (.ref sv), .val (.ref b112)] [])
          refine s_aload W120 at_170 rfl rfl (pc' := 172) rfl ?_
          refine s_aload W120 at_172 rfl rfl (pc' := 174) rfl ?_
          have fx121 := (((((Vpc2.keep Ks nin0).ext E112).ext E113).keep Kf (ninS (ane (by omega)) nin0)).keep Ke (ninS (ane (by omega)) nin0))
          refine gStatic W120 (w_75 hw) (w_76 hw) (w_2 hw) (w_77 hw) (by decide) pd_22 (ct_same hw hEL [] b6 b5 k6 k5 (wr1 (wr1 (List.replicate 16 (0 : Int32)) po c1) (po + (usz c1)) c2) (by simp only [wr1_len, List.length_replicate]) h120 Ve fx121) (by simp) at_174 (pc' := 177) rfl rfl (argsL := [(.ref b6), (.ref b5)]) rfl rfl (rest := []) rfl (wt := 0) (Nat.le_of_eq rfl) (by decide) (by decide) (by decide) (by decide) ?_
          rintro v122 T122 h122 W122 z122 ⟨rfl, rfl⟩
          show Go p e below _ T122 (mkF m 177 #[.val (.int pa), .val (.int pb), .val (.int px), .val (.int pd), .val (.int c1), .val (.int c2), .val (.int nn), .val (.int (Int32.ofNat po)), .val (.int (Int32.ofNat sk)), .val (.ref b4), .val (.ref b5), .val (.ref b6), .val (.int (4 : Int32)), .val (.int (Int32.ofNat (usz c1 + usz c2))), .val (.ref sv), .val (.ref b112)] [(.int (1 : Int32))])
          exact gRetN W122 hret (by simp) at_177 (by decide) (by decide) rfl
set_option maxRecDepth 65536 in
set_option maxHeartbeats 40000000 in
theorem comes_1 {Post : Tables → Env → Array Value → State → Outcome → State → Prop} (hpost : ∀ tb e args s v u, (limb_1_1.after args s (.returned v) u = true ∧ limb_1_2.after args s (.returned v) u = true ∧ True) → Jvm.D.FramedW s (.returned v) u (Jvm.fieldLocs frame_1_writes args s ++ Jvm.arrayLocs frame_1_arrays args s ++ Jvm.staticLocs frame_1_statics s) 32 2240 → Post tb e args s (.returned v) u) :
    ArmFor flags0 classFile x code maxLocals ret World_1 tables_1 room_1 Calls_1 rest_1 Pre_1 Post := by
  intro l hfl _ _ p e ha hc hk s m args below hf hA hF happ hP
  obtain ⟨hcalls, hrest, hpre⟩ := hP
  obtain ⟨-, -, -, hnamed, -, -, -, hat⟩ := (Spec.applies_iff hf).mp happ
  obtain ⟨hg, hn⟩ := and_e (Cond.before_iff.mp (show (Jvm.Cond.and given_1 narrow_1).before args s = true from hpre))
  obtain ⟨h1, g0⟩ := and_e hg
  obtain ⟨a0, g1⟩ := and_e g0
  obtain ⟨a1, g2⟩ := and_e g1
  obtain ⟨a2, g3⟩ := and_e g2
  have a3 := g3
  obtain ⟨u0, u1, u2, u3, rfl⟩ : ∃ u0 u1 u2 u3 : Value, args = #[u0, u1, u2, u3] := by
    have hs : args.size = 4 := by simpa [Cond.value, given_1] using h1
    obtain ⟨L⟩ := args
    match L, hs with
    | [u0, u1, u2, u3], _ => exact ⟨u0, u1, u2, u3, rfl⟩
  have hw := fun d (hd : d ∈ tables_1) => atoms_spec (ws := Jvm.Cond.code x code maxLocals ret :: tables_1) hat d (List.mem_cons_of_mem _ hd)
  obtain ⟨hsets, hown0⟩ := atoms_of _ (rest_1_c_eq ▸ (show rest_1_c.before _ s = true from hrest))
  have hfit : Fit s := fun {y c} hc i hi => by
    obtain ⟨ha, rfl⟩ := Array.getElem?_eq_some_iff.mp hc
    have q := List.all_eq_true.mp ((Array.all_eq_true_iff_forall_mem.mp hF) _ (Array.getElem_mem ha)) i (List.mem_range.mpr hi)
    simpa [Array.getElem?_eq_getElem hi] using q
  obtain ⟨pa, e_pa⟩ := is_v a0
  obtain rfl : u0 = (.int pa) := Option.some.inj e_pa
  obtain ⟨pb, e_pb⟩ := is_v a1
  obtain rfl : u1 = (.int pb) := Option.some.inj e_pb
  obtain ⟨px, e_px⟩ := is_v a2
  obtain rfl : u2 = (.int px) := Option.some.inj e_px
  obtain ⟨pd, e_pd⟩ := is_v a3
  obtain rfl : u3 = (.int pd) := Option.some.inj e_pd
  have ncs := not_v (Cond.before_iff.mp (hsets _ (List.mem_of_getElem? (i := 2) rfl)))
  obtain ⟨ccs, ecs⟩ := is_v (Cond.before_iff.mp (hsets _ (List.mem_of_getElem? (i := 1) rfl)))
  have SCS : Sta s s.heap "java/lang/String" "COMPACT_STRINGS" "Z" (.int ccs) := Sta.start ecs (Or.inl (hsets _ (List.mem_of_getElem? (i := 0) rfl)))
  have hccs : ¬ (ccs = (0 : Int32)) := gotF (Cond.eq_ints ecs (Term.int_eval (0))) ncs
  obtain ⟨fo, efo, rfo⟩ := isR_v (Cond.before_iff.mp (hsets _ (List.mem_of_getElem? (i := 8) rfl)))
  have SFO := Sta.start efo (Or.inl (hsets _ (List.mem_of_getElem? (i := 7) rfl)))
  have vSAD := Cond.before_iff.mp (hsets _ (List.mem_of_getElem? (i := 12) rfl))
  obtain ⟨xSAD, ySAD, eSAD, fSAD, -, kSAD⟩ := cmp_v (Or.inl vSAD)
  obtain rfl : ySAD = .int 1 := Option.some.inj (fSAD.symm.trans (Term.int_eval (1)))
  obtain ⟨zSAD, rfl⟩ := kSAD
  obtain rfl : zSAD = 1 := gotT (Cond.eq_ints eSAD (Term.int_eval (1))) vSAD
  have SAD : Sta s s.heap "java/lang/StringUTF16" "$assertionsDisabled" "Z" (.int 1) := Sta.start eSAD (Or.inl (hsets _ (List.mem_of_getElem? (i := 11) rfl)))
  have vSHI := Cond.before_iff.mp (hsets _ (List.mem_of_getElem? (i := 15) rfl))
  obtain ⟨xSHI, ySHI, eSHI, fSHI, -, kSHI⟩ := cmp_v (Or.inl vSHI)
  obtain rfl : ySHI = .int 0 := Option.some.inj (fSHI.symm.trans (Term.int_eval (0)))
  obtain ⟨zSHI, rfl⟩ := kSHI
  obtain rfl : zSHI = 0 := gotT (Cond.eq_ints eSHI (Term.int_eval (0))) vSHI
  have SHI : Sta s s.heap "java/lang/StringUTF16" "HI_BYTE_SHIFT" "I" (.int 0) := Sta.start eSHI (Or.inl (hsets _ (List.mem_of_getElem? (i := 14) rfl)))
  have vSLO := Cond.before_iff.mp (hsets _ (List.mem_of_getElem? (i := 18) rfl))
  obtain ⟨xSLO, ySLO, eSLO, fSLO, -, kSLO⟩ := cmp_v (Or.inl vSLO)
  obtain rfl : ySLO = .int 8 := Option.some.inj (fSLO.symm.trans (Term.int_eval (8)))
  obtain ⟨zSLO, rfl⟩ := kSLO
  obtain rfl : zSLO = 8 := gotT (Cond.eq_ints eSLO (Term.int_eval (8))) vSLO
  have SLO : Sta s s.heap "java/lang/StringUTF16" "LO_BYTE_SHIFT" "I" (.int 8) := Sta.start eSLO (Or.inl (hsets _ (List.mem_of_getElem? (i := 17) rfl)))
  obtain ⟨hm1, hm⟩ := and_e hn
  obtain ⟨hm2, hm⟩ := and_e hm
  obtain ⟨he0, hm⟩ := and_e hm
  obtain ⟨he1, hm⟩ := and_e hm
  obtain ⟨he2, hm⟩ := and_e hm
  obtain ⟨he3, he4⟩ := and_e hm
  obtain ⟨lb, elb⟩ := arr_v hm1
  obtain ⟨cLB, ALB⟩ := Arr.start elb hm1
  have aLB := Arr.fin (Vm.Alike.refl _) ALB
  have eln := eqI_v hm2
  obtain ⟨_, cL2, t1, t2, t3⟩ := Term.length_spec eln
  cases elb.symm.trans t1
  cases aLB.symm.trans t2
  have VLB : Arv s s.heap lb cLB.cls .int 5 [.int 0, .int 0, .int 192, .int 224, .int 240] (.int 0) := Arv.start hfit ALB (len_lt eln elb aLB) (Value.int.inj t3).symm (by decide) (by decide) ⟨(elem_in (eqI_v he0) elb (Term.int_eval 0) ALB.1).2, (elem_in (eqI_v he1) elb (Term.int_eval 1) ALB.1).2, (elem_in (eqI_v he2) elb (Term.int_eval 2) ALB.1).2, (elem_in (eqI_v he3) elb (Term.int_eval 3) ALB.1).2, (elem_in (eqI_v he4) elb (Term.int_eval 4) ALB.1).2, trivial⟩
  have SLB := Sta.start elb (Or.inr ⟨(w_38 hw), (w_118 hw)⟩)
  have hEL : EW s #[(.int pa), (.int pb), (.int px), (.int pd)] EL0 := (EW.cons (w_39 hw) (by decide +kernel) (EW.cons (w_29 hw) (by decide +kernel) EW.nil))
  have hCH : CHv s EL0 s.vm s.heap := CHv.start hEL (fun p hp => hcalls.1 p hp) (hsets _ (List.mem_of_getElem? (i := 2) rfl)) (w_12 hw) (w_17 hw)
  obtain ⟨n, o, h1, h2, h3, v, L, rfl, hQ, N, hC, hwd, hOl, hq⟩ := ct_law (l := l) (n0 := s.heap.size) hw hEL tables_1 pa pb px pd ccs fo lb cLB.cls s.heap SCS hccs SFO rfo SAD SHI SLO SLB VLB p e ha hc hk s m _ below hf ((Spec.applies_iff_loose hf).mp happ).1 ⟨rfl, State.Warmed39.refl s, rfl, hCH, Old.start s, fun x hx => by cases hx⟩ (fun q => by cases q)
  obtain rfl : v = some (.int 1) := hQ
  refine ⟨n, _, h1, h2, h3, hpost _ _ _ _ _ _ ⟨Cond.after_iff.mpr rfl, Cond.after_iff.mpr (eq_i res_at (Term.int_eval (1)) rfl), trivial⟩ ⟨hq.1, hq.2.1, hq.2.2.1, (hq.2.2.2.sift fun y hy => Or.inr (N y hy)).mono (by decide) (by decide)⟩⟩
theorem main_1_1 : Claimed_1_1 := comes_1 fun _ _ _ _ _ _ h hF => ⟨h.1, hF⟩
theorem main_1_2 : Claimed_1_2 := comes_1 fun _ _ _ _ _ _ h hF => ⟨h.2.1, hF⟩
end Jvm.Pilot.@@N@@
namespace Jvm.Pilot.@@N@@
open Jvm Jvm.ClassFile Sem Op Lib Jvm.Free Jvm.Stand Jvm.Pilot.@@N@@.Jvm.D
/-! MADE BY PROGRAM (witnessworld.py) out of the Statement's table words and the real class files: 23 classes; the members and pool entries that the words name. The judged class is class 1, her method 1. -/
namespace start1
open Jvm.ClassFile
def u (s : String) : CpInfo := .utf8 (stringToUtf16 s)
/-- a pool by its gaps: so many unusable entries, then the entry; so many at the end -/
def gap : Nat → List CpInfo → List CpInfo
  | 0, r => r
  | n + 1, r => .unusable :: gap n r
def poolList (es : List (Nat × CpInfo)) (last : Nat) : List CpInfo := es.foldr (fun e r => gap e.1 (e.2 :: r)) (gap last [])
def pool (es : List (Nat × CpInfo)) (last : Nat) : Array CpInfo := ⟨poolList es last⟩
def fileOf (pool : Array CpInfo) (this : Nat) (attrs : Array Attribute := #[]) (ms : Array MethodInfo := #[]) (fl : Nat := 33) (sup : Nat := 0) (ifs : Array Nat := #[]) (fds : Array FieldInfo := #[]) : ClassFile where
  minorVersion := 0
  majorVersion := 65
  constantPool := pool
  accessFlags := fl
  thisClass := this
  superClass := sup
  interfaces := ifs
  fields := fds
  methods := ms
  attributes := attrs
def plain (name : String) (sup : Option ClassId) : Class where
  name := name
  kind := .ordinary
  loader := none
  accessFlags := 33
  super := sup
  interfaces := #[]
  cf := none
  fields := #[]
  methods := #[]
  instanceTypes := #[]
  staticTypes := #[]
  resolved := #[]
  callSites := []
  init := .initialized
  statics := none
  mirror := none

def pool0 : Array CpInfo := pool [(5, u "<init>"), (0, u "()V"), (1, .class_ 10), (1, u "java/lang/Object")] 113

def k0c0 : Code := { maxStack := 0, maxLocals := 1, code := object_method_1_code, exceptionTable := #[], attributes := #[] }
def k0m0 : Method := { name := "<init>", desc := "()V", sig := { parameters := [], returnType := none }, accessFlags := 1, code := some k0c0 }
/-- java/lang/Object -/
def k0 : Class := { plain "java/lang/Object" none with
  accessFlags := 33
  interfaces := #[]
  cf := some (fileOf pool0 8 #[] #[{ accessFlags := 1, nameIndex := 5, descriptorIndex := 6, attributes := #[] }] 33 0 #[] #[])
  fields := #[]
  methods := #[k0m0]
  instanceTypes := #[]
  staticTypes := #[]
  resolved := Array.replicate 124 none
  statics := none }

def pool1 : Array CpInfo := pool [(2, .class_ 4), (1, u "java/lang/Object"), (0, u "<init>"), (0, u "()V"), (0, .methodref 8 9), (0, .class_ 10), (0, .nameAndType 11 12), (0, u "com/example/trim_rowkey/trimrowkey/StringFieldEncodePinLaw"), (0, u "pick"), (0, u "(II)I"), (0, .methodref 14 15), (0, .class_ 16), (0, .nameAndType 17 12), (0, u "java/lang/Math"), (0, u "min"), (0, .methodref 8 19), (0, .nameAndType 20 21), (0, u "chars"), (0, u "([CII)I"), (0, .methodref 8 23), (0, .nameAndType 24 25), (0, u "put"), (0, u "([BII)I"), (0, .methodref 8 27), (0, .nameAndType 28 29), (0, u "str"), (0, u "([CI)Ljava/lang/String;"), (0, .class_ 31), (0, u "com/example/trim_rowkey/trimrowkey/StringField"), (0, .string 33), (0, u "f"), (0, .methodref 30 35), (0, .nameAndType 5 36), (0, u "(Ljava/lang/String;I)V"), (0, .methodref 30 38), (0, .nameAndType 39 40), (0, u "encode"), (0, u "(Ljava/lang/String;[BI)V"), (0, .methodref 8 42), (0, .nameAndType 43 44), (0, u "same"), (0, u "([B[B)Z"), (0, .integer 2147483647), (0, .integer 61440), (0, .integer 55296), (0, .integer 65536), (0, .integer 1048576), (0, .integer 56320), (0, .class_ 52), (0, u "java/lang/String"), (0, .methodref 51 54), (0, .nameAndType 5 55), (0, u "([C)V"), (2, u "law"), (0, u "(IIII)Z")] 7

def k1m0 : Method := { name := "<init>", desc := "()V", sig := { parameters := [], returnType := none }, accessFlags := 2, code := none }
def k1c1 : Code := { maxStack := 5, maxLocals := 16, code := code, exceptionTable := #[], attributes := #[] }
def k1m1 : Method := { name := "law", desc := "(IIII)Z", sig := { parameters := [.int, .int, .int, .int], returnType := some .boolean }, accessFlags := 9, code := some k1c1 }
def k1c2 : Code := { maxStack := 3, maxLocals := 4, code := method_3_code, exceptionTable := #[], attributes := #[] }
def k1m2 : Method := { name := "pick", desc := "(II)I", sig := { parameters := [.int, .int], returnType := some .int }, accessFlags := 10, code := some k1c2 }
def k1c3 : Code := { maxStack := 5, maxLocals := 4, code := method_4_code, exceptionTable := #[], attributes := #[] }
def k1m3 : Method := { name := "chars", desc := "([CII)I", sig := { parameters := [(.array .char), .int, .int], returnType := some .int }, accessFlags := 10, code := some k1c3 }
def k1c4 : Code := { maxStack := 5, maxLocals := 3, code := method_5_code, exceptionTable := #[], attributes := #[] }
def k1m4 : Method := { name := "put", desc := "([BII)I", sig := { parameters := [(.array .byte), .int, .int], returnType := some .int }, accessFlags := 10, code := some k1c4 }
def k1c5 : Code := { maxStack := 7, maxLocals := 2, code := method_6_code, exceptionTable := #[], attributes := #[] }
def k1m5 : Method := { name := "str", desc := "([CI)Ljava/lang/String;", sig := { parameters := [(.array .char), .int], returnType := some (.object "java/lang/String") }, accessFlags := 10, code := some k1c5 }
def k1c6 : Code := { maxStack := 3, maxLocals := 2, code := method_7_code, exceptionTable := #[], attributes := #[] }
def k1m6 : Method := { name := "same", desc := "([B[B)Z", sig := { parameters := [(.array .byte), (.array .byte)], returnType := some .boolean }, accessFlags := 10, code := some k1c6 }
/-- com/example/trim_rowkey/trimrowkey/StringFieldEncodePinLaw -/
def k1 : Class := { plain "com/example/trim_rowkey/trimrowkey/StringFieldEncodePinLaw" (some 0) with
  accessFlags := 49
  interfaces := #[]
  cf := some (fileOf pool1 8 #[] #[{ accessFlags := 2, nameIndex := 5, descriptorIndex := 6, attributes := #[] }, { accessFlags := 9, nameIndex := 58, descriptorIndex := 59, attributes := #[] }, { accessFlags := 10, nameIndex := 11, descriptorIndex := 12, attributes := #[] }, { accessFlags := 10, nameIndex := 20, descriptorIndex := 21, attributes := #[] }, { accessFlags := 10, nameIndex := 24, descriptorIndex := 25, attributes := #[] }, { accessFlags := 10, nameIndex := 28, descriptorIndex := 29, attributes := #[] }, { accessFlags := 10, nameIndex := 43, descriptorIndex := 44, attributes := #[] }] 49 2 #[] #[])
  fields := #[]
  methods := #[k1m0, k1m1, k1m2, k1m3, k1m4, k1m5, k1m6]
  instanceTypes := #[]
  staticTypes := #[]
  resolved := Array.replicate 67 none
  statics := none }

def pool2 : Array CpInfo := pool [(1, .class_ 2), (0, u "java/lang/Math"), (1, .class_ 6), (1, u "java/lang/Object"), (0, u "<init>"), (0, u "()V"), (89, .class_ 100), (1, u "java/lang/Math$RandomNumberGeneratorHolder"), (71, u "negativeZeroFloatBits"), (0, u "J"), (2, u "negativeZeroDoubleBits"), (24, u "min"), (43, u "$assertionsDisabled"), (0, u "Z"), (88, u "(II)I"), (2, u "twoToTheDoubleScaleDown"), (0, u "D"), (4, u "twoToTheDoubleScaleUp"), (9, u "E"), (3, u "PI"), (2, u "TAU"), (2, u "DEGREES_TO_RADIANS"), (0, u "RADIANS_TO_DEGREES")] 94

def k2m0 : Method := { name := "<init>", desc := "()V", sig := { parameters := [], returnType := none }, accessFlags := 2, code := none }
def k2c1 : Code := { maxStack := 2, maxLocals := 2, code := jdk_29_method_69_code, exceptionTable := #[], attributes := #[] }
def k2m1 : Method := { name := "min", desc := "(II)I", sig := { parameters := [.int, .int], returnType := some .int }, accessFlags := 9, code := some k2c1 }
/-- java/lang/Math -/
def k2 : Class := { plain "java/lang/Math" (some 0) with
  accessFlags := 49
  interfaces := #[]
  cf := some (fileOf pool2 1 #[.nestMembers #[98]] #[{ accessFlags := 2, nameIndex := 7, descriptorIndex := 8, attributes := #[] }, { accessFlags := 9, nameIndex := 201, descriptorIndex := 335, attributes := #[] }] 49 4 #[] #[{ accessFlags := 25, nameIndex := 354, descriptorIndex := 339, attributes := #[] }, { accessFlags := 25, nameIndex := 358, descriptorIndex := 339, attributes := #[] }, { accessFlags := 25, nameIndex := 361, descriptorIndex := 339, attributes := #[] }, { accessFlags := 26, nameIndex := 364, descriptorIndex := 339, attributes := #[] }, { accessFlags := 26, nameIndex := 365, descriptorIndex := 339, attributes := #[] }, { accessFlags := 26, nameIndex := 172, descriptorIndex := 173, attributes := #[] }, { accessFlags := 26, nameIndex := 176, descriptorIndex := 173, attributes := #[] }, { accessFlags := 8, nameIndex := 344, descriptorIndex := 339, attributes := #[] }, { accessFlags := 8, nameIndex := 338, descriptorIndex := 339, attributes := #[] }, { accessFlags := 4120, nameIndex := 245, descriptorIndex := 246, attributes := #[] }])
  fields := #[{ name := "E", type := .double, accessFlags := 25, slot := 0, constantValue := 0 }, { name := "PI", type := .double, accessFlags := 25, slot := 1, constantValue := 0 }, { name := "TAU", type := .double, accessFlags := 25, slot := 2, constantValue := 0 }, { name := "DEGREES_TO_RADIANS", type := .double, accessFlags := 26, slot := 3, constantValue := 0 }, { name := "RADIANS_TO_DEGREES", type := .double, accessFlags := 26, slot := 4, constantValue := 0 }, { name := "negativeZeroFloatBits", type := .long, accessFlags := 26, slot := 5, constantValue := 0 }, { name := "negativeZeroDoubleBits", type := .long, accessFlags := 26, slot := 6, constantValue := 0 }, { name := "twoToTheDoubleScaleUp", type := .double, accessFlags := 8, slot := 7, constantValue := 0 }, { name := "twoToTheDoubleScaleDown", type := .double, accessFlags := 8, slot := 8, constantValue := 0 }, { name := "$assertionsDisabled", type := .boolean, accessFlags := 4120, slot := 9, constantValue := 0 }]
  methods := #[k2m0, k2m1]
  instanceTypes := #[]
  staticTypes := #[.double, .double, .double, .double, .double, .long, .long, .double, .double, .boolean]
  resolved := Array.replicate 460 none
  statics := none }

def pool3 : Array CpInfo := pool [(1, .class_ 2), (0, u "java/io/Serializable"), (0, .class_ 4), (0, u "java/lang/Object")] 2

/-- java/io/Serializable -/
def k3 : Class := { plain "java/io/Serializable" (some 0) with
  accessFlags := 1537
  interfaces := #[]
  cf := some (fileOf pool3 1 #[] #[] 1537 3 #[] #[])
  fields := #[]
  methods := #[]
  instanceTypes := #[]
  staticTypes := #[]
  resolved := Array.replicate 7 none
  statics := none }

def pool4 : Array CpInfo := pool [(1, .class_ 2), (0, u "java/lang/Comparable"), (0, .class_ 4), (0, u "java/lang/Object")] 7

/-- java/lang/Comparable -/
def k4 : Class := { plain "java/lang/Comparable" (some 0) with
  accessFlags := 1537
  interfaces := #[]
  cf := some (fileOf pool4 1 #[] #[] 1537 3 #[] #[])
  fields := #[]
  methods := #[]
  instanceTypes := #[]
  staticTypes := #[]
  resolved := Array.replicate 12 none
  statics := none }

def pool5 : Array CpInfo := pool [(2, .class_ 4), (1, u "java/lang/CharSequence"), (42, .class_ 48), (0, u "java/lang/CharSequence$1CodePointIterator"), (10, .class_ 60), (0, u "java/lang/CharSequence$1CharIterator"), (5, .class_ 67), (0, u "java/lang/Object")] 63

/-- java/lang/CharSequence -/
def k5 : Class := { plain "java/lang/CharSequence" (some 0) with
  accessFlags := 1537
  interfaces := #[]
  cf := some (fileOf pool5 2 #[.nestMembers #[47, 59]] #[] 1537 66 #[] #[])
  fields := #[]
  methods := #[]
  instanceTypes := #[]
  staticTypes := #[]
  resolved := Array.replicate 131 none
  statics := none }

def pool6 : Array CpInfo := pool [(1, .class_ 2), (0, u "java/lang/constant/Constable"), (0, .class_ 4), (0, u "java/lang/Object")] 6

/-- java/lang/constant/Constable -/
def k6 : Class := { plain "java/lang/constant/Constable" (some 0) with
  accessFlags := 1537
  interfaces := #[]
  cf := some (fileOf pool6 1 #[] #[] 1537 3 #[] #[])
  fields := #[]
  methods := #[]
  instanceTypes := #[]
  staticTypes := #[]
  resolved := Array.replicate 11 none
  statics := none }

def pool7 : Array CpInfo := pool [(1, .class_ 2), (0, u "java/lang/constant/ConstantDesc"), (0, .class_ 4), (0, u "java/lang/Object")] 32

/-- java/lang/constant/ConstantDesc -/
def k7 : Class := { plain "java/lang/constant/ConstantDesc" (some 0) with
  accessFlags := 1537
  interfaces := #[]
  cf := some (fileOf pool7 1 #[] #[] 1537 3 #[] #[])
  fields := #[]
  methods := #[]
  instanceTypes := #[]
  staticTypes := #[]
  resolved := Array.replicate 37 none
  statics := none }

def pool8 : Array CpInfo := pool [(1, .methodref 2 3), (0, .class_ 4), (0, .nameAndType 5 6), (0, u "java/lang/Object"), (0, u "<init>"), (0, u "()V"), (0, .string 8), (0, u ""), (0, .fieldref 10 11), (0, .class_ 12), (0, .nameAndType 13 14), (0, u "java/lang/String"), (0, u "value"), (0, u "[B"), (0, .fieldref 10 16), (0, .nameAndType 17 18), (0, u "coder"), (0, u "B"), (2, u "hash"), (0, u "I"), (2, u "hashIsZero"), (0, u "Z"), (0, .methodref 10 28), (0, .nameAndType 5 29), (0, u "([CIILjava/lang/Void;)V"), (8, .fieldref 10 39), (0, .nameAndType 40 26), (0, u "COMPACT_STRINGS"), (1, .class_ 44), (1, u "java/lang/StringUTF16"), (0, u "compress"), (1, .methodref 42 48), (0, .nameAndType 49 50), (0, u "coderFromArrayLen"), (0, u "([BI)B"), (46, u "([BII)I"), (44, u "()Z"), (34, .methodref 42 178), (0, .nameAndType 45 179), (0, u "([CII)[B"), (154, u "()I"), (0, .methodref 10 336), (0, .nameAndType 17 337), (0, u "()B"), (53, u "(II)V"), (100, .methodref 10 493), (0, .nameAndType 494 142), (0, u "isLatin1"), (4, .methodref 10 500), (0, .nameAndType 501 391), (0, u "checkIndex"), (0, .methodref 42 503), (0, .nameAndType 504 97), (0, u "codePointAt"), (2, u "length"), (67, .class_ 576), (0, u "java/lang/CharSequence"), (22, u "CASE_INSENSITIVE_ORDER"), (0, u "Ljava/util/Comparator;"), (164, u "(I)I"), (244, u "([C)V"), (42, .fieldref 1054 1055), (0, .class_ 1056), (0, .nameAndType 1057 1058), (0, u "jdk/internal/util/Preconditions"), (0, u "SIOOBE_FORMATTER"), (0, u "Ljava/util/function/BiFunction;"), (0, .methodref 1054 1060), (0, .nameAndType 501 1061), (0, u "(IILjava/util/function/BiFunction;)I"), (39, u "serialPersistentFields"), (0, u "[Ljava/io/ObjectStreamField;"), (0, .class_ 1104), (0, u "java/lang/String$CaseInsensitiveComparator"), (1, .class_ 1107), (0, u "java/io/Serializable"), (0, .class_ 1109), (0, u "java/lang/Comparable"), (0, .class_ 1111), (0, u "java/lang/constant/Constable"), (0, .class_ 1113), (0, u "java/lang/constant/ConstantDesc"), (2, u "serialVersionUID"), (0, u "J"), (3, u "REPL"), (0, u "C"), (2, u "LATIN1"), (1, u "UTF16")] 323

def k8m0 : Method := { name := "<init>", desc := "()V", sig := { parameters := [], returnType := none }, accessFlags := 1, code := none }
def k8c1 : Code := { maxStack := 5, maxLocals := 2, code := jdk_42_method_3_code, exceptionTable := #[], attributes := #[] }
def k8m1 : Method := { name := "<init>", desc := "([C)V", sig := { parameters := [(.array .char)], returnType := none }, accessFlags := 1, code := some k8c1 }
def k8c2 : Code := { maxStack := 2, maxLocals := 1, code := jdk_42_method_54_code, exceptionTable := #[], attributes := #[] }
def k8m2 : Method := { name := "length", desc := "()I", sig := { parameters := [], returnType := some .int }, accessFlags := 1, code := some k8c2 }
def k8c3 : Code := { maxStack := 3, maxLocals := 3, code := jdk_42_method_57_code, exceptionTable := #[], attributes := #[] }
def k8m3 : Method := { name := "codePointAt", desc := "(I)I", sig := { parameters := [.int], returnType := some .int }, accessFlags := 1, code := some k8c3 }
def k8c4 : Code := { maxStack := 4, maxLocals := 6, code := jdk_42_method_149_code, exceptionTable := #[], attributes := #[] }
def k8m4 : Method := { name := "<init>", desc := "([CIILjava/lang/Void;)V", sig := { parameters := [(.array .char), .int, .int, (.object "java/lang/Void")], returnType := none }, accessFlags := 2, code := some k8c4 }
def k8c5 : Code := { maxStack := 1, maxLocals := 1, code := jdk_42_method_152_code, exceptionTable := #[], attributes := #[] }
def k8m5 : Method := { name := "coder", desc := "()B", sig := { parameters := [], returnType := some .byte }, accessFlags := 0, code := some k8c5 }
def k8c6 : Code := { maxStack := 1, maxLocals := 1, code := jdk_42_method_154_code, exceptionTable := #[], attributes := #[] }
def k8m6 : Method := { name := "isLatin1", desc := "()Z", sig := { parameters := [], returnType := some .boolean }, accessFlags := 0, code := some k8c6 }
def k8c7 : Code := { maxStack := 3, maxLocals := 2, code := jdk_42_method_155_code, exceptionTable := #[], attributes := #[] }
def k8m7 : Method := { name := "checkIndex", desc := "(II)V", sig := { parameters := [.int, .int], returnType := none }, accessFlags := 8, code := some k8c7 }
/-- java/lang/String -/
def k8 : Class := { plain "java/lang/String" (some 0) with
  accessFlags := 49
  interfaces := #[3, 4, 5, 6, 7]
  cf := some (fileOf pool8 10 #[.nestMembers #[1103]] #[{ accessFlags := 1, nameIndex := 5, descriptorIndex := 6, attributes := #[] }, { accessFlags := 1, nameIndex := 5, descriptorIndex := 1010, attributes := #[] }, { accessFlags := 1, nameIndex := 507, descriptorIndex := 334, attributes := #[] }, { accessFlags := 1, nameIndex := 504, descriptorIndex := 765, attributes := #[] }, { accessFlags := 2, nameIndex := 5, descriptorIndex := 29, attributes := #[] }, { accessFlags := 0, nameIndex := 17, descriptorIndex := 337, attributes := #[] }, { accessFlags := 0, nameIndex := 494, descriptorIndex := 142, attributes := #[] }, { accessFlags := 8, nameIndex := 501, descriptorIndex := 391, attributes := #[] }] 49 2 #[1106, 1108, 575, 1110, 1112] #[{ accessFlags := 18, nameIndex := 13, descriptorIndex := 14, attributes := #[] }, { accessFlags := 18, nameIndex := 17, descriptorIndex := 18, attributes := #[] }, { accessFlags := 2, nameIndex := 21, descriptorIndex := 22, attributes := #[] }, { accessFlags := 2, nameIndex := 25, descriptorIndex := 26, attributes := #[] }, { accessFlags := 26, nameIndex := 1116, descriptorIndex := 1117, attributes := #[] }, { accessFlags := 24, nameIndex := 40, descriptorIndex := 26, attributes := #[] }, { accessFlags := 26, nameIndex := 1101, descriptorIndex := 1102, attributes := #[] }, { accessFlags := 26, nameIndex := 1121, descriptorIndex := 1122, attributes := #[] }, { accessFlags := 25, nameIndex := 599, descriptorIndex := 600, attributes := #[] }, { accessFlags := 24, nameIndex := 1125, descriptorIndex := 18, attributes := #[] }, { accessFlags := 24, nameIndex := 1127, descriptorIndex := 18, attributes := #[] }])
  fields := #[{ name := "value", type := (.array .byte), accessFlags := 18, slot := 0, constantValue := 0 }, { name := "coder", type := .byte, accessFlags := 18, slot := 1, constantValue := 0 }, { name := "hash", type := .int, accessFlags := 2, slot := 2, constantValue := 0 }, { name := "hashIsZero", type := .boolean, accessFlags := 2, slot := 3, constantValue := 0 }, { name := "serialVersionUID", type := .long, accessFlags := 26, slot := 0, constantValue := 0 }, { name := "COMPACT_STRINGS", type := .boolean, accessFlags := 24, slot := 1, constantValue := 0 }, { name := "serialPersistentFields", type := (.array (.object "java/io/ObjectStreamField")), accessFlags := 26, slot := 2, constantValue := 0 }, { name := "REPL", type := .char, accessFlags := 26, slot := 3, constantValue := 0 }, { name := "CASE_INSENSITIVE_ORDER", type := (.object "java/util/Comparator"), accessFlags := 25, slot := 4, constantValue := 0 }, { name := "LATIN1", type := .byte, accessFlags := 24, slot := 5, constantValue := 0 }, { name := "UTF16", type := .byte, accessFlags := 24, slot := 6, constantValue := 0 }]
  methods := #[k8m0, k8m1, k8m2, k8m3, k8m4, k8m5, k8m6, k8m7]
  instanceTypes := #[(.array .byte), .byte, .int, .boolean]
  staticTypes := #[.long, .boolean, (.array (.object "java/io/ObjectStreamField")), .char, (.object "java/util/Comparator"), .byte, .byte]
  resolved := Array.replicate 1451 none
  statics := some 0 }

def pool9 : Array CpInfo := pool [(1, .methodref 2 3), (0, .class_ 4), (0, .nameAndType 5 6), (0, u "java/lang/Object"), (0, u "<init>"), (0, u "()V"), (0, .fieldref 8 9), (0, .class_ 10), (0, .nameAndType 11 12), (0, u "com/example/trim_rowkey/trimrowkey/Field"), (0, u "name"), (0, u "Ljava/lang/String;"), (0, .fieldref 8 14), (0, .nameAndType 15 16), (0, u "width"), (0, u "I"), (13, u "SHORTS"), (0, u "Ljava/lang/invoke/VarHandle;"), (10, u "INTS"), (7, u "LONGS"), (58, u "(Ljava/lang/String;I)V"), (3, u "()I")] 27

def k9c0 : Code := { maxStack := 2, maxLocals := 3, code := prog_3_method_1_code, exceptionTable := #[], attributes := #[] }
def k9m0 : Method := { name := "<init>", desc := "(Ljava/lang/String;I)V", sig := { parameters := [(.object "java/lang/String"), .int], returnType := none }, accessFlags := 0, code := some k9c0 }
def k9c1 : Code := { maxStack := 1, maxLocals := 1, code := prog_3_method_3_code, exceptionTable := #[], attributes := #[] }
def k9m1 : Method := { name := "width", desc := "()I", sig := { parameters := [], returnType := some .int }, accessFlags := 0, code := some k9c1 }
/-- com/example/trim_rowkey/trimrowkey/Field -/
def k9 : Class := { plain "com/example/trim_rowkey/trimrowkey/Field" (some 0) with
  accessFlags := 1056
  interfaces := #[]
  cf := some (fileOf pool9 8 #[] #[{ accessFlags := 0, nameIndex := 5, descriptorIndex := 109, attributes := #[] }, { accessFlags := 0, nameIndex := 15, descriptorIndex := 113, attributes := #[] }] 1056 2 #[] #[{ accessFlags := 26, nameIndex := 30, descriptorIndex := 31, attributes := #[] }, { accessFlags := 26, nameIndex := 42, descriptorIndex := 31, attributes := #[] }, { accessFlags := 26, nameIndex := 50, descriptorIndex := 31, attributes := #[] }, { accessFlags := 18, nameIndex := 11, descriptorIndex := 12, attributes := #[] }, { accessFlags := 18, nameIndex := 15, descriptorIndex := 16, attributes := #[] }])
  fields := #[{ name := "SHORTS", type := (.object "java/lang/invoke/VarHandle"), accessFlags := 26, slot := 0, constantValue := 0 }, { name := "INTS", type := (.object "java/lang/invoke/VarHandle"), accessFlags := 26, slot := 1, constantValue := 0 }, { name := "LONGS", type := (.object "java/lang/invoke/VarHandle"), accessFlags := 26, slot := 2, constantValue := 0 }, { name := "name", type := (.object "java/lang/String"), accessFlags := 18, slot := 0, constantValue := 0 }, { name := "width", type := .int, accessFlags := 18, slot := 1, constantValue := 0 }]
  methods := #[k9m0, k9m1]
  instanceTypes := #[(.object "java/lang/String"), .int]
  staticTypes := #[(.object "java/lang/invoke/VarHandle"), (.object "java/lang/invoke/VarHandle"), (.object "java/lang/invoke/VarHandle")]
  resolved := Array.replicate 141 none
  statics := none }

def pool10 : Array CpInfo := pool [(1, .methodref 2 3), (0, .class_ 4), (0, .nameAndType 5 6), (0, u "com/example/trim_rowkey/trimrowkey/Field"), (0, u "<init>"), (0, u "(Ljava/lang/String;I)V"), (0, .methodref 8 9), (0, .class_ 10), (0, .nameAndType 11 12), (0, u "com/example/trim_rowkey/trimrowkey/StringField"), (0, u "width"), (0, u "()I"), (0, .methodref 14 15), (0, .class_ 16), (0, .nameAndType 17 12), (0, u "java/lang/String"), (0, u "length"), (0, .methodref 14 19), (0, .nameAndType 20 21), (0, u "codePointAt"), (0, u "(I)I"), (0, .methodref 8 23), (0, .nameAndType 24 21), (0, u "utf8Size"), (6, .class_ 32), (0, u "java/lang/Character"), (0, .integer 55296), (0, .integer 57343), (28, .fieldref 8 64), (0, .nameAndType 65 66), (0, u "LEAD_BYTE"), (0, u "[I"), (0, .methodref 31 68), (0, .nameAndType 69 21), (0, u "charCount"), (56, .integer 65536), (2, u "encode"), (0, u "(Ljava/lang/String;[BI)V")] 25

def k10c0 : Code := { maxStack := 3, maxLocals := 3, code := prog_9_method_1_code, exceptionTable := #[], attributes := #[] }
def k10m0 : Method := { name := "<init>", desc := "(Ljava/lang/String;I)V", sig := { parameters := [(.object "java/lang/String"), .int], returnType := none }, accessFlags := 0, code := some k10c0 }
def k10c1 : Code := { maxStack := 6, maxLocals := 11, code := prog_9_method_2_code, exceptionTable := #[], attributes := #[] }
def k10m1 : Method := { name := "encode", desc := "(Ljava/lang/String;[BI)V", sig := { parameters := [(.object "java/lang/String"), (.array .byte), .int], returnType := none }, accessFlags := 0, code := some k10c1 }
def k10c2 : Code := { maxStack := 2, maxLocals := 2, code := prog_9_method_4_code, exceptionTable := #[], attributes := #[] }
def k10m2 : Method := { name := "utf8Size", desc := "(I)I", sig := { parameters := [.int], returnType := some .int }, accessFlags := 10, code := some k10c2 }
/-- com/example/trim_rowkey/trimrowkey/StringField -/
def k10 : Class := { plain "com/example/trim_rowkey/trimrowkey/StringField" (some 9) with
  accessFlags := 32
  interfaces := #[]
  cf := some (fileOf pool10 8 #[] #[{ accessFlags := 0, nameIndex := 5, descriptorIndex := 6, attributes := #[] }, { accessFlags := 0, nameIndex := 129, descriptorIndex := 130, attributes := #[] }, { accessFlags := 10, nameIndex := 24, descriptorIndex := 21, attributes := #[] }] 32 2 #[] #[{ accessFlags := 26, nameIndex := 65, descriptorIndex := 66, attributes := #[] }])
  fields := #[{ name := "LEAD_BYTE", type := (.array .int), accessFlags := 26, slot := 0, constantValue := 0 }]
  methods := #[k10m0, k10m1, k10m2]
  instanceTypes := #[(.object "java/lang/String"), .int]
  staticTypes := #[(.array .int)]
  resolved := Array.replicate 156 none
  statics := some 1 }

def pool11 : Array CpInfo := pool [(6, .class_ 8), (1, u "java/lang/Object"), (0, u "<init>"), (0, u "()V"), (0, .methodref 12 13), (0, .class_ 14), (0, .nameAndType 15 16), (0, u "java/lang/StringUTF16"), (0, u "newBytesLength"), (0, u "(I)I"), (3, .integer 1073741823), (23, .fieldref 12 45), (0, .nameAndType 46 47), (0, u "$assertionsDisabled"), (0, u "Z"), (11, .fieldref 12 60), (0, .nameAndType 61 62), (0, u "HI_BYTE_SHIFT"), (0, u "I"), (0, .fieldref 12 64), (0, .nameAndType 65 62), (0, u "LO_BYTE_SHIFT"), (5, .methodref 12 72), (0, .nameAndType 73 74), (0, u "getChar"), (0, u "([BI)C"), (0, .methodref 76 77), (0, .class_ 78), (0, .nameAndType 79 80), (0, u "java/lang/Character"), (0, u "isHighSurrogate"), (0, u "(C)Z"), (0, .methodref 76 82), (0, .nameAndType 83 80), (0, u "isLowSurrogate"), (0, .methodref 76 85), (0, .nameAndType 86 87), (0, u "toCodePoint"), (0, u "(CC)I"), (0, .methodref 12 89), (0, .nameAndType 90 91), (0, u "codePointAt"), (0, u "([BIIZ)I"), (15, .methodref 12 108), (0, .nameAndType 109 110), (0, u "newBytesFor"), (0, u "(I)[B"), (0, .methodref 12 112), (0, .nameAndType 113 114), (0, u "putChar"), (0, u "([BII)V"), (0, .methodref 12 116), (0, .nameAndType 117 118), (0, u "compress"), (0, u "([CI[BII)I"), (0, .methodref 12 120), (0, .nameAndType 121 122), (0, u "toBytes"), (0, u "([CII)[B"), (127, u "([BII)I"), (10, u "coderFromArrayLen"), (0, u "([BI)B"), (106, .class_ 371), (1, u "java/lang/StringUTF16$LinesSpliterator"), (58, u "MAX_LENGTH"), (196, .class_ 628), (0, u "java/lang/StringUTF16$CodePointsSpliterator"), (0, .class_ 630), (0, u "java/lang/StringUTF16$CharsSpliterator")] 4

def k11m0 : Method := { name := "<init>", desc := "()V", sig := { parameters := [], returnType := none }, accessFlags := 0, code := none }
def k11c1 : Code := { maxStack := 1, maxLocals := 1, code := jdk_52_method_2_code, exceptionTable := #[], attributes := #[] }
def k11m1 : Method := { name := "newBytesFor", desc := "(I)[B", sig := { parameters := [.int], returnType := some (.array .byte) }, accessFlags := 9, code := some k11c1 }
def k11c2 : Code := { maxStack := 4, maxLocals := 1, code := jdk_52_method_3_code, exceptionTable := #[], attributes := #[] }
def k11m2 : Method := { name := "newBytesLength", desc := "(I)I", sig := { parameters := [.int], returnType := some .int }, accessFlags := 9, code := some k11c2 }
def k11c3 : Code := { maxStack := 4, maxLocals := 3, code := jdk_52_method_4_code, exceptionTable := #[], attributes := #[] }
def k11m3 : Method := { name := "putChar", desc := "([BII)V", sig := { parameters := [(.array .byte), .int, .int], returnType := none }, accessFlags := 8, code := some k11c3 }
def k11c4 : Code := { maxStack := 3, maxLocals := 2, code := jdk_52_method_5_code, exceptionTable := #[], attributes := #[] }
def k11m4 : Method := { name := "getChar", desc := "([BI)C", sig := { parameters := [(.array .byte), .int], returnType := some .char }, accessFlags := 8, code := some k11c4 }
def k11c5 : Code := { maxStack := 2, maxLocals := 6, code := jdk_52_method_7_code, exceptionTable := #[], attributes := #[] }
def k11m5 : Method := { name := "codePointAt", desc := "([BIIZ)I", sig := { parameters := [(.array .byte), .int, .int, .boolean], returnType := some .int }, accessFlags := 10, code := some k11c5 }
def k11c6 : Code := { maxStack := 4, maxLocals := 3, code := jdk_52_method_8_code, exceptionTable := #[], attributes := #[] }
def k11m6 : Method := { name := "codePointAt", desc := "([BII)I", sig := { parameters := [(.array .byte), .int, .int], returnType := some .int }, accessFlags := 9, code := some k11c6 }
def k11c7 : Code := { maxStack := 4, maxLocals := 5, code := jdk_52_method_14_code, exceptionTable := #[], attributes := #[] }
def k11m7 : Method := { name := "toBytes", desc := "([CII)[B", sig := { parameters := [(.array .char), .int, .int], returnType := some (.array .byte) }, accessFlags := 9, code := some k11c7 }
def k11c8 : Code := { maxStack := 2, maxLocals := 2, code := jdk_52_method_15_code, exceptionTable := #[], attributes := #[] }
def k11m8 : Method := { name := "coderFromArrayLen", desc := "([BI)B", sig := { parameters := [(.array .byte), .int], returnType := some .byte }, accessFlags := 8, code := some k11c8 }
def k11c9 : Code := { maxStack := 5, maxLocals := 6, code := jdk_52_method_16_code, exceptionTable := #[], attributes := #[] }
def k11m9 : Method := { name := "compress", desc := "([CII)[B", sig := { parameters := [(.array .char), .int, .int], returnType := some (.array .byte) }, accessFlags := 9, code := some k11c9 }
def k11c10 : Code := { maxStack := 3, maxLocals := 7, code := jdk_52_method_21_code, exceptionTable := #[], attributes := #[] }
def k11m10 : Method := { name := "compress", desc := "([CI[BII)I", sig := { parameters := [(.array .char), .int, (.array .byte), .int, .int], returnType := some .int }, accessFlags := 9, code := some k11c10 }
/-- java/lang/StringUTF16 -/
def k11 : Class := { plain "java/lang/StringUTF16" (some 0) with
  accessFlags := 48
  interfaces := #[]
  cf := some (fileOf pool11 12 #[.nestMembers #[627, 629, 369]] #[{ accessFlags := 0, nameIndex := 9, descriptorIndex := 10, attributes := #[] }, { accessFlags := 9, nameIndex := 109, descriptorIndex := 110, attributes := #[] }, { accessFlags := 9, nameIndex := 15, descriptorIndex := 16, attributes := #[] }, { accessFlags := 8, nameIndex := 113, descriptorIndex := 114, attributes := #[] }, { accessFlags := 8, nameIndex := 73, descriptorIndex := 74, attributes := #[] }, { accessFlags := 10, nameIndex := 90, descriptorIndex := 91, attributes := #[] }, { accessFlags := 9, nameIndex := 90, descriptorIndex := 250, attributes := #[] }, { accessFlags := 9, nameIndex := 121, descriptorIndex := 122, attributes := #[] }, { accessFlags := 8, nameIndex := 261, descriptorIndex := 262, attributes := #[] }, { accessFlags := 9, nameIndex := 117, descriptorIndex := 122, attributes := #[] }, { accessFlags := 9, nameIndex := 117, descriptorIndex := 118, attributes := #[] }] 48 6 #[] #[{ accessFlags := 26, nameIndex := 61, descriptorIndex := 62, attributes := #[] }, { accessFlags := 26, nameIndex := 65, descriptorIndex := 62, attributes := #[] }, { accessFlags := 24, nameIndex := 430, descriptorIndex := 62, attributes := #[] }, { accessFlags := 4120, nameIndex := 46, descriptorIndex := 47, attributes := #[] }])
  fields := #[{ name := "HI_BYTE_SHIFT", type := .int, accessFlags := 26, slot := 0, constantValue := 0 }, { name := "LO_BYTE_SHIFT", type := .int, accessFlags := 26, slot := 1, constantValue := 0 }, { name := "MAX_LENGTH", type := .int, accessFlags := 24, slot := 2, constantValue := 0 }, { name := "$assertionsDisabled", type := .boolean, accessFlags := 4120, slot := 3, constantValue := 0 }]
  methods := #[k11m0, k11m1, k11m2, k11m3, k11m4, k11m5, k11m6, k11m7, k11m8, k11m9, k11m10]
  instanceTypes := #[]
  staticTypes := #[.int, .int, .int, .boolean]
  resolved := Array.replicate 635 none
  statics := some 2 }

def pool12 : Array CpInfo := pool [(2, .class_ 4), (1, u "java/lang/Object"), (0, u "<init>"), (0, u "()V"), (17, .class_ 26), (1, u "jdk/internal/util/Preconditions"), (6, u "checkIndex"), (21, .class_ 56), (0, u "jdk/internal/util/Preconditions$4"), (57, .class_ 115), (0, u "jdk/internal/util/Preconditions$1"), (7, u "SIOOBE_FORMATTER"), (0, u "Ljava/util/function/BiFunction;"), (0, .class_ 126), (0, u "jdk/internal/util/Preconditions$2"), (3, u "AIOOBE_FORMATTER"), (0, .class_ 132), (0, u "jdk/internal/util/Preconditions$3"), (3, u "IOOBE_FORMATTER"), (41, u "(IILjava/util/function/BiFunction;)I")] 15

def k12m0 : Method := { name := "<init>", desc := "()V", sig := { parameters := [], returnType := none }, accessFlags := 1, code := none }
def k12c1 : Code := { maxStack := 3, maxLocals := 3, code := jdk_41_method_11_code, exceptionTable := #[], attributes := #[] }
def k12m1 : Method := { name := "checkIndex", desc := "(IILjava/util/function/BiFunction;)I", sig := { parameters := [.int, .int, (.object "java/util/function/BiFunction")], returnType := some .int }, accessFlags := 9, code := some k12c1 }
/-- jdk/internal/util/Preconditions -/
def k12 : Class := { plain "jdk/internal/util/Preconditions" (some 0) with
  accessFlags := 33
  interfaces := #[]
  cf := some (fileOf pool12 24 #[.nestMembers #[55, 131, 125, 114]] #[{ accessFlags := 1, nameIndex := 5, descriptorIndex := 6, attributes := #[] }, { accessFlags := 9, nameIndex := 33, descriptorIndex := 178, attributes := #[] }] 33 2 #[] #[{ accessFlags := 25, nameIndex := 123, descriptorIndex := 124, attributes := #[] }, { accessFlags := 25, nameIndex := 130, descriptorIndex := 124, attributes := #[] }, { accessFlags := 25, nameIndex := 136, descriptorIndex := 124, attributes := #[] }])
  fields := #[{ name := "SIOOBE_FORMATTER", type := (.object "java/util/function/BiFunction"), accessFlags := 25, slot := 0, constantValue := 0 }, { name := "AIOOBE_FORMATTER", type := (.object "java/util/function/BiFunction"), accessFlags := 25, slot := 1, constantValue := 0 }, { name := "IOOBE_FORMATTER", type := (.object "java/util/function/BiFunction"), accessFlags := 25, slot := 2, constantValue := 0 }]
  methods := #[k12m0, k12m1]
  instanceTypes := #[]
  staticTypes := #[(.object "java/util/function/BiFunction"), (.object "java/util/function/BiFunction"), (.object "java/util/function/BiFunction")]
  resolved := Array.replicate 194 none
  statics := some 3 }

def pool13 : Array CpInfo := pool [(1, .class_ 2), (0, u "java/lang/Character"), (18, u "value"), (0, u "C"), (19, .class_ 44), (1, u "java/lang/Object"), (3, .class_ 50), (1, u "java/lang/Character$CharacterCache"), (22, .integer 65536), (1, .integer 55296), (0, .integer 56320), (0, .integer 57344), (2, u "isHighSurrogate"), (0, u "(C)Z"), (2, u "isLowSurrogate"), (0, .integer 4238353408), (12, u "toCodePoint"), (0, u "(CC)I"), (74, u "(I)I"), (109, u "$assertionsDisabled"), (0, u "Z"), (21, .class_ 309), (1, u "java/lang/Character$UnicodeBlock"), (73, u "TYPE"), (0, u "Ljava/lang/Class;"), (0, .class_ 386), (0, u "java/io/Serializable"), (0, .class_ 388), (0, u "java/lang/Comparable"), (0, .class_ 390), (0, u "java/lang/constant/Constable"), (0, u "MIN_RADIX"), (0, u "I"), (2, u "MAX_RADIX"), (1, u "MIN_VALUE"), (1, u "MAX_VALUE"), (3, u "UNASSIGNED"), (0, u "B"), (0, u "UPPERCASE_LETTER"), (1, u "LOWERCASE_LETTER"), (0, u "TITLECASE_LETTER"), (1, u "MODIFIER_LETTER"), (1, u "OTHER_LETTER"), (1, u "NON_SPACING_MARK"), (1, u "ENCLOSING_MARK"), (1, u "COMBINING_SPACING_MARK"), (1, u "DECIMAL_DIGIT_NUMBER"), (1, u "LETTER_NUMBER"), (1, u "OTHER_NUMBER"), (1, u "SPACE_SEPARATOR"), (1, u "LINE_SEPARATOR"), (1, u "PARAGRAPH_SEPARATOR"), (1, u "CONTROL"), (1, u "FORMAT"), (1, u "PRIVATE_USE"), (1, u "SURROGATE"), (1, u "DASH_PUNCTUATION"), (1, u "START_PUNCTUATION"), (1, u "END_PUNCTUATION"), (1, u "CONNECTOR_PUNCTUATION"), (1, u "OTHER_PUNCTUATION"), (1, u "MATH_SYMBOL"), (1, u "CURRENCY_SYMBOL"), (1, u "MODIFIER_SYMBOL"), (1, u "OTHER_SYMBOL"), (1, u "INITIAL_QUOTE_PUNCTUATION"), (1, u "FINAL_QUOTE_PUNCTUATION"), (1, u "ERROR"), (1, u "DIRECTIONALITY_UNDEFINED"), (0, u "DIRECTIONALITY_LEFT_TO_RIGHT"), (0, u "DIRECTIONALITY_RIGHT_TO_LEFT"), (0, u "DIRECTIONALITY_RIGHT_TO_LEFT_ARABIC"), (0, u "DIRECTIONALITY_EUROPEAN_NUMBER"), (0, u "DIRECTIONALITY_EUROPEAN_NUMBER_SEPARATOR"), (0, u "DIRECTIONALITY_EUROPEAN_NUMBER_TERMINATOR"), (0, u "DIRECTIONALITY_ARABIC_NUMBER"), (0, u "DIRECTIONALITY_COMMON_NUMBER_SEPARATOR"), (0, u "DIRECTIONALITY_NONSPACING_MARK"), (0, u "DIRECTIONALITY_BOUNDARY_NEUTRAL"), (0, u "DIRECTIONALITY_PARAGRAPH_SEPARATOR"), (0, u "DIRECTIONALITY_SEGMENT_SEPARATOR"), (0, u "DIRECTIONALITY_WHITESPACE"), (0, u "DIRECTIONALITY_OTHER_NEUTRALS"), (0, u "DIRECTIONALITY_LEFT_TO_RIGHT_EMBEDDING"), (0, u "DIRECTIONALITY_LEFT_TO_RIGHT_OVERRIDE"), (0, u "DIRECTIONALITY_RIGHT_TO_LEFT_EMBEDDING"), (0, u "DIRECTIONALITY_RIGHT_TO_LEFT_OVERRIDE"), (1, u "DIRECTIONALITY_POP_DIRECTIONAL_FORMAT"), (0, u "DIRECTIONALITY_LEFT_TO_RIGHT_ISOLATE"), (0, u "DIRECTIONALITY_RIGHT_TO_LEFT_ISOLATE"), (0, u "DIRECTIONALITY_FIRST_STRONG_ISOLATE"), (0, u "DIRECTIONALITY_POP_DIRECTIONAL_ISOLATE"), (0, u "MIN_HIGH_SURROGATE"), (0, u "MAX_HIGH_SURROGATE"), (1, u "MIN_LOW_SURROGATE"), (0, u "MAX_LOW_SURROGATE"), (1, u "MIN_SURROGATE"), (0, u "MAX_SURROGATE"), (0, u "MIN_SUPPLEMENTARY_CODE_POINT"), (0, u "MIN_CODE_POINT"), (0, u "MAX_CODE_POINT"), (1, u "serialVersionUID"), (0, u "J"), (2, u "SIZE"), (0, u "BYTES"), (29, u "charCount"), (58, .class_ 596), (0, u "java/lang/Character$UnicodeScript"), (0, .class_ 598), (0, u "java/lang/Character$Subset")] 5

def k13c0 : Code := { maxStack := 2, maxLocals := 1, code := jdk_89_method_14_code, exceptionTable := #[], attributes := #[] }
def k13m0 : Method := { name := "isHighSurrogate", desc := "(C)Z", sig := { parameters := [.char], returnType := some .boolean }, accessFlags := 9, code := some k13c0 }
def k13c1 : Code := { maxStack := 2, maxLocals := 1, code := jdk_89_method_15_code, exceptionTable := #[], attributes := #[] }
def k13m1 : Method := { name := "isLowSurrogate", desc := "(C)Z", sig := { parameters := [.char], returnType := some .boolean }, accessFlags := 9, code := some k13c1 }
def k13c2 : Code := { maxStack := 2, maxLocals := 1, code := jdk_89_method_18_code, exceptionTable := #[], attributes := #[] }
def k13m2 : Method := { name := "charCount", desc := "(I)I", sig := { parameters := [.int], returnType := some .int }, accessFlags := 9, code := some k13c2 }
def k13c3 : Code := { maxStack := 2, maxLocals := 2, code := jdk_89_method_19_code, exceptionTable := #[], attributes := #[] }
def k13m3 : Method := { name := "toCodePoint", desc := "(CC)I", sig := { parameters := [.char, .char], returnType := some .int }, accessFlags := 9, code := some k13c3 }
/-- java/lang/Character -/
def k13 : Class := { plain "java/lang/Character" (some 0) with
  accessFlags := 49
  interfaces := #[3, 4, 6]
  cf := some (fileOf pool13 1 #[.nestMembers #[48, 595, 307, 597]] #[{ accessFlags := 9, nameIndex := 80, descriptorIndex := 81, attributes := #[] }, { accessFlags := 9, nameIndex := 84, descriptorIndex := 81, attributes := #[] }, { accessFlags := 9, nameIndex := 536, descriptorIndex := 174, attributes := #[] }, { accessFlags := 9, nameIndex := 98, descriptorIndex := 99, attributes := #[] }] 49 42 #[385, 387, 389] #[{ accessFlags := 25, nameIndex := 391, descriptorIndex := 392, attributes := #[] }, { accessFlags := 25, nameIndex := 395, descriptorIndex := 392, attributes := #[] }, { accessFlags := 25, nameIndex := 397, descriptorIndex := 22, attributes := #[] }, { accessFlags := 25, nameIndex := 399, descriptorIndex := 22, attributes := #[] }, { accessFlags := 25, nameIndex := 383, descriptorIndex := 384, attributes := #[] }, { accessFlags := 25, nameIndex := 403, descriptorIndex := 404, attributes := #[] }, { accessFlags := 25, nameIndex := 405, descriptorIndex := 404, attributes := #[] }, { accessFlags := 25, nameIndex := 407, descriptorIndex := 404, attributes := #[] }, { accessFlags := 25, nameIndex := 408, descriptorIndex := 404, attributes := #[] }, { accessFlags := 25, nameIndex := 410, descriptorIndex := 404, attributes := #[] }, { accessFlags := 25, nameIndex := 412, descriptorIndex := 404, attributes := #[] }, { accessFlags := 25, nameIndex := 414, descriptorIndex := 404, attributes := #[] }, { accessFlags := 25, nameIndex := 416, descriptorIndex := 404, attributes := #[] }, { accessFlags := 25, nameIndex := 418, descriptorIndex := 404, attributes := #[] }, { accessFlags := 25, nameIndex := 420, descriptorIndex := 404, attributes := #[] }, { accessFlags := 25, nameIndex := 422, descriptorIndex := 404, attributes := #[] }, { accessFlags := 25, nameIndex := 424, descriptorIndex := 404, attributes := #[] }, { accessFlags := 25, nameIndex := 426, descriptorIndex := 404, attributes := #[] }, { accessFlags := 25, nameIndex := 428, descriptorIndex := 404, attributes := #[] }, { accessFlags := 25, nameIndex := 430, descriptorIndex := 404, attributes := #[] }, { accessFlags := 25, nameIndex := 432, descriptorIndex := 404, attributes := #[] }, { accessFlags := 25, nameIndex := 434, descriptorIndex := 404, attributes := #[] }, { accessFlags := 25, nameIndex := 436, descriptorIndex := 404, attributes := #[] }, { accessFlags := 25, nameIndex := 438, descriptorIndex := 404, attributes := #[] }, { accessFlags := 25, nameIndex := 440, descriptorIndex := 404, attributes := #[] }, { accessFlags := 25, nameIndex := 442, descriptorIndex := 404, attributes := #[] }, { accessFlags := 25, nameIndex := 444, descriptorIndex := 404, attributes := #[] }, { accessFlags := 25, nameIndex := 446, descriptorIndex := 404, attributes := #[] }, { accessFlags := 25, nameIndex := 448, descriptorIndex := 404, attributes := #[] }, { accessFlags := 25, nameIndex := 450, descriptorIndex := 404, attributes := #[] }, { accessFlags := 25, nameIndex := 452, descriptorIndex := 404, attributes := #[] }, { accessFlags := 25, nameIndex := 454, descriptorIndex := 404, attributes := #[] }, { accessFlags := 25, nameIndex := 456, descriptorIndex := 404, attributes := #[] }, { accessFlags := 25, nameIndex := 458, descriptorIndex := 404, attributes := #[] }, { accessFlags := 25, nameIndex := 460, descriptorIndex := 404, attributes := #[] }, { accessFlags := 24, nameIndex := 462, descriptorIndex := 392, attributes := #[] }, { accessFlags := 25, nameIndex := 464, descriptorIndex := 404, attributes := #[] }, { accessFlags := 25, nameIndex := 465, descriptorIndex := 404, attributes := #[] }, { accessFlags := 25, nameIndex := 466, descriptorIndex := 404, attributes := #[] }, { accessFlags := 25, nameIndex := 467, descriptorIndex := 404, attributes := #[] }, { accessFlags := 25, nameIndex := 468, descriptorIndex := 404, attributes := #[] }, { accessFlags := 25, nameIndex := 469, descriptorIndex := 404, attributes := #[] }, { accessFlags := 25, nameIndex := 470, descriptorIndex := 404, attributes := #[] }, { accessFlags := 25, nameIndex := 471, descriptorIndex := 404, attributes := #[] }, { accessFlags := 25, nameIndex := 472, descriptorIndex := 404, attributes := #[] }, { accessFlags := 25, nameIndex := 473, descriptorIndex := 404, attributes := #[] }, { accessFlags := 25, nameIndex := 474, descriptorIndex := 404, attributes := #[] }, { accessFlags := 25, nameIndex := 475, descriptorIndex := 404, attributes := #[] }, { accessFlags := 25, nameIndex := 476, descriptorIndex := 404, attributes := #[] }, { accessFlags := 25, nameIndex := 477, descriptorIndex := 404, attributes := #[] }, { accessFlags := 25, nameIndex := 478, descriptorIndex := 404, attributes := #[] }, { accessFlags := 25, nameIndex := 479, descriptorIndex := 404, attributes := #[] }, { accessFlags := 25, nameIndex := 480, descriptorIndex := 404, attributes := #[] }, { accessFlags := 25, nameIndex := 481, descriptorIndex := 404, attributes := #[] }, { accessFlags := 25, nameIndex := 482, descriptorIndex := 404, attributes := #[] }, { accessFlags := 25, nameIndex := 484, descriptorIndex := 404, attributes := #[] }, { accessFlags := 25, nameIndex := 485, descriptorIndex := 404, attributes := #[] }, { accessFlags := 25, nameIndex := 486, descriptorIndex := 404, attributes := #[] }, { accessFlags := 25, nameIndex := 487, descriptorIndex := 404, attributes := #[] }, { accessFlags := 25, nameIndex := 488, descriptorIndex := 404, attributes := #[] }, { accessFlags := 25, nameIndex := 489, descriptorIndex := 22, attributes := #[] }, { accessFlags := 25, nameIndex := 490, descriptorIndex := 22, attributes := #[] }, { accessFlags := 25, nameIndex := 492, descriptorIndex := 22, attributes := #[] }, { accessFlags := 25, nameIndex := 493, descriptorIndex := 22, attributes := #[] }, { accessFlags := 25, nameIndex := 495, descriptorIndex := 22, attributes := #[] }, { accessFlags := 25, nameIndex := 496, descriptorIndex := 22, attributes := #[] }, { accessFlags := 25, nameIndex := 497, descriptorIndex := 392, attributes := #[] }, { accessFlags := 25, nameIndex := 498, descriptorIndex := 392, attributes := #[] }, { accessFlags := 25, nameIndex := 499, descriptorIndex := 392, attributes := #[] }, { accessFlags := 18, nameIndex := 21, descriptorIndex := 22, attributes := #[] }, { accessFlags := 26, nameIndex := 501, descriptorIndex := 502, attributes := #[] }, { accessFlags := 25, nameIndex := 505, descriptorIndex := 392, attributes := #[] }, { accessFlags := 25, nameIndex := 506, descriptorIndex := 392, attributes := #[] }, { accessFlags := 4120, nameIndex := 284, descriptorIndex := 285, attributes := #[] }])
  fields := #[{ name := "MIN_RADIX", type := .int, accessFlags := 25, slot := 0, constantValue := 0 }, { name := "MAX_RADIX", type := .int, accessFlags := 25, slot := 1, constantValue := 0 }, { name := "MIN_VALUE", type := .char, accessFlags := 25, slot := 2, constantValue := 0 }, { name := "MAX_VALUE", type := .char, accessFlags := 25, slot := 3, constantValue := 0 }, { name := "TYPE", type := (.object "java/lang/Class"), accessFlags := 25, slot := 4, constantValue := 0 }, { name := "UNASSIGNED", type := .byte, accessFlags := 25, slot := 5, constantValue := 0 }, { name := "UPPERCASE_LETTER", type := .byte, accessFlags := 25, slot := 6, constantValue := 0 }, { name := "LOWERCASE_LETTER", type := .byte, accessFlags := 25, slot := 7, constantValue := 0 }, { name := "TITLECASE_LETTER", type := .byte, accessFlags := 25, slot := 8, constantValue := 0 }, { name := "MODIFIER_LETTER", type := .byte, accessFlags := 25, slot := 9, constantValue := 0 }, { name := "OTHER_LETTER", type := .byte, accessFlags := 25, slot := 10, constantValue := 0 }, { name := "NON_SPACING_MARK", type := .byte, accessFlags := 25, slot := 11, constantValue := 0 }, { name := "ENCLOSING_MARK", type := .byte, accessFlags := 25, slot := 12, constantValue := 0 }, { name := "COMBINING_SPACING_MARK", type := .byte, accessFlags := 25, slot := 13, constantValue := 0 }, { name := "DECIMAL_DIGIT_NUMBER", type := .byte, accessFlags := 25, slot := 14, constantValue := 0 }, { name := "LETTER_NUMBER", type := .byte, accessFlags := 25, slot := 15, constantValue := 0 }, { name := "OTHER_NUMBER", type := .byte, accessFlags := 25, slot := 16, constantValue := 0 }, { name := "SPACE_SEPARATOR", type := .byte, accessFlags := 25, slot := 17, constantValue := 0 }, { name := "LINE_SEPARATOR", type := .byte, accessFlags := 25, slot := 18, constantValue := 0 }, { name := "PARAGRAPH_SEPARATOR", type := .byte, accessFlags := 25, slot := 19, constantValue := 0 }, { name := "CONTROL", type := .byte, accessFlags := 25, slot := 20, constantValue := 0 }, { name := "FORMAT", type := .byte, accessFlags := 25, slot := 21, constantValue := 0 }, { name := "PRIVATE_USE", type := .byte, accessFlags := 25, slot := 22, constantValue := 0 }, { name := "SURROGATE", type := .byte, accessFlags := 25, slot := 23, constantValue := 0 }, { name := "DASH_PUNCTUATION", type := .byte, accessFlags := 25, slot := 24, constantValue := 0 }, { name := "START_PUNCTUATION", type := .byte, accessFlags := 25, slot := 25, constantValue := 0 }, { name := "END_PUNCTUATION", type := .byte, accessFlags := 25, slot := 26, constantValue := 0 }, { name := "CONNECTOR_PUNCTUATION", type := .byte, accessFlags := 25, slot := 27, constantValue := 0 }, { name := "OTHER_PUNCTUATION", type := .byte, accessFlags := 25, slot := 28, constantValue := 0 }, { name := "MATH_SYMBOL", type := .byte, accessFlags := 25, slot := 29, constantValue := 0 }, { name := "CURRENCY_SYMBOL", type := .byte, accessFlags := 25, slot := 30, constantValue := 0 }, { name := "MODIFIER_SYMBOL", type := .byte, accessFlags := 25, slot := 31, constantValue := 0 }, { name := "OTHER_SYMBOL", type := .byte, accessFlags := 25, slot := 32, constantValue := 0 }, { name := "INITIAL_QUOTE_PUNCTUATION", type := .byte, accessFlags := 25, slot := 33, constantValue := 0 }, { name := "FINAL_QUOTE_PUNCTUATION", type := .byte, accessFlags := 25, slot := 34, constantValue := 0 }, { name := "ERROR", type := .int, accessFlags := 24, slot := 35, constantValue := 0 }, { name := "DIRECTIONALITY_UNDEFINED", type := .byte, accessFlags := 25, slot := 36, constantValue := 0 }, { name := "DIRECTIONALITY_LEFT_TO_RIGHT", type := .byte, accessFlags := 25, slot := 37, constantValue := 0 }, { name := "DIRECTIONALITY_RIGHT_TO_LEFT", type := .byte, accessFlags := 25, slot := 38, constantValue := 0 }, { name := "DIRECTIONALITY_RIGHT_TO_LEFT_ARABIC", type := .byte, accessFlags := 25, slot := 39, constantValue := 0 }, { name := "DIRECTIONALITY_EUROPEAN_NUMBER", type := .byte, accessFlags := 25, slot := 40, constantValue := 0 }, { name := "DIRECTIONALITY_EUROPEAN_NUMBER_SEPARATOR", type := .byte, accessFlags := 25, slot := 41, constantValue := 0 }, { name := "DIRECTIONALITY_EUROPEAN_NUMBER_TERMINATOR", type := .byte, accessFlags := 25, slot := 42, constantValue := 0 }, { name := "DIRECTIONALITY_ARABIC_NUMBER", type := .byte, accessFlags := 25, slot := 43, constantValue := 0 }, { name := "DIRECTIONALITY_COMMON_NUMBER_SEPARATOR", type := .byte, accessFlags := 25, slot := 44, constantValue := 0 }, { name := "DIRECTIONALITY_NONSPACING_MARK", type := .byte, accessFlags := 25, slot := 45, constantValue := 0 }, { name := "DIRECTIONALITY_BOUNDARY_NEUTRAL", type := .byte, accessFlags := 25, slot := 46, constantValue := 0 }, { name := "DIRECTIONALITY_PARAGRAPH_SEPARATOR", type := .byte, accessFlags := 25, slot := 47, constantValue := 0 }, { name := "DIRECTIONALITY_SEGMENT_SEPARATOR", type := .byte, accessFlags := 25, slot := 48, constantValue := 0 }, { name := "DIRECTIONALITY_WHITESPACE", type := .byte, accessFlags := 25, slot := 49, constantValue := 0 }, { name := "DIRECTIONALITY_OTHER_NEUTRALS", type := .byte, accessFlags := 25, slot := 50, constantValue := 0 }, { name := "DIRECTIONALITY_LEFT_TO_RIGHT_EMBEDDING", type := .byte, accessFlags := 25, slot := 51, constantValue := 0 }, { name := "DIRECTIONALITY_LEFT_TO_RIGHT_OVERRIDE", type := .byte, accessFlags := 25, slot := 52, constantValue := 0 }, { name := "DIRECTIONALITY_RIGHT_TO_LEFT_EMBEDDING", type := .byte, accessFlags := 25, slot := 53, constantValue := 0 }, { name := "DIRECTIONALITY_RIGHT_TO_LEFT_OVERRIDE", type := .byte, accessFlags := 25, slot := 54, constantValue := 0 }, { name := "DIRECTIONALITY_POP_DIRECTIONAL_FORMAT", type := .byte, accessFlags := 25, slot := 55, constantValue := 0 }, { name := "DIRECTIONALITY_LEFT_TO_RIGHT_ISOLATE", type := .byte, accessFlags := 25, slot := 56, constantValue := 0 }, { name := "DIRECTIONALITY_RIGHT_TO_LEFT_ISOLATE", type := .byte, accessFlags := 25, slot := 57, constantValue := 0 }, { name := "DIRECTIONALITY_FIRST_STRONG_ISOLATE", type := .byte, accessFlags := 25, slot := 58, constantValue := 0 }, { name := "DIRECTIONALITY_POP_DIRECTIONAL_ISOLATE", type := .byte, accessFlags := 25, slot := 59, constantValue := 0 }, { name := "MIN_HIGH_SURROGATE", type := .char, accessFlags := 25, slot := 60, constantValue := 0 }, { name := "MAX_HIGH_SURROGATE", type := .char, accessFlags := 25, slot := 61, constantValue := 0 }, { name := "MIN_LOW_SURROGATE", type := .char, accessFlags := 25, slot := 62, constantValue := 0 }, { name := "MAX_LOW_SURROGATE", type := .char, accessFlags := 25, slot := 63, constantValue := 0 }, { name := "MIN_SURROGATE", type := .char, accessFlags := 25, slot := 64, constantValue := 0 }, { name := "MAX_SURROGATE", type := .char, accessFlags := 25, slot := 65, constantValue := 0 }, { name := "MIN_SUPPLEMENTARY_CODE_POINT", type := .int, accessFlags := 25, slot := 66, constantValue := 0 }, { name := "MIN_CODE_POINT", type := .int, accessFlags := 25, slot := 67, constantValue := 0 }, { name := "MAX_CODE_POINT", type := .int, accessFlags := 25, slot := 68, constantValue := 0 }, { name := "value", type := .char, accessFlags := 18, slot := 0, constantValue := 0 }, { name := "serialVersionUID", type := .long, accessFlags := 26, slot := 69, constantValue := 0 }, { name := "SIZE", type := .int, accessFlags := 25, slot := 70, constantValue := 0 }, { name := "BYTES", type := .int, accessFlags := 25, slot := 71, constantValue := 0 }, { name := "$assertionsDisabled", type := .boolean, accessFlags := 4120, slot := 72, constantValue := 0 }]
  methods := #[k13m0, k13m1, k13m2, k13m3]
  instanceTypes := #[.char]
  staticTypes := #[.int, .int, .char, .char, (.object "java/lang/Class"), .byte, .byte, .byte, .byte, .byte, .byte, .byte, .byte, .byte, .byte, .byte, .byte, .byte, .byte, .byte, .byte, .byte, .byte, .byte, .byte, .byte, .byte, .byte, .byte, .byte, .byte, .byte, .byte, .byte, .byte, .int, .byte, .byte, .byte, .byte, .byte, .byte, .byte, .byte, .byte, .byte, .byte, .byte, .byte, .byte, .byte, .byte, .byte, .byte, .byte, .byte, .byte, .byte, .byte, .byte, .char, .char, .char, .char, .char, .char, .int, .int, .int, .long, .int, .int, .boolean]
  resolved := Array.replicate 604 none
  statics := none }

def pool14 : Array CpInfo := pool [(4, .class_ 6), (1, u "java/lang/Object"), (0, u "<init>"), (0, u "()V"), (5, .class_ 16), (1, u "java/lang/StringLatin1"), (104, u "$assertionsDisabled"), (0, u "Z"), (98, .class_ 223), (1, u "java/lang/StringLatin1$LinesSpliterator"), (166, .class_ 391), (0, u "java/lang/StringLatin1$CharsSpliterator")] 3

def k14m0 : Method := { name := "<init>", desc := "()V", sig := { parameters := [], returnType := none }, accessFlags := 0, code := none }
/-- java/lang/StringLatin1 -/
def k14 : Class := { plain "java/lang/StringLatin1" (some 0) with
  accessFlags := 48
  interfaces := #[]
  cf := some (fileOf pool14 14 #[.nestMembers #[390, 221]] #[{ accessFlags := 0, nameIndex := 7, descriptorIndex := 8, attributes := #[] }] 48 4 #[] #[{ accessFlags := 4120, nameIndex := 121, descriptorIndex := 122, attributes := #[] }])
  fields := #[{ name := "$assertionsDisabled", type := .boolean, accessFlags := 4120, slot := 0, constantValue := 0 }]
  methods := #[k14m0]
  instanceTypes := #[]
  staticTypes := #[.boolean]
  resolved := Array.replicate 395 none
  statics := none }

def pool15 : Array CpInfo := pool [(9, u "<init>"), (6, .class_ 18), (1, u "java/lang/Object"), (0, u "()V"), (1, .class_ 23), (1, u "jdk/internal/util/ArraysSupport"), (0, u "LOG2_ARRAY_LONG_INDEX_SCALE"), (0, u "I"), (2, u "U"), (0, u "Ljdk/internal/misc/Unsafe;"), (8, u "BIG_ENDIAN"), (0, u "Z"), (8, u "LOG2_BYTE_BIT_SIZE"), (4, u "LOG2_ARRAY_INT_INDEX_SCALE"), (54, u "JLA"), (0, u "Ljdk/internal/access/JavaLangAccess;"), (11, u "LOG2_ARRAY_BOOLEAN_INDEX_SCALE"), (9, u "LOG2_ARRAY_BYTE_INDEX_SCALE"), (5, u "LOG2_ARRAY_CHAR_INDEX_SCALE"), (5, u "LOG2_ARRAY_SHORT_INDEX_SCALE"), (18, u "LOG2_ARRAY_FLOAT_INDEX_SCALE"), (24, u "LOG2_ARRAY_DOUBLE_INDEX_SCALE"), (89, u "T_BOOLEAN"), (2, u "T_CHAR"), (1, u "T_FLOAT"), (1, u "T_DOUBLE"), (1, u "T_BYTE"), (1, u "T_SHORT"), (1, u "T_INT"), (1, u "T_LONG"), (1, u "SOFT_MAX_ARRAY_LENGTH")] 83

def k15m0 : Method := { name := "<init>", desc := "()V", sig := { parameters := [], returnType := none }, accessFlags := 2, code := none }
/-- jdk/internal/util/ArraysSupport -/
def k15 : Class := { plain "jdk/internal/util/ArraysSupport" (some 0) with
  accessFlags := 33
  interfaces := #[]
  cf := some (fileOf pool15 21 #[] #[{ accessFlags := 2, nameIndex := 9, descriptorIndex := 19, attributes := #[] }] 33 16 #[] #[{ accessFlags := 24, nameIndex := 28, descriptorIndex := 29, attributes := #[] }, { accessFlags := 26, nameIndex := 38, descriptorIndex := 39, attributes := #[] }, { accessFlags := 25, nameIndex := 121, descriptorIndex := 25, attributes := #[] }, { accessFlags := 25, nameIndex := 131, descriptorIndex := 25, attributes := #[] }, { accessFlags := 25, nameIndex := 137, descriptorIndex := 25, attributes := #[] }, { accessFlags := 25, nameIndex := 143, descriptorIndex := 25, attributes := #[] }, { accessFlags := 25, nameIndex := 53, descriptorIndex := 25, attributes := #[] }, { accessFlags := 25, nameIndex := 24, descriptorIndex := 25, attributes := #[] }, { accessFlags := 25, nameIndex := 162, descriptorIndex := 25, attributes := #[] }, { accessFlags := 25, nameIndex := 187, descriptorIndex := 25, attributes := #[] }, { accessFlags := 26, nameIndex := 48, descriptorIndex := 25, attributes := #[] }, { accessFlags := 25, nameIndex := 277, descriptorIndex := 25, attributes := #[] }, { accessFlags := 25, nameIndex := 280, descriptorIndex := 25, attributes := #[] }, { accessFlags := 25, nameIndex := 282, descriptorIndex := 25, attributes := #[] }, { accessFlags := 25, nameIndex := 284, descriptorIndex := 25, attributes := #[] }, { accessFlags := 25, nameIndex := 286, descriptorIndex := 25, attributes := #[] }, { accessFlags := 25, nameIndex := 288, descriptorIndex := 25, attributes := #[] }, { accessFlags := 25, nameIndex := 290, descriptorIndex := 25, attributes := #[] }, { accessFlags := 25, nameIndex := 292, descriptorIndex := 25, attributes := #[] }, { accessFlags := 26, nameIndex := 108, descriptorIndex := 109, attributes := #[] }, { accessFlags := 25, nameIndex := 294, descriptorIndex := 25, attributes := #[] }])
  fields := #[{ name := "U", type := (.object "jdk/internal/misc/Unsafe"), accessFlags := 24, slot := 0, constantValue := 0 }, { name := "BIG_ENDIAN", type := .boolean, accessFlags := 26, slot := 1, constantValue := 0 }, { name := "LOG2_ARRAY_BOOLEAN_INDEX_SCALE", type := .int, accessFlags := 25, slot := 2, constantValue := 0 }, { name := "LOG2_ARRAY_BYTE_INDEX_SCALE", type := .int, accessFlags := 25, slot := 3, constantValue := 0 }, { name := "LOG2_ARRAY_CHAR_INDEX_SCALE", type := .int, accessFlags := 25, slot := 4, constantValue := 0 }, { name := "LOG2_ARRAY_SHORT_INDEX_SCALE", type := .int, accessFlags := 25, slot := 5, constantValue := 0 }, { name := "LOG2_ARRAY_INT_INDEX_SCALE", type := .int, accessFlags := 25, slot := 6, constantValue := 0 }, { name := "LOG2_ARRAY_LONG_INDEX_SCALE", type := .int, accessFlags := 25, slot := 7, constantValue := 0 }, { name := "LOG2_ARRAY_FLOAT_INDEX_SCALE", type := .int, accessFlags := 25, slot := 8, constantValue := 0 }, { name := "LOG2_ARRAY_DOUBLE_INDEX_SCALE", type := .int, accessFlags := 25, slot := 9, constantValue := 0 }, { name := "LOG2_BYTE_BIT_SIZE", type := .int, accessFlags := 26, slot := 10, constantValue := 0 }, { name := "T_BOOLEAN", type := .int, accessFlags := 25, slot := 11, constantValue := 0 }, { name := "T_CHAR", type := .int, accessFlags := 25, slot := 12, constantValue := 0 }, { name := "T_FLOAT", type := .int, accessFlags := 25, slot := 13, constantValue := 0 }, { name := "T_DOUBLE", type := .int, accessFlags := 25, slot := 14, constantValue := 0 }, { name := "T_BYTE", type := .int, accessFlags := 25, slot := 15, constantValue := 0 }, { name := "T_SHORT", type := .int, accessFlags := 25, slot := 16, constantValue := 0 }, { name := "T_INT", type := .int, accessFlags := 25, slot := 17, constantValue := 0 }, { name := "T_LONG", type := .int, accessFlags := 25, slot := 18, constantValue := 0 }, { name := "JLA", type := (.object "jdk/internal/access/JavaLangAccess"), accessFlags := 26, slot := 19, constantValue := 0 }, { name := "SOFT_MAX_ARRAY_LENGTH", type := .int, accessFlags := 25, slot := 20, constantValue := 0 }]
  methods := #[k15m0]
  instanceTypes := #[]
  staticTypes := #[(.object "jdk/internal/misc/Unsafe"), .boolean, .int, .int, .int, .int, .int, .int, .int, .int, .int, .int, .int, .int, .int, .int, .int, .int, .int, (.object "jdk/internal/access/JavaLangAccess"), .int]
  resolved := Array.replicate 378 none
  statics := none }

def pool16 : Array CpInfo := pool [(1, u "java/lang/Cloneable"), (0, .class_ 1), (0, u "java/lang/Object"), (0, .class_ 3)] 3

/-- java/lang/Cloneable -/
def k16 : Class := { plain "java/lang/Cloneable" (some 0) with
  accessFlags := 1537
  interfaces := #[]
  cf := some (fileOf pool16 2 #[] #[] 1537 4 #[] #[])
  fields := #[]
  methods := #[]
  instanceTypes := #[]
  staticTypes := #[]
  resolved := Array.replicate 8 none
  statics := none }

/-- the primitive byte -/
def k17 : Class := { plain "byte" none with kind := .primitive 'B', accessFlags := 0x411 }
/-- [B -/
def k18 : Class := { plain "[B" (some 0) with kind := .array 17 .byte, interfaces := #[16, 3], accessFlags := 1041 }

/-- the primitive char -/
def k19 : Class := { plain "char" none with kind := .primitive 'C', accessFlags := 0x411 }
/-- [C -/
def k20 : Class := { plain "[C" (some 0) with kind := .array 19 .char, interfaces := #[16, 3], accessFlags := 1041 }

/-- the primitive int -/
def k21 : Class := { plain "int" none with kind := .primitive 'I', accessFlags := 0x411 }
/-- [I -/
def k22 : Class := { plain "[I" (some 0) with kind := .array 21 .int, interfaces := #[16, 3], accessFlags := 1041 }

def heap : Heap := #[{ cls := 8, slots := #[.long 0, .int 1, .null, .int 0, .null, .int 0, .int 0], vm := .statics 8 },
  { cls := 10, slots := #[.ref 4], vm := .statics 10 },
  { cls := 11, slots := #[.int 0, .int 8, .int 0, .int 1], vm := .statics 11 },
  { cls := 12, slots := #[.null, .null, .null], vm := .statics 12 },
  { cls := 22, slots := #[.int 0, .int 0, .int 192, .int 224, .int 240], vm := .none }]
def classes : Array Class := #[k0, k1, k2, k3, k4, k5, k6, k7, k8, k9, k10, k11, k12, k13, k14, k15, k16, k17, k18, k19, k20, k21, k22]
def interned : List (Array UInt16 × Addr) := []
def slotsUsed : Nat := 20
def theMethod : MethodId := ⟨1, 1⟩
def args0 : Array Value := #[.int 65, .int 300, .int 33, .int 5]
def aboutOver (below : List Frame) : State where
  vm := { classes := classes, interned := interned.toArray }
  heap := heap
  slotsUsed := slotsUsed
  threads := #[{ frames := .invoking theMethod args0 :: below }]
def below0 : List Frame := [.native { method := ⟨0, 0⟩, args := #[] }]
def about1 : State := aboutOver below0
def p0 : Program := .bare "" "" ""
def e0 : Env := launch0.env 0 0 0
theorem w_frames : about1.frames = Frame.invoking theMethod args0 :: below0 := rfl
set_option maxRecDepth 65536 in
theorem w_args : argsFit about1.vm theMethod args0 = true := by decide +kernel
set_option maxRecDepth 65536 in
theorem w_heap : heapFits about1 = true := by decide +kernel
set_option maxRecDepth 65536 in
theorem w_runnable : about1.curStatus? = some .runnable := by decide +kernel
set_option maxRecDepth 65536 in
theorem w_alone : about1.alone = true := by decide +kernel
set_option maxRecDepth 65536 in
theorem w_named : about1.methodNamed? x = some theMethod := by decide +kernel
set_option maxRecDepth 65536 in
theorem w_hears : about1.hears theMethod below0 = true := by decide +kernel
set_option maxRecDepth 65536 in
theorem w_ripe : about1.ripe theMethod args0 below0 = true := by decide +kernel
theorem w_running : about1.status = .running := rfl
set_option maxRecDepth 65536 in
theorem w_room : about1.hasRoom e0.platform room_1 = true :=
  launch0.hasRoom_least _ room_1 (by decide +kernel) (by decide +kernel) (by decide +kernel) (by decide +kernel) (by decide +kernel) (by decide +kernel)
theorem allAtoms_all (ts : List Jvm.Cond) (a : Array Jvm.Value) (st : Jvm.State) : (allAtoms ts).before a st = ts.all (fun c => c.before a st) := by
  induction ts with
  | nil => rfl
  | cons c t ih =>
    show (Jvm.Cond.and c (allAtoms t)).before a st = _
    rw [Jvm.Cond.before_and, ih, List.all_cons]
def words1 : List Jvm.Cond := Jvm.Cond.code x code maxLocals ret :: tables_1
/-- a 'code' word, met by the world's own term for the bytes: nothing is compared byte by byte -/
theorem code_word {y : MethodName} {bytes : ByteArray} {mx : Nat} {rt : Option FieldType} {a : Array Value} {s : State} {m : MethodId} {meth : Method} {c : Code} (h1 : s.methodNamed? y = some m) (h2 : s.vm.method? m = some meth) (h3 : meth.code = some c) (h4 : c.code = bytes)
    (h5 : (c.maxLocals == mx && c.exceptionTable.isEmpty && decide (c.maxStack ≤ mostOperands) && decide (meth.sig.returnType = rt) && !meth.locks && decide (parseMethodDescriptor y.desc = some meth.sig)) = true) : (Jvm.Cond.code y bytes mx rt).before a s = true := by
  simp only [Bool.and_eq_true, beq_iff_eq, Bool.not_eq_true', decide_eq_true_eq] at h5
  obtain ⟨⟨⟨⟨⟨g1, g2⟩, g3⟩, g4⟩, g5⟩, g6⟩ := h5
  simp [Cond.before, Cond.holds, Cond.value, h1, h2, h3, h4, g1, g2, g3, g4, g5, g6]
def isCode : Jvm.Cond → Bool
  | .code _ _ _ _ => true
  | _ => false
theorem all_split {L : List Jvm.Cond} {P : Jvm.Cond → Bool} (h1 : L.all (fun c => isCode c || P c) = true) (h2 : ∀ c ∈ L.filter isCode, P c = true) : L.all P = true := by
  refine List.all_eq_true.mpr fun c hc => ?_
  have h := List.all_eq_true.mp h1 c hc
  rcases Bool.eq_false_or_eq_true (isCode c) with hi | hi
  · exact h2 c (List.mem_filter.mpr ⟨hc, hi⟩)
  · simpa [hi] using h
set_option maxRecDepth 65536 in
theorem w_c0 : (Jvm.Cond.code x code maxLocals ret).before args0 about1 = true := code_word (m := ⟨1, 1⟩) (meth := k1m1) (c := k1c1) (by decide +kernel) rfl rfl rfl (by decide +kernel)
set_option maxRecDepth 65536 in
theorem w_c1 : (Jvm.Cond.code ({ cls := "com/example/trim_rowkey/trimrowkey/StringFieldEncodePinLaw", name := "pick", desc := "(II)I" } : Jvm.MethodName) method_3_code (4 : Nat) (Option.some Jvm.ClassFile.FieldType.int)).before args0 about1 = true := code_word (m := ⟨1, 2⟩) (meth := k1m2) (c := k1c2) (by decide +kernel) rfl rfl rfl (by decide +kernel)
set_option maxRecDepth 65536 in
theorem w_c2 : (Jvm.Cond.code ({ cls := "java/lang/Math", name := "min", desc := "(II)I" } : Jvm.MethodName) jdk_29_method_69_code (2 : Nat) (Option.some Jvm.ClassFile.FieldType.int)).before args0 about1 = true := code_word (m := ⟨2, 1⟩) (meth := k2m1) (c := k2c1) (by decide +kernel) rfl rfl rfl (by decide +kernel)
set_option maxRecDepth 65536 in
theorem w_c3 : (Jvm.Cond.code ({ cls := "com/example/trim_rowkey/trimrowkey/StringFieldEncodePinLaw", name := "str", desc := "([CI)Ljava/lang/String;" } : Jvm.MethodName) method_6_code (2 : Nat) (Option.some (Jvm.ClassFile.FieldType.object "java/lang/String"))).before args0 about1 = true := code_word (m := ⟨1, 5⟩) (meth := k1m5) (c := k1c5) (by decide +kernel) rfl rfl rfl (by decide +kernel)
set_option maxRecDepth 65536 in
theorem w_c4 : (Jvm.Cond.code ({ cls := "java/lang/String", name := "<init>", desc := "([C)V" } : Jvm.MethodName) jdk_42_method_3_code (2 : Nat) (Option.none : Option Jvm.ClassFile.FieldType)).before args0 about1 = true := code_word (m := ⟨8, 1⟩) (meth := k8m1) (c := k8c1) (by decide +kernel) rfl rfl rfl (by decide +kernel)
set_option maxRecDepth 65536 in
theorem w_c5 : (Jvm.Cond.code ({ cls := "java/lang/String", name := "<init>", desc := "([CIILjava/lang/Void;)V" } : Jvm.MethodName) jdk_42_method_149_code (6 : Nat) (Option.none : Option Jvm.ClassFile.FieldType)).before args0 about1 = true := code_word (m := ⟨8, 4⟩) (meth := k8m4) (c := k8c4) (by decide +kernel) rfl rfl rfl (by decide +kernel)
set_option maxRecDepth 65536 in
theorem w_c6 : (Jvm.Cond.code ({ cls := "java/lang/Object", name := "<init>", desc := "()V" } : Jvm.MethodName) object_method_1_code (1 : Nat) (Option.none : Option Jvm.ClassFile.FieldType)).before args0 about1 = true := code_word (m := ⟨0, 0⟩) (meth := k0m0) (c := k0c0) (by decide +kernel) rfl rfl rfl (by decide +kernel)
set_option maxRecDepth 65536 in
theorem w_c7 : (Jvm.Cond.code ({ cls := "com/example/trim_rowkey/trimrowkey/StringField", name := "<init>", desc := "(Ljava/lang/String;I)V" } : Jvm.MethodName) prog_9_method_1_code (3 : Nat) (Option.none : Option Jvm.ClassFile.FieldType)).before args0 about1 = true := code_word (m := ⟨10, 0⟩) (meth := k10m0) (c := k10c0) (by decide +kernel) rfl rfl rfl (by decide +kernel)
set_option maxRecDepth 65536 in
theorem w_c8 : (Jvm.Cond.code ({ cls := "com/example/trim_rowkey/trimrowkey/Field", name := "<init>", desc := "(Ljava/lang/String;I)V" } : Jvm.MethodName) prog_3_method_1_code (3 : Nat) (Option.none : Option Jvm.ClassFile.FieldType)).before args0 about1 = true := code_word (m := ⟨9, 0⟩) (meth := k9m0) (c := k9c0) (by decide +kernel) rfl rfl rfl (by decide +kernel)
set_option maxRecDepth 65536 in
theorem w_c9 : (Jvm.Cond.code ({ cls := "com/example/trim_rowkey/trimrowkey/StringField", name := "encode", desc := "(Ljava/lang/String;[BI)V" } : Jvm.MethodName) prog_9_method_2_code (11 : Nat) (Option.none : Option Jvm.ClassFile.FieldType)).before args0 about1 = true := code_word (m := ⟨10, 1⟩) (meth := k10m1) (c := k10c1) (by decide +kernel) rfl rfl rfl (by decide +kernel)
set_option maxRecDepth 65536 in
theorem w_c10 : (Jvm.Cond.code ({ cls := "com/example/trim_rowkey/trimrowkey/Field", name := "width", desc := "()I" } : Jvm.MethodName) prog_3_method_3_code (1 : Nat) (Option.some Jvm.ClassFile.FieldType.int)).before args0 about1 = true := code_word (m := ⟨9, 1⟩) (meth := k9m1) (c := k9c1) (by decide +kernel) rfl rfl rfl (by decide +kernel)
set_option maxRecDepth 65536 in
theorem w_c11 : (Jvm.Cond.code ({ cls := "java/lang/String", name := "length", desc := "()I" } : Jvm.MethodName) jdk_42_method_54_code (1 : Nat) (Option.some Jvm.ClassFile.FieldType.int)).before args0 about1 = true := code_word (m := ⟨8, 2⟩) (meth := k8m2) (c := k8c2) (by decide +kernel) rfl rfl rfl (by decide +kernel)
set_option maxRecDepth 65536 in
theorem w_c12 : (Jvm.Cond.code ({ cls := "java/lang/String", name := "coder", desc := "()B" } : Jvm.MethodName) jdk_42_method_152_code (1 : Nat) (Option.some Jvm.ClassFile.FieldType.byte)).before args0 about1 = true := code_word (m := ⟨8, 5⟩) (meth := k8m5) (c := k8c5) (by decide +kernel) rfl rfl rfl (by decide +kernel)
set_option maxRecDepth 65536 in
theorem w_c13 : (Jvm.Cond.code ({ cls := "com/example/trim_rowkey/trimrowkey/StringFieldEncodePinLaw", name := "same", desc := "([B[B)Z" } : Jvm.MethodName) method_7_code (2 : Nat) (Option.some Jvm.ClassFile.FieldType.boolean)).before args0 about1 = true := code_word (m := ⟨1, 6⟩) (meth := k1m6) (c := k1c6) (by decide +kernel) rfl rfl rfl (by decide +kernel)
set_option maxRecDepth 65536 in
theorem w_c14 : (Jvm.Cond.code ({ cls := "com/example/trim_rowkey/trimrowkey/StringFieldEncodePinLaw", name := "chars", desc := "([CII)I" } : Jvm.MethodName) method_4_code (4 : Nat) (Option.some Jvm.ClassFile.FieldType.int)).before args0 about1 = true := code_word (m := ⟨1, 3⟩) (meth := k1m3) (c := k1c3) (by decide +kernel) rfl rfl rfl (by decide +kernel)
set_option maxRecDepth 65536 in
theorem w_c15 : (Jvm.Cond.code ({ cls := "com/example/trim_rowkey/trimrowkey/StringFieldEncodePinLaw", name := "put", desc := "([BII)I" } : Jvm.MethodName) method_5_code (3 : Nat) (Option.some Jvm.ClassFile.FieldType.int)).before args0 about1 = true := code_word (m := ⟨1, 4⟩) (meth := k1m4) (c := k1c4) (by decide +kernel) rfl rfl rfl (by decide +kernel)
set_option maxRecDepth 65536 in
theorem w_c16 : (Jvm.Cond.code ({ cls := "java/lang/StringUTF16", name := "compress", desc := "([CII)[B" } : Jvm.MethodName) jdk_52_method_16_code (6 : Nat) (Option.some (Jvm.ClassFile.FieldType.array Jvm.ClassFile.FieldType.byte))).before args0 about1 = true := code_word (m := ⟨11, 9⟩) (meth := k11m9) (c := k11c9) (by decide +kernel) rfl rfl rfl (by decide +kernel)
set_option maxRecDepth 65536 in
theorem w_c17 : (Jvm.Cond.code ({ cls := "java/lang/StringUTF16", name := "compress", desc := "([CI[BII)I" } : Jvm.MethodName) jdk_52_method_21_code (7 : Nat) (Option.some Jvm.ClassFile.FieldType.int)).before args0 about1 = true := code_word (m := ⟨11, 10⟩) (meth := k11m10) (c := k11c10) (by decide +kernel) rfl rfl rfl (by decide +kernel)
set_option maxRecDepth 65536 in
theorem w_c18 : (Jvm.Cond.code ({ cls := "java/lang/StringUTF16", name := "coderFromArrayLen", desc := "([BI)B" } : Jvm.MethodName) jdk_52_method_15_code (2 : Nat) (Option.some Jvm.ClassFile.FieldType.byte)).before args0 about1 = true := code_word (m := ⟨11, 8⟩) (meth := k11m8) (c := k11c8) (by decide +kernel) rfl rfl rfl (by decide +kernel)
set_option maxRecDepth 65536 in
theorem w_c19 : (Jvm.Cond.code ({ cls := "java/lang/String", name := "codePointAt", desc := "(I)I" } : Jvm.MethodName) jdk_42_method_57_code (3 : Nat) (Option.some Jvm.ClassFile.FieldType.int)).before args0 about1 = true := code_word (m := ⟨8, 3⟩) (meth := k8m3) (c := k8c3) (by decide +kernel) rfl rfl rfl (by decide +kernel)
set_option maxRecDepth 65536 in
theorem w_c20 : (Jvm.Cond.code ({ cls := "java/lang/String", name := "isLatin1", desc := "()Z" } : Jvm.MethodName) jdk_42_method_154_code (1 : Nat) (Option.some Jvm.ClassFile.FieldType.boolean)).before args0 about1 = true := code_word (m := ⟨8, 6⟩) (meth := k8m6) (c := k8c6) (by decide +kernel) rfl rfl rfl (by decide +kernel)
set_option maxRecDepth 65536 in
theorem w_c21 : (Jvm.Cond.code ({ cls := "java/lang/String", name := "checkIndex", desc := "(II)V" } : Jvm.MethodName) jdk_42_method_155_code (2 : Nat) (Option.none : Option Jvm.ClassFile.FieldType)).before args0 about1 = true := code_word (m := ⟨8, 7⟩) (meth := k8m7) (c := k8c7) (by decide +kernel) rfl rfl rfl (by decide +kernel)
set_option maxRecDepth 65536 in
theorem w_c22 : (Jvm.Cond.code ({ cls := "jdk/internal/util/Preconditions", name := "checkIndex", desc := "(IILjava/util/function/BiFunction;)I" } : Jvm.MethodName) jdk_41_method_11_code (3 : Nat) (Option.some Jvm.ClassFile.FieldType.int)).before args0 about1 = true := code_word (m := ⟨12, 1⟩) (meth := k12m1) (c := k12c1) (by decide +kernel) rfl rfl rfl (by decide +kernel)
set_option maxRecDepth 65536 in
theorem w_c23 : (Jvm.Cond.code ({ cls := "com/example/trim_rowkey/trimrowkey/StringField", name := "utf8Size", desc := "(I)I" } : Jvm.MethodName) prog_9_method_4_code (2 : Nat) (Option.some Jvm.ClassFile.FieldType.int)).before args0 about1 = true := code_word (m := ⟨10, 2⟩) (meth := k10m2) (c := k10c2) (by decide +kernel) rfl rfl rfl (by decide +kernel)
set_option maxRecDepth 65536 in
theorem w_c24 : (Jvm.Cond.code ({ cls := "java/lang/Character", name := "charCount", desc := "(I)I" } : Jvm.MethodName) jdk_89_method_18_code (1 : Nat) (Option.some Jvm.ClassFile.FieldType.int)).before args0 about1 = true := code_word (m := ⟨13, 2⟩) (meth := k13m2) (c := k13c2) (by decide +kernel) rfl rfl rfl (by decide +kernel)
set_option maxRecDepth 65536 in
theorem w_c25 : (Jvm.Cond.code ({ cls := "java/lang/StringUTF16", name := "toBytes", desc := "([CII)[B" } : Jvm.MethodName) jdk_52_method_14_code (5 : Nat) (Option.some (Jvm.ClassFile.FieldType.array Jvm.ClassFile.FieldType.byte))).before args0 about1 = true := code_word (m := ⟨11, 7⟩) (meth := k11m7) (c := k11c7) (by decide +kernel) rfl rfl rfl (by decide +kernel)
set_option maxRecDepth 65536 in
theorem w_c26 : (Jvm.Cond.code ({ cls := "java/lang/StringUTF16", name := "newBytesFor", desc := "(I)[B" } : Jvm.MethodName) jdk_52_method_2_code (1 : Nat) (Option.some (Jvm.ClassFile.FieldType.array Jvm.ClassFile.FieldType.byte))).before args0 about1 = true := code_word (m := ⟨11, 1⟩) (meth := k11m1) (c := k11c1) (by decide +kernel) rfl rfl rfl (by decide +kernel)
set_option maxRecDepth 65536 in
theorem w_c27 : (Jvm.Cond.code ({ cls := "java/lang/StringUTF16", name := "newBytesLength", desc := "(I)I" } : Jvm.MethodName) jdk_52_method_3_code (1 : Nat) (Option.some Jvm.ClassFile.FieldType.int)).before args0 about1 = true := code_word (m := ⟨11, 2⟩) (meth := k11m2) (c := k11c2) (by decide +kernel) rfl rfl rfl (by decide +kernel)
set_option maxRecDepth 65536 in
theorem w_c28 : (Jvm.Cond.code ({ cls := "java/lang/StringUTF16", name := "putChar", desc := "([BII)V" } : Jvm.MethodName) jdk_52_method_4_code (3 : Nat) (Option.none : Option Jvm.ClassFile.FieldType)).before args0 about1 = true := code_word (m := ⟨11, 3⟩) (meth := k11m3) (c := k11c3) (by decide +kernel) rfl rfl rfl (by decide +kernel)
set_option maxRecDepth 65536 in
theorem w_c29 : (Jvm.Cond.code ({ cls := "java/lang/StringUTF16", name := "getChar", desc := "([BI)C" } : Jvm.MethodName) jdk_52_method_5_code (2 : Nat) (Option.some Jvm.ClassFile.FieldType.char)).before args0 about1 = true := code_word (m := ⟨11, 4⟩) (meth := k11m4) (c := k11c4) (by decide +kernel) rfl rfl rfl (by decide +kernel)
set_option maxRecDepth 65536 in
theorem w_c30 : (Jvm.Cond.code ({ cls := "java/lang/StringUTF16", name := "codePointAt", desc := "([BII)I" } : Jvm.MethodName) jdk_52_method_8_code (3 : Nat) (Option.some Jvm.ClassFile.FieldType.int)).before args0 about1 = true := code_word (m := ⟨11, 6⟩) (meth := k11m6) (c := k11c6) (by decide +kernel) rfl rfl rfl (by decide +kernel)
set_option maxRecDepth 65536 in
theorem w_c31 : (Jvm.Cond.code ({ cls := "java/lang/StringUTF16", name := "codePointAt", desc := "([BIIZ)I" } : Jvm.MethodName) jdk_52_method_7_code (6 : Nat) (Option.some Jvm.ClassFile.FieldType.int)).before args0 about1 = true := code_word (m := ⟨11, 5⟩) (meth := k11m5) (c := k11c5) (by decide +kernel) rfl rfl rfl (by decide +kernel)
set_option maxRecDepth 65536 in
theorem w_c32 : (Jvm.Cond.code ({ cls := "java/lang/Character", name := "isHighSurrogate", desc := "(C)Z" } : Jvm.MethodName) jdk_89_method_14_code (1 : Nat) (Option.some Jvm.ClassFile.FieldType.boolean)).before args0 about1 = true := code_word (m := ⟨13, 0⟩) (meth := k13m0) (c := k13c0) (by decide +kernel) rfl rfl rfl (by decide +kernel)
set_option maxRecDepth 65536 in
theorem w_c33 : (Jvm.Cond.code ({ cls := "java/lang/Character", name := "isLowSurrogate", desc := "(C)Z" } : Jvm.MethodName) jdk_89_method_15_code (1 : Nat) (Option.some Jvm.ClassFile.FieldType.boolean)).before args0 about1 = true := code_word (m := ⟨13, 1⟩) (meth := k13m1) (c := k13c1) (by decide +kernel) rfl rfl rfl (by decide +kernel)
set_option maxRecDepth 65536 in
theorem w_c34 : (Jvm.Cond.code ({ cls := "java/lang/Character", name := "toCodePoint", desc := "(CC)I" } : Jvm.MethodName) jdk_89_method_19_code (2 : Nat) (Option.some Jvm.ClassFile.FieldType.int)).before args0 about1 = true := code_word (m := ⟨13, 3⟩) (meth := k13m3) (c := k13c3) (by decide +kernel) rfl rfl rfl (by decide +kernel)
def codes1 : List Jvm.Cond := [Jvm.Cond.code x code maxLocals ret, Jvm.Cond.code ({ cls := "com/example/trim_rowkey/trimrowkey/StringFieldEncodePinLaw", name := "pick", desc := "(II)I" } : Jvm.MethodName) method_3_code (4 : Nat) (Option.some Jvm.ClassFile.FieldType.int), Jvm.Cond.code ({ cls := "java/lang/Math", name := "min", desc := "(II)I" } : Jvm.MethodName) jdk_29_method_69_code (2 : Nat) (Option.some Jvm.ClassFile.FieldType.int), Jvm.Cond.code ({ cls := "com/example/trim_rowkey/trimrowkey/StringFieldEncodePinLaw", name := "str", desc := "([CI)Ljava/lang/String;" } : Jvm.MethodName) method_6_code (2 : Nat) (Option.some (Jvm.ClassFile.FieldType.object "java/lang/String")), Jvm.Cond.code ({ cls := "java/lang/String", name := "<init>", desc := "([C)V" } : Jvm.MethodName) jdk_42_method_3_code (2 : Nat) (Option.none : Option Jvm.ClassFile.FieldType), Jvm.Cond.code ({ cls := "java/lang/String", name := "<init>", desc := "([CIILjava/lang/Void;)V" } : Jvm.MethodName) jdk_42_method_149_code (6 : Nat) (Option.none : Option Jvm.ClassFile.FieldType), Jvm.Cond.code ({ cls := "java/lang/Object", name := "<init>", desc := "()V" } : Jvm.MethodName) object_method_1_code (1 : Nat) (Option.none : Option Jvm.ClassFile.FieldType), Jvm.Cond.code ({ cls := "com/example/trim_rowkey/trimrowkey/StringField", name := "<init>", desc := "(Ljava/lang/String;I)V" } : Jvm.MethodName) prog_9_method_1_code (3 : Nat) (Option.none : Option Jvm.ClassFile.FieldType), Jvm.Cond.code ({ cls := "com/example/trim_rowkey/trimrowkey/Field", name := "<init>", desc := "(Ljava/lang/String;I)V" } : Jvm.MethodName) prog_3_method_1_code (3 : Nat) (Option.none : Option Jvm.ClassFile.FieldType), Jvm.Cond.code ({ cls := "com/example/trim_rowkey/trimrowkey/StringField", name := "encode", desc := "(Ljava/lang/String;[BI)V" } : Jvm.MethodName) prog_9_method_2_code (11 : Nat) (Option.none : Option Jvm.ClassFile.FieldType), Jvm.Cond.code ({ cls := "com/example/trim_rowkey/trimrowkey/Field", name := "width", desc := "()I" } : Jvm.MethodName) prog_3_method_3_code (1 : Nat) (Option.some Jvm.ClassFile.FieldType.int), Jvm.Cond.code ({ cls := "java/lang/String", name := "length", desc := "()I" } : Jvm.MethodName) jdk_42_method_54_code (1 : Nat) (Option.some Jvm.ClassFile.FieldType.int), Jvm.Cond.code ({ cls := "java/lang/String", name := "coder", desc := "()B" } : Jvm.MethodName) jdk_42_method_152_code (1 : Nat) (Option.some Jvm.ClassFile.FieldType.byte), Jvm.Cond.code ({ cls := "com/example/trim_rowkey/trimrowkey/StringFieldEncodePinLaw", name := "same", desc := "([B[B)Z" } : Jvm.MethodName) method_7_code (2 : Nat) (Option.some Jvm.ClassFile.FieldType.boolean), Jvm.Cond.code ({ cls := "com/example/trim_rowkey/trimrowkey/StringFieldEncodePinLaw", name := "chars", desc := "([CII)I" } : Jvm.MethodName) method_4_code (4 : Nat) (Option.some Jvm.ClassFile.FieldType.int), Jvm.Cond.code ({ cls := "com/example/trim_rowkey/trimrowkey/StringFieldEncodePinLaw", name := "put", desc := "([BII)I" } : Jvm.MethodName) method_5_code (3 : Nat) (Option.some Jvm.ClassFile.FieldType.int), Jvm.Cond.code ({ cls := "java/lang/StringUTF16", name := "compress", desc := "([CII)[B" } : Jvm.MethodName) jdk_52_method_16_code (6 : Nat) (Option.some (Jvm.ClassFile.FieldType.array Jvm.ClassFile.FieldType.byte)), Jvm.Cond.code ({ cls := "java/lang/StringUTF16", name := "compress", desc := "([CI[BII)I" } : Jvm.MethodName) jdk_52_method_21_code (7 : Nat) (Option.some Jvm.ClassFile.FieldType.int), Jvm.Cond.code ({ cls := "java/lang/StringUTF16", name := "coderFromArrayLen", desc := "([BI)B" } : Jvm.MethodName) jdk_52_method_15_code (2 : Nat) (Option.some Jvm.ClassFile.FieldType.byte), Jvm.Cond.code ({ cls := "java/lang/String", name := "codePointAt", desc := "(I)I" } : Jvm.MethodName) jdk_42_method_57_code (3 : Nat) (Option.some Jvm.ClassFile.FieldType.int), Jvm.Cond.code ({ cls := "java/lang/String", name := "isLatin1", desc := "()Z" } : Jvm.MethodName) jdk_42_method_154_code (1 : Nat) (Option.some Jvm.ClassFile.FieldType.boolean), Jvm.Cond.code ({ cls := "java/lang/String", name := "checkIndex", desc := "(II)V" } : Jvm.MethodName) jdk_42_method_155_code (2 : Nat) (Option.none : Option Jvm.ClassFile.FieldType), Jvm.Cond.code ({ cls := "jdk/internal/util/Preconditions", name := "checkIndex", desc := "(IILjava/util/function/BiFunction;)I" } : Jvm.MethodName) jdk_41_method_11_code (3 : Nat) (Option.some Jvm.ClassFile.FieldType.int), Jvm.Cond.code ({ cls := "com/example/trim_rowkey/trimrowkey/StringField", name := "utf8Size", desc := "(I)I" } : Jvm.MethodName) prog_9_method_4_code (2 : Nat) (Option.some Jvm.ClassFile.FieldType.int), Jvm.Cond.code ({ cls := "java/lang/Character", name := "charCount", desc := "(I)I" } : Jvm.MethodName) jdk_89_method_18_code (1 : Nat) (Option.some Jvm.ClassFile.FieldType.int), Jvm.Cond.code ({ cls := "java/lang/StringUTF16", name := "toBytes", desc := "([CII)[B" } : Jvm.MethodName) jdk_52_method_14_code (5 : Nat) (Option.some (Jvm.ClassFile.FieldType.array Jvm.ClassFile.FieldType.byte)), Jvm.Cond.code ({ cls := "java/lang/StringUTF16", name := "newBytesFor", desc := "(I)[B" } : Jvm.MethodName) jdk_52_method_2_code (1 : Nat) (Option.some (Jvm.ClassFile.FieldType.array Jvm.ClassFile.FieldType.byte)), Jvm.Cond.code ({ cls := "java/lang/StringUTF16", name := "newBytesLength", desc := "(I)I" } : Jvm.MethodName) jdk_52_method_3_code (1 : Nat) (Option.some Jvm.ClassFile.FieldType.int), Jvm.Cond.code ({ cls := "java/lang/StringUTF16", name := "putChar", desc := "([BII)V" } : Jvm.MethodName) jdk_52_method_4_code (3 : Nat) (Option.none : Option Jvm.ClassFile.FieldType), Jvm.Cond.code ({ cls := "java/lang/StringUTF16", name := "getChar", desc := "([BI)C" } : Jvm.MethodName) jdk_52_method_5_code (2 : Nat) (Option.some Jvm.ClassFile.FieldType.char), Jvm.Cond.code ({ cls := "java/lang/StringUTF16", name := "codePointAt", desc := "([BII)I" } : Jvm.MethodName) jdk_52_method_8_code (3 : Nat) (Option.some Jvm.ClassFile.FieldType.int), Jvm.Cond.code ({ cls := "java/lang/StringUTF16", name := "codePointAt", desc := "([BIIZ)I" } : Jvm.MethodName) jdk_52_method_7_code (6 : Nat) (Option.some Jvm.ClassFile.FieldType.int), Jvm.Cond.code ({ cls := "java/lang/Character", name := "isHighSurrogate", desc := "(C)Z" } : Jvm.MethodName) jdk_89_method_14_code (1 : Nat) (Option.some Jvm.ClassFile.FieldType.boolean), Jvm.Cond.code ({ cls := "java/lang/Character", name := "isLowSurrogate", desc := "(C)Z" } : Jvm.MethodName) jdk_89_method_15_code (1 : Nat) (Option.some Jvm.ClassFile.FieldType.boolean), Jvm.Cond.code ({ cls := "java/lang/Character", name := "toCodePoint", desc := "(CC)I" } : Jvm.MethodName) jdk_89_method_19_code (2 : Nat) (Option.some Jvm.ClassFile.FieldType.int)]
set_option maxRecDepth 65536 in
theorem codes_eq : words1.filter isCode = codes1 := rfl
theorem w_codes : ∀ c ∈ words1.filter isCode, c.before args0 about1 = true := by
  rw [codes_eq]
  intro c hc
  simp only [codes1, List.mem_cons, List.not_mem_nil, or_false] at hc
  rcases hc with rfl | rfl | rfl | rfl | rfl | rfl | rfl | rfl | rfl | rfl | rfl | rfl | rfl | rfl | rfl | rfl | rfl | rfl | rfl | rfl | rfl | rfl | rfl | rfl | rfl | rfl | rfl | rfl | rfl | rfl | rfl | rfl | rfl | rfl | rfl
  · exact w_c0
  · exact w_c1
  · exact w_c2
  · exact w_c3
  · exact w_c4
  · exact w_c5
  · exact w_c6
  · exact w_c7
  · exact w_c8
  · exact w_c9
  · exact w_c10
  · exact w_c11
  · exact w_c12
  · exact w_c13
  · exact w_c14
  · exact w_c15
  · exact w_c16
  · exact w_c17
  · exact w_c18
  · exact w_c19
  · exact w_c20
  · exact w_c21
  · exact w_c22
  · exact w_c23
  · exact w_c24
  · exact w_c25
  · exact w_c26
  · exact w_c27
  · exact w_c28
  · exact w_c29
  · exact w_c30
  · exact w_c31
  · exact w_c32
  · exact w_c33
  · exact w_c34
set_option maxRecDepth 65536 in
theorem w_t1 : (words1.take 24).all (fun c => isCode c || c.before args0 about1) = true := by decide +kernel
set_option maxRecDepth 65536 in
theorem w_t2 : ((words1.drop 24).take 24).all (fun c => isCode c || c.before args0 about1) = true := by decide +kernel
set_option maxRecDepth 65536 in
theorem w_t3 : (((words1.drop 24).drop 24).take 24).all (fun c => isCode c || c.before args0 about1) = true := by decide +kernel
set_option maxRecDepth 65536 in
theorem w_t4 : ((((words1.drop 24).drop 24).drop 24).take 24).all (fun c => isCode c || c.before args0 about1) = true := by decide +kernel
set_option maxRecDepth 65536 in
theorem w_t5 : (((((words1.drop 24).drop 24).drop 24).drop 24).take 24).all (fun c => isCode c || c.before args0 about1) = true := by decide +kernel
set_option maxRecDepth 65536 in
theorem w_t6 : ((((((words1.drop 24).drop 24).drop 24).drop 24).drop 24).take 24).all (fun c => isCode c || c.before args0 about1) = true := by decide +kernel
set_option maxRecDepth 65536 in
theorem w_t7 : ((((((words1.drop 24).drop 24).drop 24).drop 24).drop 24).drop 24).all (fun c => isCode c || c.before args0 about1) = true := by decide +kernel
theorem w_tables : (allAtoms (Jvm.Cond.code x code maxLocals ret :: tables_1)).before args0 about1 = true := by
  rw [allAtoms_all]
  show words1.all (fun c => c.before args0 about1) = true
  refine all_split ?_ w_codes
  rw [← List.take_append_drop 24 words1, List.all_append, w_t1, ← List.take_append_drop 24 (words1.drop 24), List.all_append, w_t2, ← List.take_append_drop 24 ((words1.drop 24).drop 24), List.all_append, w_t3, ← List.take_append_drop 24 (((words1.drop 24).drop 24).drop 24), List.all_append, w_t4, ← List.take_append_drop 24 ((((words1.drop 24).drop 24).drop 24).drop 24), List.all_append, w_t5, ← List.take_append_drop 24 (((((words1.drop 24).drop 24).drop 24).drop 24).drop 24), List.all_append, w_t6, w_t7]
  rfl
set_option maxRecDepth 65536 in
theorem w_rest : rest_1_c.before args0 about1 = true := by decide +kernel
set_option maxRecDepth 65536 in
theorem w_case : (Jvm.Cond.and given_1 narrow_1).before args0 about1 = true := by decide +kernel
set_option maxRecDepth 65536 in
theorem w_consts : constsHeld consts_1 about1 := Jvm.Lit.constsHeldB_iff.mp (by decide +kernel)
theorem w_applies : (headSpec (Jvm.Cond.code x code maxLocals ret :: tables_1) room_1).applies x e0.platform about1 = true :=
  (Spec.applies_iff w_frames).mpr ⟨w_running, w_runnable, w_alone, w_named, w_hears, w_ripe, w_room, w_tables⟩
theorem atStart : AtStart classFile x code maxLocals ret World_1 tables_1 room_1 Calls_1 rest_1 Pre_1 launch0 p0 e0 about1 theMethod args0 below0 :=
  ⟨lists_1, trivial, launch0.admits_env _ _ _, launch0.least_env, fairChoices_fair.cas, fairChoices_fair.clock, w_frames, w_args, w_heap, w_applies, ⟨w_consts, trivial⟩, w_rest, w_case⟩
end start1
theorem witness_1 : WitnessClaimed_1 := ⟨start1.p0, start1.e0, start1.about1, start1.theMethod, start1.args0, start1.below0, start1.atStart⟩
end Jvm.Pilot.@@N@@
