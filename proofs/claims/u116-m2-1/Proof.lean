import JvmDerived
import JvmDerived.Pilot.@@N@@Statement
import JvmDerived.Pilot.@@N@@Code
set_option linter.unusedVariables false
set_option linter.unusedSimpArgs false
namespace Jvm.RoadKit
open Sem ClassFile Op Lib Jvm.Stand Jvm.Free Jvm.LawKit
section New
variable {p : Program} {l : Launch} {e : Env} {R : Room} {s : State} {m : MethodId} {args : Array Value} {below : List Frame} {meth : Method} {c : Code} {T : State} {locs : List Loc} {cells slots : Nat}
theorem retI (X : Stand p l e R s m args below meth c T locs cells slots) (hx : p.tables.exec = Jvm.exec) {pc : Nat} {Ls : Array Slot} {z : Int32} {rest : List Value} (hret : meth.sig.returnType = some .int) (hd : decode c.code pc = .ok (.ireturn, 1)) {fs : List Frame}
    (hl : ∀ (f : JFrame) (acts : List Action), f.method = m → f.locked = none → f.entered = [] → (doReturn e (T.setTop f) acts (some (.int z))).1 = T.setFrames fs) : Steps p.tables e below (T.setTop (mkF m pc Ls (.int z :: rest))) (T.setFrames fs) := by
  have hm' : T.vm.method? m = some meth := X.method'
  have hn : narrow .int (.int z) = .int z := rfl
  show Steps p.tables e below (T.setTop { method := m, pc := pc, locals := Ls, stack := _ :: rest, locked := none }) _
  jvm_step X.here [X.here.top, hx, hd, hm', hret, hn]
  first | (intro acts; rw [hl _ acts rfl rfl rfl]) | rw [hl _ _ rfl rfl rfl]
  exact Steps.refl _
end New
end Jvm.RoadKit
namespace Jvm.Pilot.@@N@@
open Jvm Jvm.ClassFile Sem Op Lib Jvm.Free Jvm.Stand Jvm.LawKit Jvm.RoadKit Bundle Jvm.Pilot.@@N@@.Jvm.D
section OwnLayer
variable {p : Program} {l : Launch} {e : Env} {R : Room} {s : State} {m : MethodId} {args : Array Value} {below : List Frame} {meth : Method} {c : Code} {Z : State} {a0 : Array Value} {EL : List (String × Nat)} {n0 : Nat} {kn wd : Bool} {own : String} {bytes : ByteArray} {ml : Nat} {ws : List Addr} {T : State} {h : Heap} {k n : Nat} {Φ : Outcome → State → Prop} {pc pc' : Nat} {Ls : Array Slot} {st rest : List Value}
theorem known_vm {vm0 : Vm} (hW : s.Warmed39 vm0) (q : s.vm.MethodsKnown ∧ s.vm.FramesKnown below) : vm0.MethodsKnown ∧ vm0.FramesKnown below := ⟨Vm.MethodsKnown.alikeC hW.alike q.1, Vm.FramesKnown.alikeC hW.alike q.2⟩
/-- where a walk stands: all that its steps ask -/
def Wk (p : Program) (l : Launch) (e : Env) (R : Room) (s : State) (m : MethodId) (args : Array Value) (below : List Frame) (meth : Method) (c : Code) (Z : State) (a0 : Array Value) (EL : List (String × Nat)) (n0 : Nat) (kn wd : Bool) (own : String) (bytes : ByteArray) (ml : Nat) (ws : List Addr) (T : State) (h : Heap) (k n : Nat) : Prop :=
  (p.tables.exec = Jvm.exec ∧ c.code = bytes ∧ c.maxLocals = ml ∧ Z.vm.findClass own = some m.cls ∧ EW Z a0 EL ∧ meth.locks = false ∧ (kn = true → s.vm.MethodsKnown ∧ s.vm.FramesKnown below)) ∧
  ∃ (vm0 : Vm) (k0 : Nat) (locs : List Loc), Stand p l e R (s.setVm vm0) m args below meth c T locs k n ∧ T.heap = h ∧ s.Since vm0 k0 ∧ k0 ≤ h.size ∧ Z.Warmed39 vm0 ∧ CHr Z EL s.vm s.heap vm0 h ∧ (∀ x ∈ ws, x < h.size ∧ Safe Z EL vm0 h x) ∧ Fr n0 locs ∧ (wd = false → s.WarmedH vm0) ∧ Old Z n0 h
/-- from this frame the method comes to its end, and Φ holds there -/
def Go (p : Program) (e : Env) (below : List Frame) (Φ : Outcome → State → Prop) (T : State) (f : JFrame) : Prop := ∃ s₂ o, Steps p.tables e below (T.setTop f) s₂ ∧ s₂.status = .running ∧ Ended s₂ below o ∧ Φ o s₂
/-- what a contract promises -/
def Po (s : State) (Z : State) (EL : List (String × Nat)) (n0 : Nat) (wd : Bool) (rc rs : Nat) (Q : Option Value → Heap → Prop) (o : Outcome) (t : State) : Prop :=
  ∃ v L, o = .returned v ∧ Q v t.heap ∧ Fr n0 L ∧ CHr Z EL s.vm s.heap t.vm t.heap ∧ (wd = false → s.WarmedH t.vm) ∧ Old Z n0 t.heap ∧ ReturnedEndW s o t L rc rs
/-- a contract: the method y, called with these arguments at this heap -/
def Ct (l : Launch) (Z : State) (a0 : Array Value) (EL : List (String × Nat)) (n0 : Nat) (kn wd : Bool) (y : MethodName) (bytes : ByteArray) (ml : Nat) (ret : Option FieldType) (cs : List Jvm.Cond) (rm : Room) (ws : List Addr) (as' : Array Value) (h : Heap) (Q : Option Value → Heap → Prop) : Prop :=
  MetFree l y (head1 (Jvm.Cond.code y bytes ml ret :: cs) rm) (fun a U => a = as' ∧ Z.Warmed39 U.vm ∧ U.heap = h ∧ CHv Z EL U.vm h ∧ Old Z n0 h ∧ ∀ x ∈ ws, x < h.size ∧ Safe Z EL U.vm h x) (fun _ _ bl s _ => kn = true → s.vm.MethodsKnown ∧ s.vm.FramesKnown bl) (fun _ U o U' => Po U Z EL n0 wd rm.cells rm.slots Q o U')
theorem Go.back {f f' : JFrame} {T' : State} (hs : ∀ t, Steps p.tables e below (T'.setTop f') t → Steps p.tables e below (T.setTop f) t) (G : Go p e below Φ T' f') : Go p e below Φ T f := by
  obtain ⟨s₂, o, h1, h2⟩ := G
  exact ⟨s₂, o, hs _ h1, h2⟩
/-- a plain step -/
theorem g1 {f f' : JFrame} (W : Wk p l e R s m args below meth c Z a0 EL n0 kn wd own bytes ml ws T h k n) (hs : ∀ t, At T m c below → p.tables.exec = Jvm.exec → c.code = bytes → Steps p.tables e below (T.setTop f') t → Steps p.tables e below (T.setTop f) t) (G : Go p e below Φ T f') : Go p e below Φ T f := by
  obtain ⟨⟨hx, hb, -⟩, vm0, k0, locs, X, -⟩ := W
  exact G.back fun t => hs t X.here hx hb
/-- a step that reads the heap -/
theorem g2 {f f' : JFrame} (W : Wk p l e R s m args below meth c Z a0 EL n0 kn wd own bytes ml ws T h k n) (hs : ∀ (vm0 : Vm) (locs : List Loc), Stand p l e R (s.setVm vm0) m args below meth c T locs k n → p.tables.exec = Jvm.exec → c.code = bytes → Z.Warmed39 vm0 → T.heap = h → vm0.findClass own = some m.cls → ∀ t, Steps p.tables e below (T.setTop f') t → Steps p.tables e below (T.setTop f) t) (G : Go p e below Φ T f') : Go p e below Φ T f := by
  obtain ⟨⟨hx, hb, -, hO, -⟩, vm0, k0, locs, X, eT, -, -, hZ, -⟩ := W
  exact G.back (hs vm0 locs X hx hb hZ eT ((hZ.alike.findClass own _).trans hO))
/-- a step after which the state is another, the heap the same -/
theorem g3 {f f' : JFrame} (W : Wk p l e R s m args below meth c Z a0 EL n0 kn wd own bytes ml ws T h k n) (hs : ∀ (vm0 : Vm) (locs : List Loc), Stand p l e R (s.setVm vm0) m args below meth c T locs k n → p.tables.exec = Jvm.exec → c.code = bytes → c.maxLocals = ml → Z.Warmed39 vm0 → T.heap = h → vm0.findClass own = some m.cls → ∃ T', Stand p l e R (s.setVm vm0) m args below meth c T' locs k n ∧ T'.heap = h ∧ ∀ t, Steps p.tables e below (T'.setTop f') t → Steps p.tables e below (T.setTop f) t)
    (G : ∀ T', Wk p l e R s m args below meth c Z a0 EL n0 kn wd own bytes ml ws T' h k n → Go p e below Φ T' f') : Go p e below Φ T f := by
  obtain ⟨⟨hx, hb, hml, hO, hrest⟩, vm0, k0, locs, X, eT, hS, hk, hZ, hr⟩ := W
  obtain ⟨T', X', e', q⟩ := hs vm0 locs X hx hb hml hZ eT ((hZ.alike.findClass own _).trans hO)
  exact (G T' ⟨⟨hx, hb, hml, hO, hrest⟩, vm0, k0, locs, X', e', hS, hk, hZ, hr⟩).back q
/-- the object may be written: it is no booked constant's -/
def Sf (Z : State) (EL : List (String × Nat)) (ws : List Addr) (h : Heap) (a : Addr) : Prop := a ∈ ws ∨ EL = [] ∨ (∃ C, Exa Z h a C ∧ C ≠ "java/lang/String" ∧ C ≠ "[B") ∨ (∃ cl ty, Arr Z h a cl ty ∧ ty ≠ .byte)
theorem Sf.safe {a : Addr} {vm0 : Vm} (hZ : Z.Warmed39 vm0) (hs : ∀ x ∈ ws, x < h.size ∧ Safe Z EL vm0 h x) (q : Sf Z EL ws h a) : Safe Z EL vm0 h a := by
  rcases q with q | rfl | ⟨C, E, h1, h2⟩ | ⟨cl, ty, A, ht⟩
  · exact (hs a q).2
  · intro B
    obtain ⟨p, hp, -⟩ := B
    cases hp
  · exact Safe.exa hZ.alike E h1 h2
  · exact Safe.arr hZ.alike A ht
/-- a step that writes one place -/
theorem g4 {f f' : JFrame} {a : Addr} {sl : Nat} {v : Value} (W : Wk p l e R s m args below meth c Z a0 EL n0 kn wd own bytes ml ws T h k n) (hn : n0 ≤ a) (hsf : Sf Z EL ws h a)
    (hs : ∀ (vm0 : Vm) (locs : List Loc), Stand p l e R (s.setVm vm0) m args below meth c T locs k n → p.tables.exec = Jvm.exec → c.code = bytes → Z.Warmed39 vm0 → T.heap = h → vm0.findClass own = some m.cls → ∃ T' h', Stand p l e R (s.setVm vm0) m args below meth c T' (locs ++ [⟨a, sl⟩]) k n ∧ T'.heap = h' ∧ Wr h h' a sl v ∧ ∀ t, Steps p.tables e below (T'.setTop f') t → Steps p.tables e below (T.setTop f) t)
    (G : ∀ T' h', Wk p l e R s m args below meth c Z a0 EL n0 kn wd own bytes ml ws T' h' k n → Wr h h' a sl v → Go p e below Φ T' f') : Go p e below Φ T f := by
  obtain ⟨⟨hx, hb, hml, hO, hrest⟩, vm0, k0, locs, X, eT, hS, hk, hZ, hC, hws, hF, hwd, hOl⟩ := W
  obtain ⟨T', h', X', e', Wr', q⟩ := hs vm0 locs X hx hb hZ eT ((hZ.alike.findClass own _).trans hO)
  have sa := hsf.safe hZ hws
  exact (G T' h' ⟨⟨hx, hb, hml, hO, hrest⟩, vm0, k0, _, X', e', hS, by rw [Wr'.size]; exact hk, hZ, hC.trans (CHr.wr Wr' sa hC.1), fun x hx' => ⟨by rw [Wr'.size]; exact (hws x hx').1, Safe.wr Wr' sa hC.1 (hws x hx').2⟩, Fr.snoc X' hF hn, hwd, hOl.wr Wr' hn⟩ Wr').back q
/-- a step that makes one cell -/
theorem g5 {f : JFrame} {f' : Addr → JFrame} {nc : Nat} {P : Heap → Addr → Prop} (W : Wk p l e R s m args below meth c Z a0 EL n0 kn wd own bytes ml ws T h k n) (hlt : ∀ h', P h' h.size → h.size < h'.size)
    (hs : ∀ (vm0 : Vm) (locs : List Loc), Stand p l e R (s.setVm vm0) m args below meth c T locs k n → p.tables.exec = Jvm.exec → c.code = bytes → Z.Warmed39 vm0 → T.heap = h → vm0.findClass own = some m.cls → ∃ T' h', Stand p l e R (s.setVm vm0) m args below meth c T' locs (k + 1) (n + nc) ∧ T'.heap = h' ∧ Ext h h' ∧ P h' h.size ∧ ∀ t, Steps p.tables e below (T'.setTop (f' h.size)) t → Steps p.tables e below (T.setTop f) t)
    (G : ∀ T' h' a, a = h.size → Wk p l e R s m args below meth c Z a0 EL n0 kn wd own bytes ml (a :: ws) T' h' (k + 1) (n + nc) → Ext h h' → P h' a → Go p e below Φ T' (f' a)) : Go p e below Φ T f := by
  obtain ⟨⟨hx, hb, hml, hO, hrest⟩, vm0, k0, locs, X, eT, hS, hk, hZ, hC, hws, hF, hwd, hOl⟩ := W
  obtain ⟨T', h', X', e', E, P', q⟩ := hs vm0 locs X hx hb hZ eT ((hZ.alike.findClass own _).trans hO)
  refine (G T' h' h.size rfl ⟨⟨hx, hb, hml, hO, hrest⟩, vm0, k0, _, X', e', hS, Nat.le_trans hk E.1, hZ, hC.trans (CHr.ext E hC.1), fun x hx' => ?_, hF, hwd, hOl.ext E⟩ E P').back q
  rcases List.mem_cons.mp hx' with rfl | hx'
  · exact ⟨hlt h' P', Safe.ext E hC.1 (Safe.new (Nat.le_refl _))⟩
  · exact ⟨Nat.lt_of_lt_of_le (hws x hx').1 E.1, Safe.ext E hC.1 (hws x hx').2⟩
theorem Wk.size0 (W : Wk p l e R s m args below meth c Z a0 EL n0 kn wd own bytes ml ws T h k n) : s.heap.size ≤ h.size := by
  obtain ⟨-, vm0, k0, locs, X, eT, hS, hk, hZ, hC, -⟩ := W
  exact hC.2.1
theorem Wk.old (W : Wk p l e R s m args below meth c Z a0 EL n0 kn wd own bytes ml ws T h k n) : Old Z n0 h := by
  obtain ⟨-, vm0, k0, locs, X, eT, hS, hk, hZ, hC, hws, hF, hwd, hOl⟩ := W
  exact hOl
theorem Wk.lt {a : Addr} (W : Wk p l e R s m args below meth c Z a0 EL n0 kn wd own bytes ml ws T h k n) (q : a ∈ ws) : a < h.size := by
  obtain ⟨-, vm0, k0, locs, X, eT, hS, hk, hZ, hC, hws, -⟩ := W
  exact (hws a q).1
theorem Wk.n0le (W : Wk p l e R s m args below meth c Z a0 EL n0 kn wd own bytes ml ws T h k n) : n0 ≤ h.size := W.old.1 ▸ W.old.2.1
theorem Wk.less {ws' : List Addr} (W : Wk p l e R s m args below meth c Z a0 EL n0 kn wd own bytes ml ws T h k n) (hq : ∀ x ∈ ws', x ∈ ws) : Wk p l e R s m args below meth c Z a0 EL n0 kn wd own bytes ml ws' T h k n := by
  obtain ⟨h1, vm0, k0, locs, X, eT, hS, hk, hZ, hC, hws, hF, hwd⟩ := W
  exact ⟨h1, vm0, k0, locs, X, eT, hS, hk, hZ, hC, fun x hx => hws x (hq x hx), hF, hwd⟩
theorem Wk.up {k' n' : Nat} (W : Wk p l e R s m args below meth c Z a0 EL n0 kn wd own bytes ml ws T h k n) (hk' : k ≤ k') (hn' : n ≤ n') : Wk p l e R s m args below meth c Z a0 EL n0 kn wd own bytes ml ws T h k' n' := by
  obtain ⟨h1, vm0, k0, locs, X, r⟩ := W
  exact ⟨h1, vm0, k0, locs, X.more hk' hn', r⟩
/-- getfield -/
theorem gGetF {R0 O nm d host : String} {index : Nat} {a : Addr} {v : Value} (W : Wk p l e R s m args below meth c Z a0 EL n0 kn wd own bytes ml ws T h k n) (w : (Jvm.Cond.fieldLink own index R0 nm d).before a0 Z = true ∨ (Jvm.Cond.fieldLinkNest own index R0 nm d host).before a0 Z = true) (via : Via Z R0 O nm d) (F : Fld Z h a O nm d v)
    (hd : decode bytes pc = .ok (.getfield index, 3)) (hp : pc + 3 = pc') (G : ∀ T', Wk p l e R s m args below meth c Z a0 EL n0 kn wd own bytes ml ws T' h k n → Go p e below Φ T' (mkF m pc' Ls (v :: rest))) : Go p e below Φ T (mkF m pc Ls (.ref a :: rest)) := by
  subst hp
  exact g3 W (fun vm0 locs X hx hb' _ hZ eT hO => getF X hx hZ hO w via eT F (g := mkF m pc Ls (.ref a :: rest)) rfl rfl (hb hb' hd)) G
/-- getstatic -/
theorem gGetS {R0 O nm d host : String} {index : Nat} {v : Value} (W : Wk p l e R s m args below meth c Z a0 EL n0 kn wd own bytes ml ws T h k n) (w : (Jvm.Cond.fieldLink own index R0 nm d).before a0 Z = true ∨ (Jvm.Cond.fieldLinkNest own index R0 nm d host).before a0 Z = true) (via : Via Z R0 O nm d) (F : Sta Z h O nm d v)
    (hd : decode bytes pc = .ok (.getstatic index, 3)) (hp : pc + 3 = pc') (G : ∀ T', Wk p l e R s m args below meth c Z a0 EL n0 kn wd own bytes ml ws T' h k n → Go p e below Φ T' (mkF m pc' Ls (v :: st))) : Go p e below Φ T (mkF m pc Ls st) := by
  subst hp
  exact g3 W (fun vm0 locs X hx hb' _ hZ eT hO => getS2 X hx hZ hO w via eT F (g := mkF m pc Ls st) rfl (hb hb' hd)) G
/-- checkcast of an object -/
theorem gCast {K : String} {index : Nat} {a : Addr} (W : Wk p l e R s m args below meth c Z a0 EL n0 kn wd own bytes ml ws T h k n) (w : (Jvm.Cond.classLink own index K).before a0 Z = true) (F : Ins Z h a K true)
    (hd : decode bytes pc = .ok (.checkcast index, 3)) (hp : pc + 3 = pc') (G : ∀ T', Wk p l e R s m args below meth c Z a0 EL n0 kn wd own bytes ml ws T' h k n → Go p e below Φ T' (mkF m pc' Ls (.ref a :: rest))) : Go p e below Φ T (mkF m pc Ls (.ref a :: rest)) := by
  subst hp
  exact g3 W (fun vm0 locs X hx hb' _ hZ eT hO => castY X hx hZ hO w eT F (g := mkF m pc Ls (.ref a :: rest)) rfl rfl (hb hb' hd)) G
/-- instanceof, yes -/
theorem gInsY {K : String} {index : Nat} {a : Addr} (W : Wk p l e R s m args below meth c Z a0 EL n0 kn wd own bytes ml ws T h k n) (w : (Jvm.Cond.classLink own index K).before a0 Z = true) (F : Ins Z h a K true)
    (hd : decode bytes pc = .ok (.instanceof index, 3)) (hp : pc + 3 = pc') (G : ∀ T', Wk p l e R s m args below meth c Z a0 EL n0 kn wd own bytes ml ws T' h k n → Go p e below Φ T' (mkF m pc' Ls (.int 1 :: rest))) : Go p e below Φ T (mkF m pc Ls (.ref a :: rest)) := by
  subst hp
  exact g3 W (fun vm0 locs X hx hb' _ hZ eT hO => instY X hx hZ hO w eT F (g := mkF m pc Ls (.ref a :: rest)) rfl rfl (hb hb' hd)) G
/-- putfield -/
theorem gPutF {R0 O nm d host C : String} {index kk : Nat} {ty : FieldType} {a : Addr} {v old : Value} (W : Wk p l e R s m args below meth c Z a0 EL n0 kn wd own bytes ml ws T h k n) (hn : n0 ≤ a) (hsf : Sf Z EL ws h a) (w : (Jvm.Cond.fieldLink own index R0 nm d).before a0 Z = true ∨ (Jvm.Cond.fieldLinkNest own index R0 nm d host).before a0 Z = true) (via : Via Z R0 O nm d) (F : Fld Z h a O nm d old) (E : Exa Z h a C)
    (L : (Jvm.Cond.lays C O nm d).before a0 Z = true ∨ ((Jvm.Cond.laysFinal C O nm d).before a0 Z = true ∧ own = O ∧ meth.name = "<init>")) (wi : (Jvm.Cond.instantiable C kk).before a0 Z = true) (hty : parseFieldDescriptor d = some ty) (hnr : narrow ty v = v) (hf : fits ty v = true)
    (hd : decode bytes pc = .ok (.putfield index, 3)) (hp : pc + 3 = pc') (G : ∀ T' h', Wk p l e R s m args below meth c Z a0 EL n0 kn wd own bytes ml ws T' h' k n → Wr h h' a (Jvm.RoadKit.slotOf Z O nm d) v → Go p e below Φ T' (mkF m pc' Ls rest)) : Go p e below Φ T (mkF m pc Ls (v :: .ref a :: rest)) := by
  subst hp
  exact g4 W hn hsf (fun vm0 locs X hx hb' hZ eT hO => putF X hx hZ hO w via eT F E L wi hty hnr hf (g := mkF m pc Ls (v :: .ref a :: rest)) rfl rfl (hb hb' hd)) G
theorem gPutFN {R0 O nm d C : String} {index kk : Nat} {ty : FieldType} {a : Addr} {v v' old : Value} (W : Wk p l e R s m args below meth c Z a0 EL n0 kn wd own bytes ml ws T h k n) (hn : n0 ≤ a) (hsf : Sf Z EL ws h a) (w : (Jvm.Cond.fieldLink own index R0 nm d).before a0 Z = true) (via : Via Z R0 O nm d) (F : Fld Z h a O nm d old) (E : Exa Z h a C)
    (L : (Jvm.Cond.lays C O nm d).before a0 Z = true ∨ ((Jvm.Cond.laysFinal C O nm d).before a0 Z = true ∧ own = O ∧ meth.name = "<init>")) (wi : (Jvm.Cond.instantiable C kk).before a0 Z = true) (hty : parseFieldDescriptor d = some ty) (hnr : narrow ty v = v') (hf : fits ty v' = true)
    (hd : decode bytes pc = .ok (.putfield index, 3)) (hp : pc + 3 = pc') (G : ∀ T' h', Wk p l e R s m args below meth c Z a0 EL n0 kn wd own bytes ml ws T' h' k n → Wr h h' a (Jvm.RoadKit.slotOf Z O nm d) v' → Go p e below Φ T' (mkF m pc' Ls rest)) : Go p e below Φ T (mkF m pc Ls (v :: .ref a :: rest)) := by
  subst hp
  exact g4 W hn hsf (fun vm0 locs X hx hb' hZ eT hO => putFN X hx hZ hO w via eT F E L wi hty hnr hf (g := mkF m pc Ls (v :: .ref a :: rest)) rfl rfl (hb hb' hd)) G
/-- new -/
theorem gNew {C : String} {index nc : Nat} (W : Wk p l e R s m args below meth c Z a0 EL n0 kn wd own bytes ml ws T h k n) (w : (Jvm.Cond.classLink own index C).before a0 Z = true) (wi : (Jvm.Cond.instantiable C nc).before a0 Z = true) (wz : (Jvm.Cond.initialized C).before a0 Z = true)
    (hd : decode bytes pc = .ok (.new index, 3)) (hp : pc + 3 = pc') (hc : k + 1 ≤ R.cells) (hl : n + nc ≤ R.slots)
    (G : ∀ T' h' a, a = h.size → Wk p l e R s m args below meth c Z a0 EL n0 kn wd own bytes ml (a :: ws) T' h' (k + 1) (n + nc) → Ext h h' → (Exa Z h' a C ∧ (∀ {O nm d : String} {ty : FieldType}, Laid Z a0 C O nm d → parseFieldDescriptor d = some ty → Fld Z h' a O nm d (defaultValue ty)) ∧ Unt h' a) → Go p e below Φ T' (mkF m pc' Ls (.ref a :: st))) : Go p e below Φ T (mkF m pc Ls st) := by
  subst hp
  refine g5 W (f' := fun a => mkF m (pc + 3) Ls (.ref a :: st)) (P := fun h' a => Exa Z h' a C ∧ (∀ {O nm d : String} {ty : FieldType}, Laid Z a0 C O nm d → parseFieldDescriptor d = some ty → Fld Z h' a O nm d (defaultValue ty)) ∧ Unt h' a) (fun h' q => q.1.lt) (fun vm0 locs X hx hb' hZ eT hO => ?_) G
  obtain ⟨T', h', X', e', E, A, D, U, q⟩ := newO X hx hZ hO w wi wz eT (g := mkF m pc Ls st) rfl (hb hb' hd) hc hl
  exact ⟨T', h', X', e', E, ⟨A, D, U⟩, q⟩
/-- newarray -/
theorem gNewP {aty : ArrayType} {z : Int32} {cap : Nat} {ad : String} (W : Wk p l e R s m args below meth c Z a0 EL n0 kn wd own bytes ml ws T h k n) (w : (Jvm.Cond.arrayClass (newarray.typeOf aty)).before a0 Z = true) (had : "[" ++ (newarray.typeOf aty).toString = ad)
    (hd : decode bytes pc = .ok (.newarray aty, 2)) (hp : pc + 2 = pc') (hz : ¬ z < 0) (hcap : z.toNatClampNeg ≤ cap) (hb8 : cap * 8 ≤ 536870912) (hc : k + 1 ≤ R.cells) (hl : n + cap ≤ R.slots)
    (G : ∀ T' h' a, a = h.size → Wk p l e R s m args below meth c Z a0 EL n0 kn wd own bytes ml (a :: ws) T' h' (k + 1) (n + cap) → Ext h h' → (∃ kA, Arv Z h' a kA (newarray.typeOf aty) z [] (defaultValue (newarray.typeOf aty)) ∧ Exa Z h' a ad) → Go p e below Φ T' (mkF m pc' Ls (.ref a :: rest))) : Go p e below Φ T (mkF m pc Ls (.int z :: rest)) := by
  subst hp
  refine g5 W (f' := fun a => mkF m (pc + 2) Ls (.ref a :: rest)) (P := fun h' a => ∃ kA, Arv Z h' a kA (newarray.typeOf aty) z [] (defaultValue (newarray.typeOf aty)) ∧ Exa Z h' a ad) (fun h' q => by obtain ⟨_, q, -⟩ := q; exact q.lt) (fun vm0 locs X hx hb' hZ eT hO => ?_) G
  obtain ⟨T', h', cA, X', e', E, A, D, q⟩ := newPE X hx hZ w eT (g := mkF m pc Ls (.int z :: rest)) rfl (hb hb' hd) rfl hz hcap hb8 hc hl had
  exact ⟨T', h', X', e', E, ⟨cA, Arv.new A hz, D⟩, q⟩
/-- anewarray -/
theorem gNewR {C : String} {index : Nat} {z : Int32} {cap : Nat} {ad : String} (W : Wk p l e R s m args below meth c Z a0 EL n0 kn wd own bytes ml ws T h k n) (w1 : (Jvm.Cond.classLink own index C).before a0 Z = true) (w2 : (Jvm.Cond.arrayOver (.object C)).before a0 Z = true) (had : "[" ++ (FieldType.object C).toString = ad)
    (hd : decode bytes pc = .ok (.anewarray index, 3)) (hp : pc + 3 = pc') (hz : ¬ z < 0) (hcap : z.toNatClampNeg ≤ cap) (hb8 : cap * 8 ≤ 536870912) (hc : k + 1 ≤ R.cells) (hl : n + cap ≤ R.slots)
    (G : ∀ T' h' a, a = h.size → Wk p l e R s m args below meth c Z a0 EL n0 kn wd own bytes ml (a :: ws) T' h' (k + 1) (n + cap) → Ext h h' → (∃ kA, Arv Z h' a kA (.object C) z [] .null ∧ Exa Z h' a ad ∧ Ovr Z kA C) → Go p e below Φ T' (mkF m pc' Ls (.ref a :: rest))) : Go p e below Φ T (mkF m pc Ls (.int z :: rest)) := by
  subst hp
  refine g5 W (f' := fun a => mkF m (pc + 3) Ls (.ref a :: rest)) (P := fun h' a => ∃ kA, Arv Z h' a kA (.object C) z [] .null ∧ Exa Z h' a ad ∧ Ovr Z kA C) (fun h' q => by obtain ⟨_, q, -⟩ := q; exact q.lt) (fun vm0 locs X hx hb' hZ eT hO => ?_) G
  obtain ⟨T', h', cA, X', e', E, A, D, O, q⟩ := newRE X hx hZ hO w1 w2 eT (g := mkF m pc Ls (.int z :: rest)) rfl (hb hb' hd) rfl hz hcap hb8 hc hl had
  exact ⟨T', h', X', e', E, ⟨cA, Arv.new A hz, D, O⟩, q⟩
/-- Object.<init> -/
theorem gInitO {index : Nat} {a : Addr} {wt : Nat} (W : Wk p l e R s m args below meth c Z a0 EL n0 kn wd own bytes ml ws T h k n) (w1 : (Jvm.Cond.methodLink own index Lib.objectInit).before a0 Z = true) (w2 : (Jvm.Cond.instanceMethod Lib.objectInit).before a0 Z = true) (w3 : (Jvm.Cond.code Lib.objectInit ⟨#[0xb1]⟩ 1 none).before a0 Z = true)
    (hd : decode bytes pc = .ok (.invokespecial index, 3)) (hp : pc + 3 = pc') (hsz : Ls.size = ml) (hf : 1 ≤ R.frames) (hW : (rest.map fun v => v.category).sum ≤ wt) (hl : wt + 12 ≤ R.locals)
    (G : ∀ T', Wk p l e R s m args below meth c Z a0 EL n0 kn wd own bytes ml ws T' h k n → Go p e below Φ T' (mkF m pc' Ls rest)) : Go p e below Φ T (mkF m pc Ls (.ref a :: rest)) := by
  subst hp
  exact g3 W (fun vm0 locs X hx hb' hml hZ eT hO => initO X hx hZ hO w1 w2 w3 eT (g := mkF m pc Ls (.ref a :: rest)) rfl (hsz.trans hml.symm) rfl (hb hb' hd) hf (W := wt) (by simpa using hW) hl) G
/-- a store into an array -/
theorem gStC {a : Addr} {kA : ClassId} {z j x : Int32} {vs : List Value} {dv : Value} (W : Wk p l e R s m args below meth c Z a0 EL n0 kn wd own bytes ml ws T h k n) (hn : n0 ≤ a) (A : Arv Z h a kA .char z vs dv) (hj : ¬ j < 0 ∧ j < z) {i : Nat} (hi : j.toNatClampNeg = i) (hv : i < vs.length)
    (hd : decode bytes pc = .ok (.castore, 1)) (hp : pc + 1 = pc') (G : ∀ T' h', Wk p l e R s m args below meth c Z a0 EL n0 kn wd own bytes ml ws T' h' k n → Keep h h' [a] → Arv Z h' a kA .char z (vs.set i (.int (nar .char x))) dv → Go p e below Φ T' (mkF m pc' Ls rest)) : Go p e below Φ T (mkF m pc Ls (.int x :: .int j :: .ref a :: rest)) := by
  subst hp
  obtain ⟨cl, Ar, q1, S, q3, H, Gf⟩ := A
  exact g4 W hn (Or.inr (Or.inr (Or.inr ⟨cl, .char, Ar, by decide⟩))) (fun vm0 locs X hx hb' hZ eT hO => stC X hx hZ eT Ar (j := j) (x := x) (inb_of S hj) (g := mkF m pc Ls (.int x :: .int j :: .ref a :: rest)) rfl rfl (hb hb' hd))
    (fun T' h' W' w => G T' h' W' (Keep.of_wr w) (Arv.set Ar q1 S q3 H Gf (fits_nar_char x) w i hi hv))
theorem gStB {a : Addr} {kA : ClassId} {z j x : Int32} {vs : List Value} {dv : Value} (W : Wk p l e R s m args below meth c Z a0 EL n0 kn wd own bytes ml ws T h k n) (hn : n0 ≤ a) (hsf : a ∈ ws) (A : Arv Z h a kA .byte z vs dv) (hj : ¬ j < 0 ∧ j < z) {i : Nat} (hi : j.toNatClampNeg = i) (hv : i < vs.length)
    (hd : decode bytes pc = .ok (.bastore, 1)) (hp : pc + 1 = pc') (G : ∀ T' h', Wk p l e R s m args below meth c Z a0 EL n0 kn wd own bytes ml ws T' h' k n → Keep h h' [a] → Arv Z h' a kA .byte z (vs.set i (.int x.toInt8.toInt32)) dv → Go p e below Φ T' (mkF m pc' Ls rest)) : Go p e below Φ T (mkF m pc Ls (.int x :: .int j :: .ref a :: rest)) := by
  subst hp
  obtain ⟨cl, Ar, q1, S, q3, H, Gf⟩ := A
  exact g4 W hn (Or.inl hsf) (fun vm0 locs X hx hb' hZ eT hO => stB X hx hZ eT Ar (j := j) (x := x) (inb_of S hj) (g := mkF m pc Ls (.int x :: .int j :: .ref a :: rest)) rfl rfl (hb hb' hd))
    (fun T' h' W' w => G T' h' W' (Keep.of_wr w) (Arv.set Ar q1 S q3 H Gf (fits_nar_byte x) w i hi hv))
theorem gStI {a : Addr} {kA : ClassId} {z j x : Int32} {vs : List Value} {dv : Value} (W : Wk p l e R s m args below meth c Z a0 EL n0 kn wd own bytes ml ws T h k n) (hn : n0 ≤ a) (A : Arv Z h a kA .int z vs dv) (hj : ¬ j < 0 ∧ j < z) {i : Nat} (hi : j.toNatClampNeg = i) (hv : i < vs.length)
    (hd : decode bytes pc = .ok (.iastore, 1)) (hp : pc + 1 = pc') (G : ∀ T' h', Wk p l e R s m args below meth c Z a0 EL n0 kn wd own bytes ml ws T' h' k n → Keep h h' [a] → Arv Z h' a kA .int z (vs.set i (.int x)) dv → Go p e below Φ T' (mkF m pc' Ls rest)) : Go p e below Φ T (mkF m pc Ls (.int x :: .int j :: .ref a :: rest)) := by
  subst hp
  obtain ⟨cl, Ar, q1, S, q3, H, Gf⟩ := A
  exact g4 W hn (Or.inr (Or.inr (Or.inr ⟨cl, .int, Ar, by decide⟩))) (fun vm0 locs X hx hb' hZ eT hO => stI X hx hZ eT Ar (j := j) (x := x) (inb_of S hj) (g := mkF m pc Ls (.int x :: .int j :: .ref a :: rest)) rfl rfl (hb hb' hd))
    (fun T' h' W' w => G T' h' W' (Keep.of_wr w) (Arv.set Ar q1 S q3 H Gf rfl w i hi hv))
theorem gStJ {a : Addr} {kA : ClassId} {z j : Int32} {x : Int64} {vs : List Value} {dv : Value} (W : Wk p l e R s m args below meth c Z a0 EL n0 kn wd own bytes ml ws T h k n) (hn : n0 ≤ a) (A : Arv Z h a kA .long z vs dv) (hj : ¬ j < 0 ∧ j < z) {i : Nat} (hi : j.toNatClampNeg = i) (hv : i < vs.length)
    (hd : decode bytes pc = .ok (.lastore, 1)) (hp : pc + 1 = pc') (G : ∀ T' h', Wk p l e R s m args below meth c Z a0 EL n0 kn wd own bytes ml ws T' h' k n → Keep h h' [a] → Arv Z h' a kA .long z (vs.set i (.long x)) dv → Go p e below Φ T' (mkF m pc' Ls rest)) : Go p e below Φ T (mkF m pc Ls (.long x :: .int j :: .ref a :: rest)) := by
  subst hp
  obtain ⟨cl, Ar, q1, S, q3, H, Gf⟩ := A
  exact g4 W hn (Or.inr (Or.inr (Or.inr ⟨cl, .long, Ar, by decide⟩))) (fun vm0 locs X hx hb' hZ eT hO => stJ X hx hZ eT Ar (j := j) (x := x) (inb_of S hj) (g := mkF m pc Ls (.long x :: .int j :: .ref a :: rest)) rfl rfl (hb hb' hd))
    (fun T' h' W' w => G T' h' W' (Keep.of_wr w) (Arv.set Ar q1 S q3 H Gf rfl w i hi hv))
/-- what an array holds at a place -/
theorem Arv.look {a : Addr} {kA : ClassId} {ty : FieldType} {z j : Int32} {vs : List Value} {dv v : Value} (A : Arv Z h a kA ty z vs dv) (hj : ¬ j < 0 ∧ j < z) (hv : vs.getD j.toNatClampNeg dv = v) : ∃ cl : Cell, Arr Z h a cl ty ∧ ¬ (j < 0 ∨ cl.slots.size ≤ j.toNatClampNeg) ∧ cl.slots[j.toNatClampNeg]? = some v := by
  obtain ⟨cl, Ar, q1, S, q3, H, Gf⟩ := A
  exact ⟨cl, Ar, inb_of S hj, H.at (inb_of S hj) hv⟩
theorem gLdC {a : Addr} {kA : ClassId} {z j : Int32} {vs : List Value} {dv v : Value} (W : Wk p l e R s m args below meth c Z a0 EL n0 kn wd own bytes ml ws T h k n) (A : Arv Z h a kA .char z vs dv) (hj : ¬ j < 0 ∧ j < z) (hv : vs.getD j.toNatClampNeg dv = v)
    (hd : decode bytes pc = .ok (.caload, 1)) (hp : pc + 1 = pc') (G : Go p e below Φ T (mkF m pc' Ls (v :: rest))) : Go p e below Φ T (mkF m pc Ls (.int j :: .ref a :: rest)) := by
  subst hp
  obtain ⟨cl, Ar, i1, i2⟩ := Arv.look A hj hv
  exact g2 W (fun vm0 locs X hx hb' hZ eT hO t q => X.caload hx (by rw [eT]; exact Ar.1) (State.isArrayOf_alike hZ.alike Ar.2.1) Ar.2.2 i1 i2 (g := mkF m pc Ls (.int j :: .ref a :: rest)) rfl rfl (hb hb' hd) t q) G
theorem gLdB {a : Addr} {kA : ClassId} {z j : Int32} {vs : List Value} {dv v : Value} (W : Wk p l e R s m args below meth c Z a0 EL n0 kn wd own bytes ml ws T h k n) (A : Arv Z h a kA .byte z vs dv) (hj : ¬ j < 0 ∧ j < z) (hv : vs.getD j.toNatClampNeg dv = v)
    (hd : decode bytes pc = .ok (.baload, 1)) (hp : pc + 1 = pc') (G : Go p e below Φ T (mkF m pc' Ls (v :: rest))) : Go p e below Φ T (mkF m pc Ls (.int j :: .ref a :: rest)) := by
  subst hp
  obtain ⟨cl, Ar, i1, i2⟩ := Arv.look A hj hv
  exact g2 W (fun vm0 locs X hx hb' hZ eT hO t q => X.baloadBytes hx (by rw [eT]; exact Ar.1) (State.isArrayOf_alike hZ.alike Ar.2.1) Ar.2.2 i1 i2 (g := mkF m pc Ls (.int j :: .ref a :: rest)) rfl rfl (hb hb' hd) t q) G
theorem gLdI {a : Addr} {kA : ClassId} {z j : Int32} {vs : List Value} {dv v : Value} (W : Wk p l e R s m args below meth c Z a0 EL n0 kn wd own bytes ml ws T h k n) (A : Arv Z h a kA .int z vs dv) (hj : ¬ j < 0 ∧ j < z) (hv : vs.getD j.toNatClampNeg dv = v)
    (hd : decode bytes pc = .ok (.iaload, 1)) (hp : pc + 1 = pc') (G : Go p e below Φ T (mkF m pc' Ls (v :: rest))) : Go p e below Φ T (mkF m pc Ls (.int j :: .ref a :: rest)) := by
  subst hp
  obtain ⟨cl, Ar, i1, i2⟩ := Arv.look A hj hv
  exact g2 W (fun vm0 locs X hx hb' hZ eT hO t q => X.iaload hx (by rw [eT]; exact Ar.1) (State.isArrayOf_alike hZ.alike Ar.2.1) Ar.2.2 i1 i2 (g := mkF m pc Ls (.int j :: .ref a :: rest)) rfl rfl (hb hb' hd) t q) G
theorem gLdJ {a : Addr} {kA : ClassId} {z j : Int32} {vs : List Value} {dv v : Value} (W : Wk p l e R s m args below meth c Z a0 EL n0 kn wd own bytes ml ws T h k n) (A : Arv Z h a kA .long z vs dv) (hj : ¬ j < 0 ∧ j < z) (hv : vs.getD j.toNatClampNeg dv = v)
    (hd : decode bytes pc = .ok (.laload, 1)) (hp : pc + 1 = pc') (G : Go p e below Φ T (mkF m pc' Ls (v :: rest))) : Go p e below Φ T (mkF m pc Ls (.int j :: .ref a :: rest)) := by
  subst hp
  obtain ⟨cl, Ar, i1, i2⟩ := Arv.look A hj hv
  exact g2 W (fun vm0 locs X hx hb' hZ eT hO t q => X.laload hx (by rw [eT]; exact Ar.1) (State.isArrayOf_alike hZ.alike Ar.2.1) Ar.2.2 i1 i2 (g := mkF m pc Ls (.int j :: .ref a :: rest)) rfl rfl (hb hb' hd) t q) G
theorem gLdA {a : Addr} {kA : ClassId} {ty : FieldType} {z j : Int32} {vs : List Value} {dv v : Value} (W : Wk p l e R s m args below meth c Z a0 EL n0 kn wd own bytes ml ws T h k n) (A : Arv Z h a kA ty z vs dv) (hty : ty.isReference = true) (hj : ¬ j < 0 ∧ j < z) (hv : vs.getD j.toNatClampNeg dv = v)
    (hd : decode bytes pc = .ok (.aaload, 1)) (hp : pc + 1 = pc') (G : Go p e below Φ T (mkF m pc' Ls (v :: rest))) : Go p e below Φ T (mkF m pc Ls (.int j :: .ref a :: rest)) := by
  subst hp
  obtain ⟨cl, Ar, i1, i2⟩ := Arv.look A hj hv
  exact g2 W (fun vm0 locs X hx hb' hZ eT hO t q => X.aaload hx (by rw [eT]; exact Ar.1) (State.isArrayOf_alike hZ.alike Ar.2.1) hty Ar.2.2 i1 i2 (g := mkF m pc Ls (.int j :: .ref a :: rest)) rfl rfl (hb hb' hd) t q) G
theorem gLen {a : Addr} {kA : ClassId} {ty : FieldType} {z : Int32} {vs : List Value} {dv : Value} (W : Wk p l e R s m args below meth c Z a0 EL n0 kn wd own bytes ml ws T h k n) (A : Arv Z h a kA ty z vs dv)
    (hd : decode bytes pc = .ok (.arraylength, 1)) (hp : pc + 1 = pc') (G : Go p e below Φ T (mkF m pc' Ls (.int z :: rest))) : Go p e below Φ T (mkF m pc Ls (.ref a :: rest)) := by
  subst hp
  obtain ⟨cl, Ar, q1, S, q3, H, Gf⟩ := A
  refine g2 W (fun vm0 locs X hx hb' hZ eT hO t q => X.arraylength hx (by rw [eT]; exact Ar.1) (State.isArrayOf_alike hZ.alike Ar.2.1) (g := mkF m pc Ls (.ref a :: rest)) rfl rfl (hb hb' hd) t ?_) G
  rw [len_of S q3]
  exact q
/-- ldc of a String constant that may be read -/
theorem gLdcS {index : Nat} {text : String} {vs : List Value} {z : Int32} {nn : Nat} (W : Wk p l e R s m args below meth c Z a0 EL n0 kn true own bytes ml ws T h k n) (w : (Jvm.Cond.stringLink own index text).before a0 Z = true) (wS : ∀ a ∈ Bundle.stringAtoms, a.before a0 Z = true) (hmem : (own, index) ∈ EL)
    (ht : (∀ c ∈ text.toList, c.toNat < 256) ∧ text.toList.map (fun c => Value.int (Jvm.Lit.byteI c.toNat.toUInt16)) = vs) (hz : ¬ z < 0) (hlz : z.toNatClampNeg = vs.length) (hd : decode bytes pc = .ok (.ldc index, 2)) (hp : pc + 2 = pc') (hn : 4 * text.toList.length ≤ nn) (hbig : nn ≤ 536870912) (hc : k + 2 ≤ R.cells) (hl : n + (nn + 4) ≤ R.slots)
    (G : ∀ T' h' a b kB, Wk p l e R s m args below meth c Z a0 EL n0 kn true own bytes ml ws T' h' (k + 2) (n + (nn + 4)) → Ext h h' → Exa Z h' a "java/lang/String" → Fld Z h' a "java/lang/String" "coder" "B" (.int 0) → Fld Z h' a "java/lang/String" "value" "[B" (.ref b) → Arv Z h' b kB .byte z vs (.int 0) → (∀ x ∈ ws, x ≠ a ∧ x ≠ b) → Go p e below Φ T' (mkF m pc' Ls (.ref a :: st))) : Go p e below Φ T (mkF m pc Ls st) := by
  subst hp
  obtain ⟨⟨hx, hb', hml, hO, hE, hrest⟩, vm0, k0, locs, X, eT, hS, hk, hZ, hC, hws, hF, hwd, hOl⟩ := W
  obtain ⟨a, T', h', k1, b, kB, X', e', E, hS', hk', hZ', -, A, F1, F2, V, -, -, hC', -, hne, q⟩ := ldcCH X hx hZ ((hZ.alike.findClass own _).trans hO) w wS eT hS hk hE hmem hC.1 ht hz hlz (g := mkF m pc Ls st) rfl (hb hb' hd) hn hbig hc hl
  have sz : ∀ x ∈ ws, x < h'.size ∧ Safe Z EL T'.vm h' x := fun x hx' => ⟨Nat.lt_of_lt_of_le (hws x hx').1 E.1, hC'.safe (hws x hx').1 (hws x hx').2⟩
  exact (G T' h' a b kB ⟨⟨hx, hb', hml, hO, hE, hrest⟩, T'.vm, k1, locs, X', e', hS', hk', hZ', hC.trans hC', sz, hF, (fun q => by cases q), hOl.ext E⟩ E A F1 F2 V (fun x hx' => hne x (sz x hx').2)).back q
/-- the end -/
theorem gEnd {f : JFrame} {v : Option Value} {rc rs : Nat} {Q : Option Value → Heap → Prop} (W : Wk p l e R s m args below meth c Z a0 EL n0 kn wd own bytes ml ws T h k n) (hv : meth.sig.returnType = none → v = none) (hk : k ≤ rc) (hn : n ≤ rs) (hq : Q v h)
    (hs : ∀ (vm0 : Vm) (locs : List Loc) (fs : List Frame), Stand p l e R (s.setVm vm0) m args below meth c T locs k n → p.tables.exec = Jvm.exec → c.code = bytes → (∀ (f : JFrame) (acts : List Action), f.method = m → f.locked = none → f.entered = [] → (doReturn e (T.setTop f) acts v).1 = T.setFrames fs) → Steps p.tables e below (T.setTop f) (T.setFrames fs)) :
    Go p e below (Po s Z EL n0 wd rc rs Q) T f := by
  obtain ⟨⟨hx, hb', hml, hO, hE, hlk, hrest⟩, vm0, k0, locs, X, eT, hS, hk0, hZ, hC, hws, hF, hwd, hOl⟩ := W
  obtain ⟨fs, hr, hrun, hend, hret⟩ := X.leaveW hS (by rw [eT]; exact hk0) hv hlk
  refine ⟨T.setFrames fs, _, hs vm0 locs fs X hx hb' hr, hrun, hend, v, locs, rfl, by rw [show (T.setFrames fs).heap = T.heap from rfl, eT]; exact hq, hF, ?_, fun q => State.WarmedH.trans (hwd q) (show (s.setVm vm0).WarmedH T.vm from X.warmed), by rw [show (T.setFrames fs).heap = T.heap from rfl, eT]; exact hOl, hret.1, hret.2.1, hret.2.2.1, hret.2.2.2.mono hk hn⟩
  have q := hC.trans (CHv.at X hZ hE hC.1)
  rw [show (T.setFrames fs).heap = T.heap from rfl, show (T.setFrames fs).vm = T.vm from rfl, eT]
  exact q
theorem gRetN {x : Int32} {t : FieldType} {rc rs : Nat} {Q : Option Value → Heap → Prop} (W : Wk p l e R s m args below meth c Z a0 EL n0 kn wd own bytes ml ws T h k n) (hret : meth.sig.returnType = some t) (ht : t = .boolean ∨ t = .byte ∨ t = .char ∨ t = .short) (hd : decode bytes pc = .ok (.ireturn, 1)) (hk : k ≤ rc) (hn : n ≤ rs) (hq : Q (some (.int (nar t x))) h) :
    Go p e below (Po s Z EL n0 wd rc rs Q) T (mkF m pc Ls (.int x :: rest)) :=
  gEnd W (fun q => by rw [hret] at q; cases q) hk hn hq (fun vm0 locs fs X hx hb' hr => retN X hx hret ht (hb hb' hd) hr)
theorem gRetI {x : Int32} {rc rs : Nat} {Q : Option Value → Heap → Prop} (W : Wk p l e R s m args below meth c Z a0 EL n0 kn wd own bytes ml ws T h k n) (hret : meth.sig.returnType = some .int) (hd : decode bytes pc = .ok (.ireturn, 1)) (hk : k ≤ rc) (hn : n ≤ rs) (hq : Q (some (.int x)) h) :
    Go p e below (Po s Z EL n0 wd rc rs Q) T (mkF m pc Ls (.int x :: rest)) :=
  gEnd W (fun q => by rw [hret] at q; cases q) hk hn hq (fun vm0 locs fs X hx hb' hr => retI X hx hret (hb hb' hd) hr)
theorem gRetV {rc rs : Nat} {Q : Option Value → Heap → Prop} (W : Wk p l e R s m args below meth c Z a0 EL n0 kn wd own bytes ml ws T h k n) (hret : meth.sig.returnType = none) (hd : decode bytes pc = .ok (.return_, 1)) (hk : k ≤ rc) (hn : n ≤ rs) (hq : Q none h) :
    Go p e below (Po s Z EL n0 wd rc rs Q) T (mkF m pc Ls []) :=
  gEnd W (fun _ => rfl) hk hn hq (fun vm0 locs fs X hx hb' hr => X.returnOut hx hret (hb hb' hd) hr)
theorem gRetJ {x : Int64} {rc rs : Nat} {Q : Option Value → Heap → Prop} (W : Wk p l e R s m args below meth c Z a0 EL n0 kn wd own bytes ml ws T h k n) (hret : meth.sig.returnType = some .long) (hd : decode bytes pc = .ok (.lreturn, 1)) (hk : k ≤ rc) (hn : n ≤ rs) (hq : Q (some (.long x)) h) :
    Go p e below (Po s Z EL n0 wd rc rs Q) T (mkF m pc Ls (.long x :: rest)) :=
  gEnd W (fun q => by rw [hret] at q; cases q) hk hn hq (fun vm0 locs fs X hx hb' hr => by
    have hd' := hb hb' hd
    jvm_step X.here [X.here.top, hx, hd', X.method', hret, narrow]
    first | (intro acts; rw [hr _ acts rfl rfl rfl]) | rw [hr _ _ rfl rfl rfl]
    exact Steps.refl _)
theorem gRetA {v : Value} {t : FieldType} {rc rs : Nat} {Q : Option Value → Heap → Prop} (W : Wk p l e R s m args below meth c Z a0 EL n0 kn wd own bytes ml ws T h k n) (hret : meth.sig.returnType = some t) (ht : t.isReference = true) (hv : v.isRef = true) (hd : decode bytes pc = .ok (.areturn, 1)) (hk : k ≤ rc) (hn : n ≤ rs) (hq : Q (some v) h) :
    Go p e below (Po s Z EL n0 wd rc rs Q) T (mkF m pc Ls (v :: rest)) :=
  gEnd W (fun q => by rw [hret] at q; cases q) hk hn hq (fun vm0 locs fs X hx hb' hr => by
    have hd' := hb hb' hd
    jvm_step X.here [X.here.top, hx, hd', X.method', hret, ht, hv]
    first | (intro acts; rw [hr _ acts rfl rfl rfl]) | rw [hr _ _ rfl rfl rfl]
    exact Steps.refl _)
/-- a callee by its contract: what the walk's own laws ask of it -/
theorem Ct.backS {y : MethodName} {bytes' : ByteArray} {ml' : Nat} {ret' : Option FieldType} {rm : Room} {ws' : List Addr} {as' : Array Value} {Q : Option Value → Heap → Prop} {len wt : Nat} {vm0 : Vm} (C : Ct l Z a0 EL n0 kn wd y bytes' ml' ret' [] rm ws' as' h Q)
    (hZ : Z.Warmed39 vm0) (wc : (Jvm.Cond.code y bytes' ml' ret').before a0 Z = true) (wz : (Jvm.Cond.initialized y.cls).before a0 Z = true) (hf : rm.frames + 1 ≤ R.frames) (hl : wt + (ml' + 11) + rm.locals ≤ R.locals) (hEL : EW Z a0 EL) (H : CHv Z EL vm0 h) (hOl : Old Z n0 h) (hws : ∀ x ∈ ws', x < h.size ∧ Safe Z EL vm0 h x) (hkn : kn = true → vm0.MethodsKnown ∧ vm0.FramesKnown below) :
    BackS l R p e below (s.setVm vm0) args y len wt (fun A a => a = as' ∧ A.U.heap = h ∧ A.cells + rm.cells ≤ R.cells ∧ A.slots + rm.slots ≤ R.slots)
      (fun A _ v B => ∃ L, Q v B.U.heap ∧ Fr n0 L ∧ B.locs = A.locs ++ L ∧ B.cells = A.cells + rm.cells ∧ B.slots = A.slots + rm.slots ∧ CHr Z EL vm0 h B.U.vm B.U.heap ∧ (wd = false → (s.setVm vm0).WarmedH B.U.vm) ∧ Old Z n0 B.U.heap) := by
  refine BackS.of_freeWG (bytes := bytes') (maxL := ml') (ret := ret') (E := fun _ first o t L k n => k = rm.cells ∧ n = rm.slots ∧ (∃ v, o = .returned v ∧ Q v t.heap ∧ Fr n0 L) ∧ CHr Z EL first.vm first.heap t.vm t.heap ∧ (wd = false → first.WarmedH t.vm) ∧ Old Z n0 t.heap) C hf hl ?_ ?_ ?_ ?_ ?_
  · intro m meth c A a Y hp
    have hU : Z.Warmed39 A.U.vm := wtrans (s := s.setVm vm0) hZ Y.warmed
    exact ⟨by show (Jvm.Cond.and _ .tt).before a A.U = true; rw [Cond.before_and, mv hU wc]; rfl, mv hU wc, mv hU wz, hp.2.2.1, hp.2.2.2⟩
  · intro m meth c A a g mk Y hp
    have q := CHv.at Y hZ hEL H
    exact ⟨hp.1, wtrans (s := s.setVm vm0) hZ Y.warmed, hp.2.1, q.1, hOl, fun x hx => ⟨(hws x hx).1, q.safe (hws x hx).1 (hws x hx).2⟩⟩
  · intro m meth c A a g mk Y _ hg q
    exact known_frames Y hg (hkn q).1 (hkn q).2
  · intro a first o t hq
    obtain ⟨v, L, h1, h2, h3, h4, h5, h7, h6⟩ := hq
    exact ⟨L, _, _, h6, rfl, rfl, ⟨v, h1, h2, h3⟩, h4, h5, h7⟩
  · intro m meth c A a g mk v t L k n Y hp _ _ hE
    obtain ⟨e1, e2, ⟨v', e3, e4, e5⟩, e6, e7, e8⟩ := hE
    cases e3; subst e1 e2
    refine ⟨L, e4, e5, rfl, rfl, rfl, (CHv.at Y hZ hEL H).trans ?_, fun q => State.WarmedH.trans Y.warmed (show A.U.WarmedH _ from e7 q), e8⟩
    rw [← hp.2.1]; exact e6
/-- behind a call -/
theorem Wk.after {T' : State} {locs L : List Loc} {vm0 : Vm} {k0 k' n' : Nat} (hall : p.tables.exec = Jvm.exec ∧ c.code = bytes ∧ c.maxLocals = ml ∧ Z.vm.findClass own = some m.cls ∧ EW Z a0 EL ∧ meth.locks = false ∧ (kn = true → s.vm.MethodsKnown ∧ s.vm.FramesKnown below)) (hS : s.Since vm0 k0) (hk : k0 ≤ h.size) (hZ : Z.Warmed39 vm0) (hC : CHr Z EL s.vm s.heap vm0 h) (hws : ∀ x ∈ ws, x < h.size ∧ Safe Z EL vm0 h x) (hF : Fr n0 locs) (hwd : wd = false → s.WarmedH vm0)
    (X' : Stand p l e R ((s.setVm vm0).setVm T'.vm) m args below meth c T' (locs ++ L) k' n') (h2 : (s.setVm vm0).Since T'.vm T'.heap.size) (hg : h.size ≤ T'.heap.size) (hF' : Fr n0 L) (hC' : CHr Z EL vm0 h T'.vm T'.heap) (hwd' : wd = false → (s.setVm vm0).WarmedH T'.vm) (hOl : Old Z n0 T'.heap) :
    Wk p l e R s m args below meth c Z a0 EL n0 kn wd own bytes ml ws T' T'.heap k' n' :=
  ⟨hall, T'.vm, T'.heap.size, locs ++ L, X', rfl, hS.trans h2 (Nat.le_trans hk hg), Nat.le_refl _, State.Warmed39.trans (t := s.setVm vm0) hZ h2.1, hC.trans hC', fun x hx => ⟨Nat.lt_of_lt_of_le (hws x hx).1 hg, hC'.safe (hws x hx).1 (hws x hx).2⟩, hF.app hF', (fun q => State.WarmedH.trans (hwd q) (hwd' q)), hOl⟩
/-- a static call -/
theorem gStatic {index : Nat} {y : MethodName} {bytes' : ByteArray} {ml' : Nat} {ret' : Option FieldType} {rm : Room} {ws' : List Addr} {as' : Array Value} {Q : Option Value → Heap → Prop} {argsL : List Value} {wt : Nat} {ps : List FieldType} {rt : Option FieldType} (W : Wk p l e R s m args below meth c Z a0 EL n0 kn wd own bytes ml ws T h k n)
    (w1 : (Jvm.Cond.methodLink own index y).before a0 Z = true) (w2 : (Jvm.Cond.static y).before a0 Z = true) (w3 : (Jvm.Cond.initialized y.cls).before a0 Z = true) (w4 : (Jvm.Cond.code y bytes' ml' ret').before a0 Z = true) (hy : y.cls ≠ "java/lang/invoke/MethodHandle" ∧ y.cls ≠ "java/lang/invoke/VarHandle") (hdsc : parseMethodDescriptor y.desc = some ⟨ps, rt⟩)
    (C : Ct l Z a0 EL n0 kn wd y bytes' ml' ret' [] rm ws' as' h Q) (hsub : ∀ x ∈ ws', x ∈ ws) (hd : decode bytes pc = .ok (.invokestatic index, 3)) (hp : pc + 3 = pc') (hsz : Ls.size = ml) (has : argsL.toArray = as') (hlen : argsL.length = ps.length) (hst : st = argsL.reverse ++ rest) (hW : (rest.map fun v => v.category).sum ≤ wt)
    (hf : rm.frames + 1 ≤ R.frames) (hl : wt + (ml' + 11) + rm.locals ≤ R.locals) (hc : k + rm.cells ≤ R.cells) (hs : n + rm.slots ≤ R.slots)
    (G : ∀ v T' h', Wk p l e R s m args below meth c Z a0 EL n0 kn wd own bytes ml ws T' h' (k + rm.cells) (n + rm.slots) → h.size ≤ h'.size → Q v h' → Go p e below Φ T' (mkF m pc' Ls (v.toList ++ rest))) : Go p e below Φ T (mkF m pc Ls st) := by
  subst hp has
  obtain ⟨hall, vm0, k0, locs, X, eT, hS, hk, hZ, hC, hws, hF, hwd, hOl⟩ := W
  have hall' := hall
  obtain ⟨hx, hb', hml, hO, hE, hlk, hkn⟩ := hall'
  have hkn' : kn = true → vm0.MethodsKnown ∧ vm0.FramesKnown below := fun q => known_vm hS.1 (hkn q)
  obtain ⟨v, vm₁, ⟨T', L', c', n'⟩, -, X', h2, hg, ⟨L, hQ, hF', l', y', z', hC', hwd', hOl'⟩, stp⟩ := callSS X hx (y := y) ((hZ.alike.findClass own _).trans hO) (mv (s := s.setVm vm0) hZ w1) (mv (s := s.setVm vm0) hZ w2) (mv (s := s.setVm vm0) hZ w3) (mv (s := s.setVm vm0) hZ w4) hy
    (C.backS (p := p) (e := e) (R := R) (s := s) (args := args) (below := below) (wt := wt) hZ w4 w3 hf hl hE hC.1 hOl (fun x q => hws x (hsub x q)) hkn') (g := mkF m pc Ls st) rfl (hsz.trans hml.symm) (argsL := argsL) (rest := rest) (lenOf hdsc hlen) hst (by simpa using hW) (hb hb' hd) (fun _ _ => ⟨rfl, eT, hc, hs⟩)
  dsimp only [Pt.U, Pt.locs, Pt.cells, Pt.slots] at X' h2 hg l' y' z' stp hQ hC' hwd' hOl'
  subst l' y' z'
  rw [eT] at hg
  exact (G v T' T'.heap (Wk.after hall hS hk hZ hC hws hF hwd X' h2 hg hF' hC' hwd' hOl') hg hQ).back fun t q => stp.trans q
/-- a constructor -/
theorem gSpecial {index : Nat} {y : MethodName} {bytes' : ByteArray} {ml' : Nat} {rm : Room} {ws' : List Addr} {as' : Array Value} {Q : Option Value → Heap → Prop} {argsL : List Value} {a : Addr} {wt : Nat} {ps : List FieldType} {rt : Option FieldType} (W : Wk p l e R s m args below meth c Z a0 EL n0 kn wd own bytes ml ws T h k n) (hy1 : y.name = "<init>")
    (w1 : (Jvm.Cond.methodLink own index y).before a0 Z = true) (w2 : (Jvm.Cond.instanceMethod y).before a0 Z = true) (w3 : (Jvm.Cond.initialized y.cls).before a0 Z = true) (w4 : (Jvm.Cond.code y bytes' ml' none).before a0 Z = true) (hy : y.cls ≠ "java/lang/invoke/MethodHandle" ∧ y.cls ≠ "java/lang/invoke/VarHandle") (hdsc : parseMethodDescriptor y.desc = some ⟨ps, rt⟩)
    (C : Ct l Z a0 EL n0 kn wd y bytes' ml' none [] rm ws' as' h Q) (hsub : ∀ x ∈ ws', x ∈ ws) (hd : decode bytes pc = .ok (.invokespecial index, 3)) (hp : pc + 3 = pc') (hsz : Ls.size = ml) (has : (.ref a :: argsL).toArray = as') (hlen : argsL.length = ps.length) (hst : st = argsL.reverse ++ .ref a :: rest) (hW : (rest.map fun v => v.category).sum ≤ wt)
    (hf : rm.frames + 1 ≤ R.frames) (hl : wt + (ml' + 11) + rm.locals ≤ R.locals) (hc : k + rm.cells ≤ R.cells) (hs : n + rm.slots ≤ R.slots)
    (G : ∀ v T' h', Wk p l e R s m args below meth c Z a0 EL n0 kn wd own bytes ml ws T' h' (k + rm.cells) (n + rm.slots) → h.size ≤ h'.size → Q v h' → Go p e below Φ T' (mkF m pc' Ls (v.toList ++ rest))) : Go p e below Φ T (mkF m pc Ls st) := by
  subst hp has
  obtain ⟨hall, vm0, k0, locs, X, eT, hS, hk, hZ, hC, hws, hF, hwd, hOl⟩ := W
  have hall' := hall
  obtain ⟨hx, hb', hml, hO, hE, hlk, hkn⟩ := hall'
  have hkn' : kn = true → vm0.MethodsKnown ∧ vm0.FramesKnown below := fun q => known_vm hS.1 (hkn q)
  obtain ⟨v, vm₁, ⟨T', L', c', n'⟩, -, X', h2, hg, ⟨L, hQ, hF', l', y', z', hC', hwd', hOl'⟩, stp⟩ := X.specialBackS hx (y := y) hy1 ((hZ.alike.findClass own _).trans hO) (mv (s := s.setVm vm0) hZ w1) (mv (s := s.setVm vm0) hZ w2) (mv (s := s.setVm vm0) hZ w4) hy
    (C.backS (p := p) (e := e) (R := R) (s := s) (args := args) (below := below) (wt := wt) hZ w4 w3 hf hl hE hC.1 hOl (fun x q => hws x (hsub x q)) hkn') (g := mkF m pc Ls st) rfl (hsz.trans hml.symm) (Steps.refl _) (a := a) (argsL := argsL) (rest := rest) (lenOf hdsc hlen) hst (by simpa using hW) (hb hb' hd) (fun _ _ => ⟨rfl, eT, hc, hs⟩)
  dsimp only [Pt.U, Pt.locs, Pt.cells, Pt.slots] at X' h2 hg l' y' z' stp hQ hC' hwd' hOl'
  subst l' y' z'
  rw [eT] at hg
  exact (G v T' T'.heap (Wk.after hall hS hk hZ hC hws hF hwd X' h2 hg hF' hC' hwd' hOl') hg hQ).back fun t q => stp.trans q
/-- an instance method of the class that declares it -/
theorem gVirtual {index : Nat} {y z : MethodName} {C' : String} {bytes' : ByteArray} {ml' : Nat} {ret' : Option FieldType} {rm : Room} {ws' : List Addr} {as' : Array Value} {Q : Option Value → Heap → Prop} {argsL : List Value} {a : Addr} {wt : Nat} {ps : List FieldType} {rt : Option FieldType} (W : Wk p l e R s m args below meth c Z a0 EL n0 kn wd own bytes ml ws T h k n) (E : Exa Z h a C')
    (w1 : (Jvm.Cond.methodLink own index y).before a0 Z = true) (w2 : (Jvm.Cond.declares y).before a0 Z = true) (nf : ∀ s : State, Z.Warmed39 s.vm → NotFace s y) (w5 : (Jvm.Cond.selects C' y z).before a0 Z = true) (w6 : (Jvm.Cond.instanceMethod z).before a0 Z = true) (w3 : (Jvm.Cond.initialized z.cls).before a0 Z = true) (w4 : (Jvm.Cond.code z bytes' ml' ret').before a0 Z = true) (hy : y.cls ≠ "java/lang/invoke/MethodHandle" ∧ y.cls ≠ "java/lang/invoke/VarHandle") (hdsc : parseMethodDescriptor y.desc = some ⟨ps, rt⟩)
    (C : Ct l Z a0 EL n0 kn wd z bytes' ml' ret' [] rm ws' as' h Q) (hsub : ∀ x ∈ ws', x ∈ ws) (hd : decode bytes pc = .ok (.invokevirtual index, 3)) (hp : pc + 3 = pc') (hsz : Ls.size = ml) (has : (.ref a :: argsL).toArray = as') (hlen : argsL.length = ps.length) (hst : st = argsL.reverse ++ .ref a :: rest) (hW : (rest.map fun v => v.category).sum ≤ wt)
    (hf : rm.frames + 1 ≤ R.frames) (hl : wt + (ml' + 11) + rm.locals ≤ R.locals) (hc : k + rm.cells ≤ R.cells) (hs : n + rm.slots ≤ R.slots)
    (G : ∀ v T' h', Wk p l e R s m args below meth c Z a0 EL n0 kn wd own bytes ml ws T' h' (k + rm.cells) (n + rm.slots) → h.size ≤ h'.size → Q v h' → Go p e below Φ T' (mkF m pc' Ls (v.toList ++ rest))) : Go p e below Φ T (mkF m pc Ls st) := by
  subst hp has
  obtain ⟨hall, vm0, k0, locs, X, eT, hS, hk, hZ, hC, hws, hF, hwd, hOl⟩ := W
  have hall' := hall
  obtain ⟨hx, hb', hml, hO, hE, hlk, hkn⟩ := hall'
  have hkn' : kn = true → vm0.MethodsKnown ∧ vm0.FramesKnown below := fun q => known_vm hS.1 (hkn q)
  obtain ⟨cq, kq, qa, qb, qc⟩ := isOf (s := s.setVm vm0) hZ eT E
  obtain ⟨v, vm₁, ⟨T', L', c', n'⟩, -, X', h2, hg, ⟨L, hQ, hF', l', y', z', hC', hwd', hOl'⟩, stp⟩ := X.virtualBackS hx (y := y) (z := z) ((hZ.alike.findClass own _).trans hO) (mv (s := s.setVm vm0) hZ w1) (mv (s := s.setVm vm0) hZ w2) (nf (s.setVm vm0) hZ) (mv (s := s.setVm vm0) hZ w5) (mv (s := s.setVm vm0) hZ w6) hy
    (C.backS (p := p) (e := e) (R := R) (s := s) (args := args) (below := below) (wt := wt) hZ w4 w3 hf hl hE hC.1 hOl (fun x q => hws x (hsub x q)) hkn') qa qc (g := mkF m pc Ls st) rfl (hsz.trans hml.symm) (Steps.refl _) (argsL := argsL) (rest := rest) (lenOf hdsc hlen) hst (by simpa using hW) (hb hb' hd) (fun _ _ => ⟨rfl, eT, hc, hs⟩)
  dsimp only [Pt.U, Pt.locs, Pt.cells, Pt.slots] at X' h2 hg l' y' z' stp hQ hC' hwd' hOl'
  subst l' y' z'
  rw [eT] at hg
  exact (G v T' T'.heap (Wk.after hall hS hk hZ hC hws hF hwd X' h2 hg hF' hC' hwd' hOl') hg hQ).back fun t q => stp.trans q
/-- a contract out of a walk -/
theorem Ct.of {y : MethodName} {ret : Option FieldType} {cs : List Jvm.Cond} {rm : Room} {as' : Array Value} {Q : Option Value → Heap → Prop} (hpl : plainFor y = true) (hEL : EW Z a0 EL)
    (body : ∀ (p : Program) (e : Env) (s : State) (m : MethodId) (below : List Frame) (meth : Method) (c : Code) (T : State), Wk p l e rm s m as' below meth c Z a0 EL n0 kn wd y.cls bytes ml ws T h 0 0 → meth.sig.returnType = ret → meth.name = y.name → s.heap = h → Go p e below (Po s Z EL n0 wd rm.cells rm.slots Q) T (entryFrame m as' ml)) :
    Ct l Z a0 EL n0 kn wd y bytes ml ret cs rm ws as' h Q := by
  refine MetFree.of_bodySF hpl hisR ?_
  intro p e s m args below meth c s₁ Bd hml hP hK
  obtain ⟨rfl, hZ, hh, hC, hOl, hws⟩ := hP
  have hown : s.vm.findClass y.cls = some m.cls := findClass_of_methodNamed Bd.named
  have X0 := Stand.of_body Bd
  have e0 : s₁.heap = h := by rw [← hh, Bd.state]; rfl
  have hO : Z.vm.findClass y.cls = some m.cls := by rw [← hZ.alike.findClass]; exact hown
  have hst : s₁.vm = s.vm := by rw [Bd.state]; rfl
  refine body p e s m below meth c s₁ ⟨⟨Bd.exec, Bd.bytes, hml, hO, hEL, BodyLoose.notSynchronized Bd, hK⟩, s.vm, 0, [], X0, e0, (State.WarmedH.refl s).since _, Nat.zero_le _, hZ, ?_, hws, Fr.nil n0, (fun _ => State.WarmedH.refl s), hOl⟩ Bd.returns (name_of_methodNamed Bd.named Bd.method).1 hh
  rw [hh]
  exact CHr.refl hC
end OwnLayer
section OwnLayerMore
variable {p : Program} {l : Launch} {e : Env} {R : Room} {s : State} {m : MethodId} {args : Array Value} {below : List Frame} {meth : Method} {c : Code} {Z : State} {a0 : Array Value} {EL : List (String × Nat)} {n0 : Nat} {kn wd : Bool} {own : String} {bytes : ByteArray} {ml : Nat} {ws : List Addr} {T : State} {h : Heap} {k n : Nat} {Φ : Outcome → State → Prop} {pc pc' : Nat} {Ls : Array Slot} {st rest : List Value}
/-- instanceof, no -/
theorem gInsN {K C : String} {index : Nat} {a : Addr} (W : Wk p l e R s m args below meth c Z a0 EL n0 kn wd own bytes ml ws T h k n) (w : (Jvm.Cond.classLink own index K).before a0 Z = true) (E : Exa Z h a C) (F : ∃ c t, Z.vm.findClass C = some c ∧ Z.vm.findClass K = some t ∧ Z.vm.assignable c t = false)
    (hd : decode bytes pc = .ok (.instanceof index, 3)) (hp : pc + 3 = pc') (G : ∀ T', Wk p l e R s m args below meth c Z a0 EL n0 kn wd own bytes ml ws T' h k n → Go p e below Φ T' (mkF m pc' Ls (.int 0 :: rest))) : Go p e below Φ T (mkF m pc Ls (.ref a :: rest)) := by
  subst hp
  exact g3 W (fun vm0 locs X hx hb' _ hZ eT hO => instNo X hx hZ hO w eT E F (g := mkF m pc Ls (.ref a :: rest)) rfl rfl (hb hb' hd)) G
theorem noSub {C S K : String} {nK : Nat} (w : (Jvm.Cond.superclass C S).before a0 Z = true) (w0 : (Jvm.Cond.noSuperclass S).before a0 Z = true) (wk : (Jvm.Cond.instantiable K nK).before a0 Z = true) (h1 : C ≠ K) (h2 : S ≠ K) : ∃ c t, Z.vm.findClass C = some c ∧ Z.vm.findClass K = some t ∧ Z.vm.assignable c t = false := by
  obtain ⟨t, kt, g1, g2, g3, g4, -⟩ := Cond.instantiable_spec wk
  obtain ⟨cc, q0⟩ := found_sup w
  obtain ⟨pp, kc, kp, a1, a2, a3, a4, a5, a6, a7⟩ := Cond.superclass_spec q0 w
  obtain ⟨o, ko, b1, b2, b3, -⟩ := Cond.noSuperclass_spec w0
  cases a1.symm.trans b1
  cases a3.symm.trans b2
  have ne1 := ids_ne q0 g1 h1
  have ne2 := ids_ne b1 g1 h2
  have gI : kt.isInterface = false := by simp at g4; exact g4.1
  have sub : ∀ fuel, Z.vm.isSubclassAux fuel cc t = false := fun fuel => by
    cases fuel with
    | zero => rfl
    | succ f =>
      cases f with
      | zero => simp [Vm.isSubclassAux, ne1, a2, a4]
      | succ f => simp [Vm.isSubclassAux, ne1, ne2, a2, a4, b2, b3]
  refine ⟨cc, t, q0, g1, ?_⟩
  show Z.vm.assignableAux (255 + 1) cc t = false
  simp [Vm.assignableAux, ne1, a2, g2, a5, g3, gI, Vm.isSubclass, sub]
/-- a call through an interface -/
theorem gFace {index count : Nat} {y z : MethodName} {C' : String} {bytes' : ByteArray} {ml' : Nat} {ret' : Option FieldType} {rm : Room} {ws' : List Addr} {as' : Array Value} {Q : Option Value → Heap → Prop} {argsL : List Value} {a : Addr} {wt : Nat} {ps : List FieldType} {rt : Option FieldType} (W : Wk p l e R s m args below meth c Z a0 EL n0 kn wd own bytes ml ws T h k n) (E : Exa Z h a C')
    (w1 : (Jvm.Cond.methodLink own index y).before a0 Z = true) (w2 : (Jvm.Cond.declares y).before a0 Z = true) (w7 : ∀ (args : Array Value) (s : State), Z.Warmed39 s.vm → (Jvm.Cond.interfaceMethod y.cls y.cls y.name y.desc).before args s = true) (w5 : (Jvm.Cond.selects C' y z).before a0 Z = true) (w6 : (Jvm.Cond.instanceMethod z).before a0 Z = true) (w8 : (Jvm.Cond.publicMethod z).before a0 Z = true) (w9 : (Jvm.Cond.unhidden C' y.name y.desc).before a0 Z = true) (w10 : (Jvm.Cond.castable C' y.cls).before a0 Z = true) (w3 : (Jvm.Cond.initialized z.cls).before a0 Z = true) (w4 : (Jvm.Cond.code z bytes' ml' ret').before a0 Z = true) (hy : y.cls ≠ "java/lang/invoke/MethodHandle" ∧ y.cls ≠ "java/lang/invoke/VarHandle") (hdsc : parseMethodDescriptor y.desc = some ⟨ps, rt⟩)
    (C : Ct l Z a0 EL n0 kn wd z bytes' ml' ret' [] rm ws' as' h Q) (hsub : ∀ x ∈ ws', x ∈ ws) (hd : decode bytes pc = .ok (.invokeinterface index count, 5)) (hp : pc + 5 = pc') (hsz : Ls.size = ml) (has : (.ref a :: argsL).toArray = as') (hlen : argsL.length = ps.length) (hst : st = argsL.reverse ++ .ref a :: rest) (hW : (rest.map fun v => v.category).sum ≤ wt)
    (hf : rm.frames + 1 ≤ R.frames) (hl : wt + (ml' + 11) + rm.locals ≤ R.locals) (hc : k + rm.cells ≤ R.cells) (hs : n + rm.slots ≤ R.slots)
    (G : ∀ v T' h', Wk p l e R s m args below meth c Z a0 EL n0 kn wd own bytes ml ws T' h' (k + rm.cells) (n + rm.slots) → h.size ≤ h'.size → Q v h' → Go p e below Φ T' (mkF m pc' Ls (v.toList ++ rest))) : Go p e below Φ T (mkF m pc Ls st) := by
  subst hp has
  obtain ⟨hall, vm0, k0, locs, X, eT, hS, hk, hZ, hC, hws, hF, hwd, hOl⟩ := W
  have hall' := hall
  obtain ⟨hx, hb', hml, hO, hE, hlk, hkn⟩ := hall'
  have hkn' : kn = true → vm0.MethodsKnown ∧ vm0.FramesKnown below := fun q => known_vm hS.1 (hkn q)
  obtain ⟨cq, kq, qa, qb, qc⟩ := isOf (s := s.setVm vm0) hZ eT E
  obtain ⟨v, vm₁, ⟨T', L', c', n'⟩, -, X', h2, hg, ⟨L, hQ, hF', l', y', z', hC', hwd', hOl'⟩, stp⟩ := X.interfaceBackS hx (xi := y) (y := z) ((hZ.alike.findClass own _).trans hO) (mv (s := s.setVm vm0) hZ w1) (mv (s := s.setVm vm0) hZ w2) (w7 args (s.setVm vm0) hZ) (mv (s := s.setVm vm0) hZ w5) (mv (s := s.setVm vm0) hZ w6) (mv (s := s.setVm vm0) hZ w8) (mv (s := s.setVm vm0) hZ w9) (mv (s := s.setVm vm0) hZ w10) hy
    (C.backS (p := p) (e := e) (R := R) (s := s) (args := args) (below := below) (wt := wt) hZ w4 w3 hf hl hE hC.1 hOl (fun x q => hws x (hsub x q)) hkn') qa qb qc (g := mkF m pc Ls st) rfl (hsz.trans hml.symm) (Steps.refl _) (argsL := argsL) (rest := rest) (lenOf hdsc hlen) hst (by simpa using hW) (hb hb' hd) (fun _ _ => ⟨rfl, eT, hc, hs⟩)
  dsimp only [Pt.U, Pt.locs, Pt.cells, Pt.slots] at X' h2 hg l' y' z' stp hQ hC' hwd' hOl'
  subst l' y' z'
  rw [eT] at hg
  exact (G v T' T'.heap (Wk.after hall hS hk hZ hC hws hF hwd X' h2 hg hF' hC' hwd' hOl') hg hQ).back fun t q => stp.trans q
/-- an instance method that the entry's class inherits -/
theorem gVirtualUp {index : Nat} {x y : MethodName} {C' owner : String} {bytes' : ByteArray} {ml' : Nat} {ret' : Option FieldType} {rm : Room} {ws' : List Addr} {as' : Array Value} {Q : Option Value → Heap → Prop} {argsL : List Value} {a : Addr} {wt : Nat} {ps : List FieldType} {rt : Option FieldType} (W : Wk p l e R s m args below meth c Z a0 EL n0 kn wd own bytes ml ws T h k n) (E : Exa Z h a C')
    (w1 : (Jvm.Cond.methodLink own index x).before a0 Z = true) (w2 : (Jvm.Cond.sameMethod x.cls owner x.name x.desc).before a0 Z = true) (w7 : (Jvm.Cond.declares ⟨owner, x.name, x.desc⟩).before a0 Z = true) (ho : owner ≠ "java/lang/invoke/MethodHandle" ∧ owner ≠ "java/lang/invoke/VarHandle") (w5 : (Jvm.Cond.selects C' x y).before a0 Z = true) (w6 : (Jvm.Cond.instanceMethod y).before a0 Z = true) (w3 : (Jvm.Cond.initialized y.cls).before a0 Z = true) (w4 : (Jvm.Cond.code y bytes' ml' ret').before a0 Z = true) (hdsc : parseMethodDescriptor x.desc = some ⟨ps, rt⟩)
    (C : Ct l Z a0 EL n0 kn wd y bytes' ml' ret' [] rm ws' as' h Q) (hsub : ∀ x ∈ ws', x ∈ ws) (hd : decode bytes pc = .ok (.invokevirtual index, 3)) (hp : pc + 3 = pc') (hsz : Ls.size = ml) (has : (.ref a :: argsL).toArray = as') (hlen : argsL.length = ps.length) (hst : st = argsL.reverse ++ .ref a :: rest) (hW : (rest.map fun v => v.category).sum ≤ wt)
    (hf : rm.frames + 1 ≤ R.frames) (hl : wt + (ml' + 11) + rm.locals ≤ R.locals) (hc : k + rm.cells ≤ R.cells) (hs : n + rm.slots ≤ R.slots)
    (G : ∀ v T' h', Wk p l e R s m args below meth c Z a0 EL n0 kn wd own bytes ml ws T' h' (k + rm.cells) (n + rm.slots) → h.size ≤ h'.size → Q v h' → Go p e below Φ T' (mkF m pc' Ls (v.toList ++ rest))) : Go p e below Φ T (mkF m pc Ls st) := by
  subst hp has
  obtain ⟨hall, vm0, k0, locs, X, eT, hS, hk, hZ, hC, hws, hF, hwd, hOl⟩ := W
  have hall' := hall
  obtain ⟨hx, hb', hml, hO, hE, hlk, hkn⟩ := hall'
  have hkn' : kn = true → vm0.MethodsKnown ∧ vm0.FramesKnown below := fun q => known_vm hS.1 (hkn q)
  obtain ⟨cq, kq, qa, qb, qc⟩ := isOf (s := s.setVm vm0) hZ eT E
  obtain ⟨v, vm₁, ⟨T', L', c', n'⟩, -, X', h2, hg, ⟨L, hQ, hF', l', y', z', hC', hwd', hOl'⟩, stp⟩ := virtualBackUpS X hx (x := x) (y := y) (owner := owner) ((hZ.alike.findClass own _).trans hO) (mv (s := s.setVm vm0) hZ w1) (mv (s := s.setVm vm0) hZ w2) (mv (s := s.setVm vm0) hZ w7) ho (mv (s := s.setVm vm0) hZ w5) (mv (s := s.setVm vm0) hZ w6)
    (C.backS (p := p) (e := e) (R := R) (s := s) (args := args) (below := below) (wt := wt) hZ w4 w3 hf hl hE hC.1 hOl (fun x q => hws x (hsub x q)) hkn') qa qc (g := mkF m pc Ls st) rfl (hsz.trans hml.symm) (Steps.refl _) (argsL := argsL) (rest := rest) (lenOf hdsc hlen) hst (by simpa using hW) (hb hb' hd) (fun _ _ => ⟨rfl, eT, hc, hs⟩)
  dsimp only [Pt.U, Pt.locs, Pt.cells, Pt.slots] at X' h2 hg l' y' z' stp hQ hC' hwd' hOl'
  subst l' y' z'
  rw [eT] at hg
  exact (G v T' T'.heap (Wk.after hall hS hk hZ hC hws hF hwd X' h2 hg hF' hC' hwd' hOl') hg hQ).back fun t q => stp.trans q
end OwnLayerMore
section OwnSteps
variable {p : Program} {l : Launch} {e : Env} {R : Room} {s : State} {m : MethodId} {args : Array Value} {below : List Frame} {meth : Method} {c : Code} {Z : State} {a0 : Array Value} {EL : List (String × Nat)} {n0 : Nat} {kn wd : Bool} {own : String} {bytes : ByteArray} {ml : Nat} {ws : List Addr} {T : State} {h : Heap} {k n : Nat} {Φ : Outcome → State → Prop} {pc pc' : Nat} {Ls : Array Slot} {st rest : List Value}
theorem s_iloadN {j : Fin 4} {v : Int32} (W : Wk p l e R s m args below meth c Z a0 EL n0 kn wd own bytes ml ws T h k n) (hd : decode bytes pc = .ok (.iload_n j, 1)) (hl : Ls[j.val]? = some (.val (.int v))) (hp : pc + 1 = pc') (G : Go p e below Φ T (mkF m pc' Ls ((.int v) :: st))) : Go p e below Φ T (mkF m pc Ls st) := by
  subst hp
  exact g1 W (fun t ha hx hb' q => XS.iloadN ha hx rfl (hb hb' hd) hl q) G
theorem s_iload {j : Nat} {v : Int32} (W : Wk p l e R s m args below meth c Z a0 EL n0 kn wd own bytes ml ws T h k n) (hd : decode bytes pc = .ok (.iload j, 2)) (hl : Ls[j]? = some (.val (.int v))) (hp : pc + 2 = pc') (G : Go p e below Φ T (mkF m pc' Ls ((.int v) :: st))) : Go p e below Φ T (mkF m pc Ls st) := by
  subst hp
  exact g1 W (fun t ha hx hb' q => XS.iload ha hx rfl (hb hb' hd) hl q) G
theorem s_lloadN {j : Fin 4} {v : Int64} (W : Wk p l e R s m args below meth c Z a0 EL n0 kn wd own bytes ml ws T h k n) (hd : decode bytes pc = .ok (.lload_n j, 1)) (hl : Ls[j.val]? = some (.val (.long v))) (hp : pc + 1 = pc') (G : Go p e below Φ T (mkF m pc' Ls ((.long v) :: st))) : Go p e below Φ T (mkF m pc Ls st) := by
  subst hp
  exact g1 W (fun t ha hx hb' q => XS.lloadN ha hx rfl (hb hb' hd) hl q) G
theorem s_lload {j : Nat} {v : Int64} (W : Wk p l e R s m args below meth c Z a0 EL n0 kn wd own bytes ml ws T h k n) (hd : decode bytes pc = .ok (.lload j, 2)) (hl : Ls[j]? = some (.val (.long v))) (hp : pc + 2 = pc') (G : Go p e below Φ T (mkF m pc' Ls ((.long v) :: st))) : Go p e below Φ T (mkF m pc Ls st) := by
  subst hp
  exact g1 W (fun t ha hx hb' q => XS.lload ha hx rfl (hb hb' hd) hl q) G
theorem s_aloadN {j : Fin 4} {v : Value} (W : Wk p l e R s m args below meth c Z a0 EL n0 kn wd own bytes ml ws T h k n) (hd : decode bytes pc = .ok (.aload_n j, 1)) (hl : Ls[j.val]? = some (.val v)) (hv : v.isRef = true) (hp : pc + 1 = pc') (G : Go p e below Φ T (mkF m pc' Ls (v :: st))) : Go p e below Φ T (mkF m pc Ls st) := by
  subst hp
  exact g1 W (fun t ha hx hb' q => XS.aloadN ha hx rfl (hb hb' hd) hl hv q) G
theorem s_aload {j : Nat} {v : Value} (W : Wk p l e R s m args below meth c Z a0 EL n0 kn wd own bytes ml ws T h k n) (hd : decode bytes pc = .ok (.aload j, 2)) (hl : Ls[j]? = some (.val v)) (hv : v.isRef = true) (hp : pc + 2 = pc') (G : Go p e below Φ T (mkF m pc' Ls (v :: st))) : Go p e below Φ T (mkF m pc Ls st) := by
  subst hp
  exact g1 W (fun t ha hx hb' q => XS.aload ha hx rfl (hb hb' hd) hl hv q) G
theorem s_istoreN {j : Fin 4} {v : Int32} {l' : Array Slot} (W : Wk p l e R s m args below meth c Z a0 EL n0 kn wd own bytes ml ws T h k n) (hd : decode bytes pc = .ok (.istore_n j, 1)) (hl : storeLocals Ls j.val (.int v) = some l') (hp : pc + 1 = pc') (G : Go p e below Φ T (mkF m pc' l' rest)) : Go p e below Φ T (mkF m pc Ls ((.int v) :: rest)) := by
  subst hp
  exact g1 W (fun t ha hx hb' q => XS.istoreN ha hx rfl (hb hb' hd) rfl hl q) G
theorem s_istore {j : Nat} {v : Int32} {l' : Array Slot} (W : Wk p l e R s m args below meth c Z a0 EL n0 kn wd own bytes ml ws T h k n) (hd : decode bytes pc = .ok (.istore j, 2)) (hl : storeLocals Ls j (.int v) = some l') (hp : pc + 2 = pc') (G : Go p e below Φ T (mkF m pc' l' rest)) : Go p e below Φ T (mkF m pc Ls ((.int v) :: rest)) := by
  subst hp
  exact g1 W (fun t ha hx hb' q => XS.istore ha hx rfl (hb hb' hd) rfl hl q) G
theorem s_lstoreN {j : Fin 4} {v : Int64} {l' : Array Slot} (W : Wk p l e R s m args below meth c Z a0 EL n0 kn wd own bytes ml ws T h k n) (hd : decode bytes pc = .ok (.lstore_n j, 1)) (hl : storeLocals Ls j.val (.long v) = some l') (hp : pc + 1 = pc') (G : Go p e below Φ T (mkF m pc' l' rest)) : Go p e below Φ T (mkF m pc Ls ((.long v) :: rest)) := by
  subst hp
  exact g1 W (fun t ha hx hb' q => XS.lstoreN ha hx rfl (hb hb' hd) rfl hl q) G
theorem s_lstore {j : Nat} {v : Int64} {l' : Array Slot} (W : Wk p l e R s m args below meth c Z a0 EL n0 kn wd own bytes ml ws T h k n) (hd : decode bytes pc = .ok (.lstore j, 2)) (hl : storeLocals Ls j (.long v) = some l') (hp : pc + 2 = pc') (G : Go p e below Φ T (mkF m pc' l' rest)) : Go p e below Φ T (mkF m pc Ls ((.long v) :: rest)) := by
  subst hp
  exact g1 W (fun t ha hx hb' q => XS.lstore ha hx rfl (hb hb' hd) rfl hl q) G
theorem s_astoreN {j : Fin 4} {v : Value} {l' : Array Slot} (W : Wk p l e R s m args below meth c Z a0 EL n0 kn wd own bytes ml ws T h k n) (hd : decode bytes pc = .ok (.astore_n j, 1)) (hv : v.isRef = true) (hl : storeLocals Ls j.val v = some l') (hp : pc + 1 = pc') (G : Go p e below Φ T (mkF m pc' l' rest)) : Go p e below Φ T (mkF m pc Ls (v :: rest)) := by
  subst hp
  exact g1 W (fun t ha hx hb' q => XS.astoreN ha hx rfl (hb hb' hd) rfl hv hl q) G
theorem s_astore {j : Nat} {v : Value} {l' : Array Slot} (W : Wk p l e R s m args below meth c Z a0 EL n0 kn wd own bytes ml ws T h k n) (hd : decode bytes pc = .ok (.astore j, 2)) (hv : v.isRef = true) (hl : storeLocals Ls j v = some l') (hp : pc + 2 = pc') (G : Go p e below Φ T (mkF m pc' l' rest)) : Go p e below Φ T (mkF m pc Ls (v :: rest)) := by
  subst hp
  exact g1 W (fun t ha hx hb' q => XS.astore ha hx rfl (hb hb' hd) rfl hv hl q) G
theorem s_iconst {i : Int} {v : Int32} (W : Wk p l e R s m args below meth c Z a0 EL n0 kn wd own bytes ml ws T h k n) (hd : decode bytes pc = .ok (.iconst i, 1)) (hv : Int32.ofInt i = v) (hp : pc + 1 = pc') (G : Go p e below Φ T (mkF m pc' Ls (.int v :: st))) : Go p e below Φ T (mkF m pc Ls st) := by
  subst hp hv
  exact g1 W (fun t ha hx hb' q => XS.iconst ha hx rfl (hb hb' hd) q) G
theorem s_bipush {i : Int} {v : Int32} (W : Wk p l e R s m args below meth c Z a0 EL n0 kn wd own bytes ml ws T h k n) (hd : decode bytes pc = .ok (.bipush i, 2)) (hv : (Int8.ofInt i).toInt32 = v) (hp : pc + 2 = pc') (G : Go p e below Φ T (mkF m pc' Ls (.int v :: st))) : Go p e below Φ T (mkF m pc Ls st) := by
  subst hp hv
  exact g1 W (fun t ha hx hb' q => XS.bipush ha hx rfl (hb hb' hd) q) G
theorem s_sipush {i : Int} {v : Int32} (W : Wk p l e R s m args below meth c Z a0 EL n0 kn wd own bytes ml ws T h k n) (hd : decode bytes pc = .ok (.sipush i, 3)) (hv : (Int16.ofInt i).toInt32 = v) (hp : pc + 3 = pc') (G : Go p e below Φ T (mkF m pc' Ls (.int v :: st))) : Go p e below Φ T (mkF m pc Ls st) := by
  subst hp hv
  exact g1 W (fun t ha hx hb' q => XS.sipush ha hx rfl (hb hb' hd) q) G
theorem s_lconst {i : Fin 2} {v : Int64} (W : Wk p l e R s m args below meth c Z a0 EL n0 kn wd own bytes ml ws T h k n) (hd : decode bytes pc = .ok (.lconst i, 1)) (hv : Int64.ofNat i = v) (hp : pc + 1 = pc') (G : Go p e below Φ T (mkF m pc' Ls (.long v :: st))) : Go p e below Φ T (mkF m pc Ls st) := by
  subst hp hv
  exact g1 W (fun t ha hx hb' q => XS.lconst ha hx rfl (hb hb' hd) q) G
theorem s_aconst_null (W : Wk p l e R s m args below meth c Z a0 EL n0 kn wd own bytes ml ws T h k n) (hd : decode bytes pc = .ok (.aconst_null, 1)) (hp : pc + 1 = pc') (G : Go p e below Φ T (mkF m pc' Ls (.null :: st))) : Go p e below Φ T (mkF m pc Ls st) := by
  subst hp
  exact g1 W (fun t ha hx hb' q => XS.aconstNull ha hx rfl (hb hb' hd)  q) G
theorem s_iadd {x y : Int32} (W : Wk p l e R s m args below meth c Z a0 EL n0 kn wd own bytes ml ws T h k n) (hd : decode bytes pc = .ok (.iadd, 1)) (hp : pc + 1 = pc') (G : Go p e below Φ T (mkF m pc' Ls (.int (x + y) :: rest))) : Go p e below Φ T (mkF m pc Ls (.int y :: .int x :: rest)) := by
  subst hp
  exact g1 W (fun t ha hx hb' q => XS.iadd ha hx rfl (hb hb' hd) rfl q) G
theorem s_isub {x y : Int32} (W : Wk p l e R s m args below meth c Z a0 EL n0 kn wd own bytes ml ws T h k n) (hd : decode bytes pc = .ok (.isub, 1)) (hp : pc + 1 = pc') (G : Go p e below Φ T (mkF m pc' Ls (.int (x - y) :: rest))) : Go p e below Φ T (mkF m pc Ls (.int y :: .int x :: rest)) := by
  subst hp
  exact g1 W (fun t ha hx hb' q => XS.isub ha hx rfl (hb hb' hd) rfl q) G
theorem s_imul {x y : Int32} (W : Wk p l e R s m args below meth c Z a0 EL n0 kn wd own bytes ml ws T h k n) (hd : decode bytes pc = .ok (.imul, 1)) (hp : pc + 1 = pc') (G : Go p e below Φ T (mkF m pc' Ls (.int (x * y) :: rest))) : Go p e below Φ T (mkF m pc Ls (.int y :: .int x :: rest)) := by
  subst hp
  exact g1 W (fun t ha hx hb' q => XS.imul ha hx rfl (hb hb' hd) rfl q) G
theorem s_iand {x y : Int32} (W : Wk p l e R s m args below meth c Z a0 EL n0 kn wd own bytes ml ws T h k n) (hd : decode bytes pc = .ok (.iand, 1)) (hp : pc + 1 = pc') (G : Go p e below Φ T (mkF m pc' Ls (.int (x &&& y) :: rest))) : Go p e below Φ T (mkF m pc Ls (.int y :: .int x :: rest)) := by
  subst hp
  exact g1 W (fun t ha hx hb' q => XS.iand ha hx rfl (hb hb' hd) rfl q) G
theorem s_ior {x y : Int32} (W : Wk p l e R s m args below meth c Z a0 EL n0 kn wd own bytes ml ws T h k n) (hd : decode bytes pc = .ok (.ior, 1)) (hp : pc + 1 = pc') (G : Go p e below Φ T (mkF m pc' Ls (.int (x ||| y) :: rest))) : Go p e below Φ T (mkF m pc Ls (.int y :: .int x :: rest)) := by
  subst hp
  exact g1 W (fun t ha hx hb' q => XS.ior ha hx rfl (hb hb' hd) rfl q) G
theorem s_ixor {x y : Int32} (W : Wk p l e R s m args below meth c Z a0 EL n0 kn wd own bytes ml ws T h k n) (hd : decode bytes pc = .ok (.ixor, 1)) (hp : pc + 1 = pc') (G : Go p e below Φ T (mkF m pc' Ls (.int (x ^^^ y) :: rest))) : Go p e below Φ T (mkF m pc Ls (.int y :: .int x :: rest)) := by
  subst hp
  exact g1 W (fun t ha hx hb' q => XS.ixor ha hx rfl (hb hb' hd) rfl q) G
theorem s_ladd {x y : Int64} (W : Wk p l e R s m args below meth c Z a0 EL n0 kn wd own bytes ml ws T h k n) (hd : decode bytes pc = .ok (.ladd, 1)) (hp : pc + 1 = pc') (G : Go p e below Φ T (mkF m pc' Ls (.long (x + y) :: rest))) : Go p e below Φ T (mkF m pc Ls (.long y :: .long x :: rest)) := by
  subst hp
  exact g1 W (fun t ha hx hb' q => XS.ladd ha hx rfl (hb hb' hd) rfl q) G
theorem s_lsub {x y : Int64} (W : Wk p l e R s m args below meth c Z a0 EL n0 kn wd own bytes ml ws T h k n) (hd : decode bytes pc = .ok (.lsub, 1)) (hp : pc + 1 = pc') (G : Go p e below Φ T (mkF m pc' Ls (.long (x - y) :: rest))) : Go p e below Φ T (mkF m pc Ls (.long y :: .long x :: rest)) := by
  subst hp
  exact g1 W (fun t ha hx hb' q => XS.lsub ha hx rfl (hb hb' hd) rfl q) G
theorem s_lmul {x y : Int64} (W : Wk p l e R s m args below meth c Z a0 EL n0 kn wd own bytes ml ws T h k n) (hd : decode bytes pc = .ok (.lmul, 1)) (hp : pc + 1 = pc') (G : Go p e below Φ T (mkF m pc' Ls (.long (x * y) :: rest))) : Go p e below Φ T (mkF m pc Ls (.long y :: .long x :: rest)) := by
  subst hp
  exact g1 W (fun t ha hx hb' q => XS.lmul ha hx rfl (hb hb' hd) rfl q) G
theorem s_land {x y : Int64} (W : Wk p l e R s m args below meth c Z a0 EL n0 kn wd own bytes ml ws T h k n) (hd : decode bytes pc = .ok (.land, 1)) (hp : pc + 1 = pc') (G : Go p e below Φ T (mkF m pc' Ls (.long (x &&& y) :: rest))) : Go p e below Φ T (mkF m pc Ls (.long y :: .long x :: rest)) := by
  subst hp
  exact g1 W (fun t ha hx hb' q => XS.land ha hx rfl (hb hb' hd) rfl q) G
theorem s_lor {x y : Int64} (W : Wk p l e R s m args below meth c Z a0 EL n0 kn wd own bytes ml ws T h k n) (hd : decode bytes pc = .ok (.lor, 1)) (hp : pc + 1 = pc') (G : Go p e below Φ T (mkF m pc' Ls (.long (x ||| y) :: rest))) : Go p e below Φ T (mkF m pc Ls (.long y :: .long x :: rest)) := by
  subst hp
  exact g1 W (fun t ha hx hb' q => XS.lor ha hx rfl (hb hb' hd) rfl q) G
theorem s_lxor {x y : Int64} (W : Wk p l e R s m args below meth c Z a0 EL n0 kn wd own bytes ml ws T h k n) (hd : decode bytes pc = .ok (.lxor, 1)) (hp : pc + 1 = pc') (G : Go p e below Φ T (mkF m pc' Ls (.long (x ^^^ y) :: rest))) : Go p e below Φ T (mkF m pc Ls (.long y :: .long x :: rest)) := by
  subst hp
  exact g1 W (fun t ha hx hb' q => XS.lxor ha hx rfl (hb hb' hd) rfl q) G
theorem s_ishl {x y : Int32} (W : Wk p l e R s m args below meth c Z a0 EL n0 kn wd own bytes ml ws T h k n) (hd : decode bytes pc = .ok (.ishl, 1)) (hp : pc + 1 = pc') (G : Go p e below Φ T (mkF m pc' Ls (.int (x <<< (y &&& 31)) :: rest))) : Go p e below Φ T (mkF m pc Ls (.int y :: .int x :: rest)) := by
  subst hp
  exact g1 W (fun t ha hx hb' q => XS.ishl ha hx rfl (hb hb' hd) rfl q) G
theorem s_ishr {x y : Int32} (W : Wk p l e R s m args below meth c Z a0 EL n0 kn wd own bytes ml ws T h k n) (hd : decode bytes pc = .ok (.ishr, 1)) (hp : pc + 1 = pc') (G : Go p e below Φ T (mkF m pc' Ls (.int (x >>> (y &&& 31)) :: rest))) : Go p e below Φ T (mkF m pc Ls (.int y :: .int x :: rest)) := by
  subst hp
  exact g1 W (fun t ha hx hb' q => XS.ishr ha hx rfl (hb hb' hd) rfl q) G
theorem s_iushr {x y : Int32} (W : Wk p l e R s m args below meth c Z a0 EL n0 kn wd own bytes ml ws T h k n) (hd : decode bytes pc = .ok (.iushr, 1)) (hp : pc + 1 = pc') (G : Go p e below Φ T (mkF m pc' Ls (.int ((x.toUInt32 >>> (y &&& 31).toUInt32).toInt32) :: rest))) : Go p e below Φ T (mkF m pc Ls (.int y :: .int x :: rest)) := by
  subst hp
  exact g1 W (fun t ha hx hb' q => XS.iushr ha hx rfl (hb hb' hd) rfl q) G
theorem s_lshl {x : Int64} {y : Int32} (W : Wk p l e R s m args below meth c Z a0 EL n0 kn wd own bytes ml ws T h k n) (hd : decode bytes pc = .ok (.lshl, 1)) (hp : pc + 1 = pc') (G : Go p e below Φ T (mkF m pc' Ls (.long (x <<< (y &&& 0x3f).toInt64) :: rest))) : Go p e below Φ T (mkF m pc Ls (.int y :: .long x :: rest)) := by
  subst hp
  exact g1 W (fun t ha hx hb' q => XS.lshl ha hx rfl (hb hb' hd) rfl q) G
theorem s_lshr {x : Int64} {y : Int32} (W : Wk p l e R s m args below meth c Z a0 EL n0 kn wd own bytes ml ws T h k n) (hd : decode bytes pc = .ok (.lshr, 1)) (hp : pc + 1 = pc') (G : Go p e below Φ T (mkF m pc' Ls (.long (x >>> (y &&& 0x3f).toInt64) :: rest))) : Go p e below Φ T (mkF m pc Ls (.int y :: .long x :: rest)) := by
  subst hp
  exact g1 W (fun t ha hx hb' q => XS.lshr ha hx rfl (hb hb' hd) rfl q) G
theorem s_lushr {x : Int64} {y : Int32} (W : Wk p l e R s m args below meth c Z a0 EL n0 kn wd own bytes ml ws T h k n) (hd : decode bytes pc = .ok (.lushr, 1)) (hp : pc + 1 = pc') (G : Go p e below Φ T (mkF m pc' Ls (.long ((x.toUInt64 >>> (y &&& 0x3f).toInt64.toUInt64).toInt64) :: rest))) : Go p e below Φ T (mkF m pc Ls (.int y :: .long x :: rest)) := by
  subst hp
  exact g1 W (fun t ha hx hb' q => XS.lushr ha hx rfl (hb hb' hd) rfl q) G
theorem s_idiv {x y : Int32} (W : Wk p l e R s m args below meth c Z a0 EL n0 kn wd own bytes ml ws T h k n) (hd : decode bytes pc = .ok (.idiv, 1)) (hy : y ≠ 0) (hp : pc + 1 = pc') (G : Go p e below Φ T (mkF m pc' Ls (.int (x / y) :: rest))) : Go p e below Φ T (mkF m pc Ls (.int y :: .int x :: rest)) := by
  subst hp
  exact g1 W (fun t ha hx hb' q => XS.idiv ha hx rfl (hb hb' hd) rfl hy q) G
theorem s_irem {x y : Int32} (W : Wk p l e R s m args below meth c Z a0 EL n0 kn wd own bytes ml ws T h k n) (hd : decode bytes pc = .ok (.irem, 1)) (hy : y ≠ 0) (hp : pc + 1 = pc') (G : Go p e below Φ T (mkF m pc' Ls (.int (x % y) :: rest))) : Go p e below Φ T (mkF m pc Ls (.int y :: .int x :: rest)) := by
  subst hp
  exact g2 W (fun vm0 locs X hx hb' hZ eT hO t q => iremM (g := mkF m pc Ls (.int y :: .int x :: rest)) X hx rfl (hb hb' hd) rfl hy q) G
theorem s_ldiv {x y : Int64} (W : Wk p l e R s m args below meth c Z a0 EL n0 kn wd own bytes ml ws T h k n) (hd : decode bytes pc = .ok (.ldiv, 1)) (hy : y ≠ 0) (hp : pc + 1 = pc') (G : Go p e below Φ T (mkF m pc' Ls (.long (x / y) :: rest))) : Go p e below Φ T (mkF m pc Ls (.long y :: .long x :: rest)) := by
  subst hp
  exact g1 W (fun t ha hx hb' q => XS.ldiv ha hx rfl (hb hb' hd) rfl hy q) G
theorem s_ineg {x : Int32} (W : Wk p l e R s m args below meth c Z a0 EL n0 kn wd own bytes ml ws T h k n) (hd : decode bytes pc = .ok (.ineg, 1)) (hp : pc + 1 = pc') (G : Go p e below Φ T (mkF m pc' Ls (.int (-x) :: rest))) : Go p e below Φ T (mkF m pc Ls (.int x :: rest)) := by
  subst hp
  exact g1 W (fun t ha hx hb' q => XS.ineg ha hx rfl (hb hb' hd) rfl q) G
theorem s_lneg {x : Int64} (W : Wk p l e R s m args below meth c Z a0 EL n0 kn wd own bytes ml ws T h k n) (hd : decode bytes pc = .ok (.lneg, 1)) (hp : pc + 1 = pc') (G : Go p e below Φ T (mkF m pc' Ls (.long (-x) :: rest))) : Go p e below Φ T (mkF m pc Ls (.long x :: rest)) := by
  subst hp
  exact g1 W (fun t ha hx hb' q => XS.lneg ha hx rfl (hb hb' hd) rfl q) G
theorem s_i2l {x : Int32} (W : Wk p l e R s m args below meth c Z a0 EL n0 kn wd own bytes ml ws T h k n) (hd : decode bytes pc = .ok (.i2l, 1)) (hp : pc + 1 = pc') (G : Go p e below Φ T (mkF m pc' Ls (.long x.toInt64 :: rest))) : Go p e below Φ T (mkF m pc Ls (.int x :: rest)) := by
  subst hp
  exact g1 W (fun t ha hx hb' q => XS.i2l ha hx rfl (hb hb' hd) rfl q) G
theorem s_l2i {x : Int64} (W : Wk p l e R s m args below meth c Z a0 EL n0 kn wd own bytes ml ws T h k n) (hd : decode bytes pc = .ok (.l2i, 1)) (hp : pc + 1 = pc') (G : Go p e below Φ T (mkF m pc' Ls (.int x.toInt32 :: rest))) : Go p e below Φ T (mkF m pc Ls (.long x :: rest)) := by
  subst hp
  exact g1 W (fun t ha hx hb' q => XS.l2i ha hx rfl (hb hb' hd) rfl q) G
theorem s_i2b {x : Int32} (W : Wk p l e R s m args below meth c Z a0 EL n0 kn wd own bytes ml ws T h k n) (hd : decode bytes pc = .ok (.i2b, 1)) (hp : pc + 1 = pc') (G : Go p e below Φ T (mkF m pc' Ls (.int x.toInt8.toInt32 :: rest))) : Go p e below Φ T (mkF m pc Ls (.int x :: rest)) := by
  subst hp
  exact g1 W (fun t ha hx hb' q => XS.i2b ha hx rfl (hb hb' hd) rfl q) G
theorem s_i2s {x : Int32} (W : Wk p l e R s m args below meth c Z a0 EL n0 kn wd own bytes ml ws T h k n) (hd : decode bytes pc = .ok (.i2s, 1)) (hp : pc + 1 = pc') (G : Go p e below Φ T (mkF m pc' Ls (.int x.toInt16.toInt32 :: rest))) : Go p e below Φ T (mkF m pc Ls (.int x :: rest)) := by
  subst hp
  exact g1 W (fun t ha hx hb' q => XS.i2s ha hx rfl (hb hb' hd) rfl q) G
theorem s_i2c {x : Int32} (W : Wk p l e R s m args below meth c Z a0 EL n0 kn wd own bytes ml ws T h k n) (hd : decode bytes pc = .ok (.i2c, 1)) (hp : pc + 1 = pc') (G : Go p e below Φ T (mkF m pc' Ls (.int x.toUInt32.toUInt16.toUInt32.toInt32 :: rest))) : Go p e below Φ T (mkF m pc Ls (.int x :: rest)) := by
  subst hp
  exact g1 W (fun t ha hx hb' q => XS.i2c ha hx rfl (hb hb' hd) rfl q) G
theorem s_lcmp {x y : Int64} (W : Wk p l e R s m args below meth c Z a0 EL n0 kn wd own bytes ml ws T h k n) (hd : decode bytes pc = .ok (.lcmp, 1)) (hp : pc + 1 = pc') (G : Go p e below Φ T (mkF m pc' Ls (.int (lcmpW x y) :: rest))) : Go p e below Φ T (mkF m pc Ls (.long y :: .long x :: rest)) := by
  subst hp
  exact g1 W (fun t ha hx hb' q => XS.lcmp ha hx rfl (hb hb' hd) rfl q) G
theorem s_dup {v : Value} (W : Wk p l e R s m args below meth c Z a0 EL n0 kn wd own bytes ml ws T h k n) (hd : decode bytes pc = .ok (.dup, 1)) (hv : v.category = 1) (hp : pc + 1 = pc') (G : Go p e below Φ T (mkF m pc' Ls (v :: v :: rest))) : Go p e below Φ T (mkF m pc Ls (v :: rest)) := by
  subst hp
  exact g1 W (fun t ha hx hb' q => XS.dup ha hx rfl (hb hb' hd) rfl hv q) G
theorem s_pop {v : Value} (W : Wk p l e R s m args below meth c Z a0 EL n0 kn wd own bytes ml ws T h k n) (hd : decode bytes pc = .ok (.pop, 1)) (hv : v.category = 1) (hp : pc + 1 = pc') (G : Go p e below Φ T (mkF m pc' Ls rest)) : Go p e below Φ T (mkF m pc Ls (v :: rest)) := by
  subst hp
  exact g1 W (fun t ha hx hb' q => XS.pop ha hx rfl (hb hb' hd) rfl hv q) G
theorem s_dup_x1 {v w : Value} (W : Wk p l e R s m args below meth c Z a0 EL n0 kn wd own bytes ml ws T h k n) (hd : decode bytes pc = .ok (.dup_x1, 1)) (hv : v.category = 1) (hw' : w.category = 1) (hp : pc + 1 = pc') (G : Go p e below Φ T (mkF m pc' Ls (v :: w :: v :: rest))) : Go p e below Φ T (mkF m pc Ls (v :: w :: rest)) := by
  subst hp
  exact g1 W (fun t ha hx hb' q => XS.dupX1 ha hx rfl (hb hb' hd) rfl hv hw' q) G
theorem s_dup2 {v w : Value} (W : Wk p l e R s m args below meth c Z a0 EL n0 kn wd own bytes ml ws T h k n) (hd : decode bytes pc = .ok (.dup2, 1)) (hv : v.category = 1) (hw' : w.category = 1) (hp : pc + 1 = pc') (G : Go p e below Φ T (mkF m pc' Ls (v :: w :: v :: w :: rest))) : Go p e below Φ T (mkF m pc Ls (v :: w :: rest)) := by
  subst hp
  exact g1 W (fun t ha hx hb' q => XT.dup2 ha hx rfl (hb hb' hd) rfl hv hw' q) G
theorem s_dup2L {x : Int64} (W : Wk p l e R s m args below meth c Z a0 EL n0 kn wd own bytes ml ws T h k n) (hd : decode bytes pc = .ok (.dup2, 1)) (hp : pc + 1 = pc') (G : Go p e below Φ T (mkF m pc' Ls (.long x :: .long x :: rest))) : Go p e below Φ T (mkF m pc Ls (.long x :: rest)) := by
  subst hp
  exact g1 W (fun t ha hx hb' q => XT.dup2L ha hx rfl (hb hb' hd) rfl q) G
theorem s_iinc {j : Nat} {cst : Int} {x v : Int32} {l' : Array Slot} (W : Wk p l e R s m args below meth c Z a0 EL n0 kn wd own bytes ml ws T h k n) (hd : decode bytes pc = .ok (.iinc j cst, 3)) (hv : Int32.ofInt cst = v) (hl : Ls[j]? = some (.val (.int x))) (hl' : storeLocals Ls j (.int (x + v)) = some l') (hp : pc + 3 = pc') (G : Go p e below Φ T (mkF m pc' l' st)) : Go p e below Φ T (mkF m pc Ls st) := by
  subst hp hv
  exact g1 W (fun t ha hx hb' q => XS.iinc ha hx rfl (hb hb' hd) hl hl' q) G
theorem s_goto {o : Int} (W : Wk p l e R s m args below meth c Z a0 EL n0 kn wd own bytes ml ws T h k n) (hd : decode bytes pc = .ok (.goto o, 3)) (ho : 0 ≤ (pc : Int) + o) (hp : ((pc : Int) + o).toNat = pc') (G : Go p e below Φ T (mkF m pc' Ls st)) : Go p e below Φ T (mkF m pc Ls st) := by
  subst hp
  exact g1 W (fun t ha hx hb' q => XS.goto ha hx rfl rfl (hb hb' hd) ho rfl q) G
theorem s_ifeq {o : Int} {pc1 pc2 : Nat} {x : Int32} (W : Wk p l e R s m args below meth c Z a0 EL n0 kn wd own bytes ml ws T h k n) (hd : decode bytes pc = .ok (.ifCond .eq o, 3)) (ho : 0 ≤ (pc : Int) + o) (hp1 : ((pc : Int) + o).toNat = pc1) (hp2 : pc + 3 = pc2) (G1 : x = (0 : Int32) → Go p e below Φ T (mkF m pc1 Ls rest)) (G2 : ¬ x = (0 : Int32) → Go p e below Φ T (mkF m pc2 Ls rest)) : Go p e below Φ T (mkF m pc Ls (.int x :: rest)) := by
  subst hp1 hp2
  by_cases q : x = (0 : Int32)
  · exact g1 W (fun t ha hx hb' q' => XS.ifYes ha hx rfl rfl (hb hb' hd) rfl ((if0 _ _).trans (teq q).1) ho rfl q') (G1 q)
  · have q : ¬ x = (0 : Int32) := by first | exact q | exact Classical.not_not.mp q
    exact g1 W (fun t ha hx hb' q' => XS.ifNo ha hx rfl (hb hb' hd) rfl ((if0 _ _).trans (feq q).1) q') (G2 q)
theorem s_icmpeq {o : Int} {pc1 pc2 : Nat} {x y : Int32} (W : Wk p l e R s m args below meth c Z a0 EL n0 kn wd own bytes ml ws T h k n) (hd : decode bytes pc = .ok (.if_icmp .eq o, 3)) (ho : 0 ≤ (pc : Int) + o) (hp1 : ((pc : Int) + o).toNat = pc1) (hp2 : pc + 3 = pc2) (G1 : x = y → Go p e below Φ T (mkF m pc1 Ls rest)) (G2 : ¬ x = y → Go p e below Φ T (mkF m pc2 Ls rest)) : Go p e below Φ T (mkF m pc Ls (.int y :: .int x :: rest)) := by
  subst hp1 hp2
  by_cases q : x = y
  · exact g1 W (fun t ha hx hb' q' => XS.icmpYes ha hx rfl rfl (hb hb' hd) rfl (teq q).1 ho rfl q') (G1 q)
  · have q : ¬ x = y := by first | exact q | exact Classical.not_not.mp q
    exact g1 W (fun t ha hx hb' q' => XS.icmpNo ha hx rfl (hb hb' hd) rfl (feq q).1 q') (G2 q)
theorem s_ifne {o : Int} {pc1 pc2 : Nat} {x : Int32} (W : Wk p l e R s m args below meth c Z a0 EL n0 kn wd own bytes ml ws T h k n) (hd : decode bytes pc = .ok (.ifCond .ne o, 3)) (ho : 0 ≤ (pc : Int) + o) (hp1 : ((pc : Int) + o).toNat = pc1) (hp2 : pc + 3 = pc2) (G1 : ¬ x = (0 : Int32) → Go p e below Φ T (mkF m pc1 Ls rest)) (G2 : x = (0 : Int32) → Go p e below Φ T (mkF m pc2 Ls rest)) : Go p e below Φ T (mkF m pc Ls (.int x :: rest)) := by
  subst hp1 hp2
  by_cases q : ¬ x = (0 : Int32)
  · exact g1 W (fun t ha hx hb' q' => XS.ifYes ha hx rfl rfl (hb hb' hd) rfl ((if0 _ _).trans (feq q).2) ho rfl q') (G1 q)
  · have q : x = (0 : Int32) := by first | exact q | exact Classical.not_not.mp q
    exact g1 W (fun t ha hx hb' q' => XS.ifNo ha hx rfl (hb hb' hd) rfl ((if0 _ _).trans (teq q).2) q') (G2 q)
theorem s_icmpne {o : Int} {pc1 pc2 : Nat} {x y : Int32} (W : Wk p l e R s m args below meth c Z a0 EL n0 kn wd own bytes ml ws T h k n) (hd : decode bytes pc = .ok (.if_icmp .ne o, 3)) (ho : 0 ≤ (pc : Int) + o) (hp1 : ((pc : Int) + o).toNat = pc1) (hp2 : pc + 3 = pc2) (G1 : ¬ x = y → Go p e below Φ T (mkF m pc1 Ls rest)) (G2 : x = y → Go p e below Φ T (mkF m pc2 Ls rest)) : Go p e below Φ T (mkF m pc Ls (.int y :: .int x :: rest)) := by
  subst hp1 hp2
  by_cases q : ¬ x = y
  · exact g1 W (fun t ha hx hb' q' => XS.icmpYes ha hx rfl rfl (hb hb' hd) rfl (feq q).2 ho rfl q') (G1 q)
  · have q : x = y := by first | exact q | exact Classical.not_not.mp q
    exact g1 W (fun t ha hx hb' q' => XS.icmpNo ha hx rfl (hb hb' hd) rfl (teq q).2 q') (G2 q)
theorem s_iflt {o : Int} {pc1 pc2 : Nat} {x : Int32} (W : Wk p l e R s m args below meth c Z a0 EL n0 kn wd own bytes ml ws T h k n) (hd : decode bytes pc = .ok (.ifCond .lt o, 3)) (ho : 0 ≤ (pc : Int) + o) (hp1 : ((pc : Int) + o).toNat = pc1) (hp2 : pc + 3 = pc2) (G1 : x < (0 : Int32) → Go p e below Φ T (mkF m pc1 Ls rest)) (G2 : ¬ x < (0 : Int32) → Go p e below Φ T (mkF m pc2 Ls rest)) : Go p e below Φ T (mkF m pc Ls (.int x :: rest)) := by
  subst hp1 hp2
  by_cases q : x < (0 : Int32)
  · exact g1 W (fun t ha hx hb' q' => XS.ifYes ha hx rfl rfl (hb hb' hd) rfl ((if0 _ _).trans (tlt q).1) ho rfl q') (G1 q)
  · have q : ¬ x < (0 : Int32) := by first | exact q | exact Classical.not_not.mp q
    exact g1 W (fun t ha hx hb' q' => XS.ifNo ha hx rfl (hb hb' hd) rfl ((if0 _ _).trans (flt q).1) q') (G2 q)
theorem s_icmplt {o : Int} {pc1 pc2 : Nat} {x y : Int32} (W : Wk p l e R s m args below meth c Z a0 EL n0 kn wd own bytes ml ws T h k n) (hd : decode bytes pc = .ok (.if_icmp .lt o, 3)) (ho : 0 ≤ (pc : Int) + o) (hp1 : ((pc : Int) + o).toNat = pc1) (hp2 : pc + 3 = pc2) (G1 : x < y → Go p e below Φ T (mkF m pc1 Ls rest)) (G2 : ¬ x < y → Go p e below Φ T (mkF m pc2 Ls rest)) : Go p e below Φ T (mkF m pc Ls (.int y :: .int x :: rest)) := by
  subst hp1 hp2
  by_cases q : x < y
  · exact g1 W (fun t ha hx hb' q' => XS.icmpYes ha hx rfl rfl (hb hb' hd) rfl (tlt q).1 ho rfl q') (G1 q)
  · have q : ¬ x < y := by first | exact q | exact Classical.not_not.mp q
    exact g1 W (fun t ha hx hb' q' => XS.icmpNo ha hx rfl (hb hb' hd) rfl (flt q).1 q') (G2 q)
theorem s_ifge {o : Int} {pc1 pc2 : Nat} {x : Int32} (W : Wk p l e R s m args below meth c Z a0 EL n0 kn wd own bytes ml ws T h k n) (hd : decode bytes pc = .ok (.ifCond .ge o, 3)) (ho : 0 ≤ (pc : Int) + o) (hp1 : ((pc : Int) + o).toNat = pc1) (hp2 : pc + 3 = pc2) (G1 : ¬ x < (0 : Int32) → Go p e below Φ T (mkF m pc1 Ls rest)) (G2 : x < (0 : Int32) → Go p e below Φ T (mkF m pc2 Ls rest)) : Go p e below Φ T (mkF m pc Ls (.int x :: rest)) := by
  subst hp1 hp2
  by_cases q : ¬ x < (0 : Int32)
  · exact g1 W (fun t ha hx hb' q' => XS.ifYes ha hx rfl rfl (hb hb' hd) rfl ((if0 _ _).trans (flt q).2.1) ho rfl q') (G1 q)
  · have q : x < (0 : Int32) := by first | exact q | exact Classical.not_not.mp q
    exact g1 W (fun t ha hx hb' q' => XS.ifNo ha hx rfl (hb hb' hd) rfl ((if0 _ _).trans (tlt q).2.1) q') (G2 q)
theorem s_icmpge {o : Int} {pc1 pc2 : Nat} {x y : Int32} (W : Wk p l e R s m args below meth c Z a0 EL n0 kn wd own bytes ml ws T h k n) (hd : decode bytes pc = .ok (.if_icmp .ge o, 3)) (ho : 0 ≤ (pc : Int) + o) (hp1 : ((pc : Int) + o).toNat = pc1) (hp2 : pc + 3 = pc2) (G1 : ¬ x < y → Go p e below Φ T (mkF m pc1 Ls rest)) (G2 : x < y → Go p e below Φ T (mkF m pc2 Ls rest)) : Go p e below Φ T (mkF m pc Ls (.int y :: .int x :: rest)) := by
  subst hp1 hp2
  by_cases q : ¬ x < y
  · exact g1 W (fun t ha hx hb' q' => XS.icmpYes ha hx rfl rfl (hb hb' hd) rfl (flt q).2.1 ho rfl q') (G1 q)
  · have q : x < y := by first | exact q | exact Classical.not_not.mp q
    exact g1 W (fun t ha hx hb' q' => XS.icmpNo ha hx rfl (hb hb' hd) rfl (tlt q).2.1 q') (G2 q)
theorem s_ifgt {o : Int} {pc1 pc2 : Nat} {x : Int32} (W : Wk p l e R s m args below meth c Z a0 EL n0 kn wd own bytes ml ws T h k n) (hd : decode bytes pc = .ok (.ifCond .gt o, 3)) (ho : 0 ≤ (pc : Int) + o) (hp1 : ((pc : Int) + o).toNat = pc1) (hp2 : pc + 3 = pc2) (G1 : (0 : Int32) < x → Go p e below Φ T (mkF m pc1 Ls rest)) (G2 : ¬ (0 : Int32) < x → Go p e below Φ T (mkF m pc2 Ls rest)) : Go p e below Φ T (mkF m pc Ls (.int x :: rest)) := by
  subst hp1 hp2
  by_cases q : (0 : Int32) < x
  · exact g1 W (fun t ha hx hb' q' => XS.ifYes ha hx rfl rfl (hb hb' hd) rfl ((if0 _ _).trans (tlt q).2.2.1) ho rfl q') (G1 q)
  · have q : ¬ (0 : Int32) < x := by first | exact q | exact Classical.not_not.mp q
    exact g1 W (fun t ha hx hb' q' => XS.ifNo ha hx rfl (hb hb' hd) rfl ((if0 _ _).trans (flt q).2.2.1) q') (G2 q)
theorem s_icmpgt {o : Int} {pc1 pc2 : Nat} {x y : Int32} (W : Wk p l e R s m args below meth c Z a0 EL n0 kn wd own bytes ml ws T h k n) (hd : decode bytes pc = .ok (.if_icmp .gt o, 3)) (ho : 0 ≤ (pc : Int) + o) (hp1 : ((pc : Int) + o).toNat = pc1) (hp2 : pc + 3 = pc2) (G1 : y < x → Go p e below Φ T (mkF m pc1 Ls rest)) (G2 : ¬ y < x → Go p e below Φ T (mkF m pc2 Ls rest)) : Go p e below Φ T (mkF m pc Ls (.int y :: .int x :: rest)) := by
  subst hp1 hp2
  by_cases q : y < x
  · exact g1 W (fun t ha hx hb' q' => XS.icmpYes ha hx rfl rfl (hb hb' hd) rfl (tlt q).2.2.1 ho rfl q') (G1 q)
  · have q : ¬ y < x := by first | exact q | exact Classical.not_not.mp q
    exact g1 W (fun t ha hx hb' q' => XS.icmpNo ha hx rfl (hb hb' hd) rfl (flt q).2.2.1 q') (G2 q)
theorem s_ifle {o : Int} {pc1 pc2 : Nat} {x : Int32} (W : Wk p l e R s m args below meth c Z a0 EL n0 kn wd own bytes ml ws T h k n) (hd : decode bytes pc = .ok (.ifCond .le o, 3)) (ho : 0 ≤ (pc : Int) + o) (hp1 : ((pc : Int) + o).toNat = pc1) (hp2 : pc + 3 = pc2) (G1 : ¬ (0 : Int32) < x → Go p e below Φ T (mkF m pc1 Ls rest)) (G2 : (0 : Int32) < x → Go p e below Φ T (mkF m pc2 Ls rest)) : Go p e below Φ T (mkF m pc Ls (.int x :: rest)) := by
  subst hp1 hp2
  by_cases q : ¬ (0 : Int32) < x
  · exact g1 W (fun t ha hx hb' q' => XS.ifYes ha hx rfl rfl (hb hb' hd) rfl ((if0 _ _).trans (flt q).2.2.2) ho rfl q') (G1 q)
  · have q : (0 : Int32) < x := by first | exact q | exact Classical.not_not.mp q
    exact g1 W (fun t ha hx hb' q' => XS.ifNo ha hx rfl (hb hb' hd) rfl ((if0 _ _).trans (tlt q).2.2.2) q') (G2 q)
theorem s_icmple {o : Int} {pc1 pc2 : Nat} {x y : Int32} (W : Wk p l e R s m args below meth c Z a0 EL n0 kn wd own bytes ml ws T h k n) (hd : decode bytes pc = .ok (.if_icmp .le o, 3)) (ho : 0 ≤ (pc : Int) + o) (hp1 : ((pc : Int) + o).toNat = pc1) (hp2 : pc + 3 = pc2) (G1 : ¬ y < x → Go p e below Φ T (mkF m pc1 Ls rest)) (G2 : y < x → Go p e below Φ T (mkF m pc2 Ls rest)) : Go p e below Φ T (mkF m pc Ls (.int y :: .int x :: rest)) := by
  subst hp1 hp2
  by_cases q : ¬ y < x
  · exact g1 W (fun t ha hx hb' q' => XS.icmpYes ha hx rfl rfl (hb hb' hd) rfl (flt q).2.2.2 ho rfl q') (G1 q)
  · have q : y < x := by first | exact q | exact Classical.not_not.mp q
    exact g1 W (fun t ha hx hb' q' => XS.icmpNo ha hx rfl (hb hb' hd) rfl (tlt q).2.2.2 q') (G2 q)
theorem s_ifnull {o : Int} {pc1 pc2 : Nat} {v : Value} (W : Wk p l e R s m args below meth c Z a0 EL n0 kn wd own bytes ml ws T h k n) (hd : decode bytes pc = .ok (.ifnull o, 3)) (hv : v.isRef = true) (ho : 0 ≤ (pc : Int) + o) (hp1 : ((pc : Int) + o).toNat = pc1) (hp2 : pc + 3 = pc2) (G1 : v = .null → Go p e below Φ T (mkF m pc1 Ls rest)) (G2 : ¬ v = .null → Go p e below Φ T (mkF m pc2 Ls rest)) : Go p e below Φ T (mkF m pc Ls (v :: rest)) := by
  subst hp1 hp2
  by_cases q : v = .null
  · exact g1 W (fun t ha hx hb' q' => XT.nullYes ha hx rfl rfl (hb hb' hd) rfl q ho rfl q') (G1 q)
  · have q : ¬ v = .null := by first | exact q | exact Classical.not_not.mp q
    exact g1 W (fun t ha hx hb' q' => XT.nullNo ha hx rfl (hb hb' hd) rfl hv q q') (G2 q)
theorem s_ifnonnull {o : Int} {pc1 pc2 : Nat} {v : Value} (W : Wk p l e R s m args below meth c Z a0 EL n0 kn wd own bytes ml ws T h k n) (hd : decode bytes pc = .ok (.ifnonnull o, 3)) (hv : v.isRef = true) (ho : 0 ≤ (pc : Int) + o) (hp1 : ((pc : Int) + o).toNat = pc1) (hp2 : pc + 3 = pc2) (G1 : ¬ v = .null → Go p e below Φ T (mkF m pc1 Ls rest)) (G2 : v = .null → Go p e below Φ T (mkF m pc2 Ls rest)) : Go p e below Φ T (mkF m pc Ls (v :: rest)) := by
  subst hp1 hp2
  by_cases q : ¬ v = .null
  · exact g1 W (fun t ha hx hb' q' => XT.nonnullYes ha hx rfl rfl (hb hb' hd) rfl hv q ho rfl q') (G1 q)
  · have q : v = .null := by first | exact q | exact Classical.not_not.mp q
    exact g1 W (fun t ha hx hb' q' => XT.nonnullNo ha hx rfl (hb hb' hd) rfl q q') (G2 q)
theorem s_acmpeq {o : Int} {pc1 pc2 : Nat} {v w : Value} (W : Wk p l e R s m args below meth c Z a0 EL n0 kn wd own bytes ml ws T h k n) (hd : decode bytes pc = .ok (.if_acmp .eq o, 3)) (hv : v.isRef = true) (hw' : w.isRef = true) (ho : 0 ≤ (pc : Int) + o) (hp1 : ((pc : Int) + o).toNat = pc1) (hp2 : pc + 3 = pc2) (G1 : v = w → Go p e below Φ T (mkF m pc1 Ls rest)) (G2 : ¬ v = w → Go p e below Φ T (mkF m pc2 Ls rest)) : Go p e below Φ T (mkF m pc Ls (w :: v :: rest)) := by
  subst hp1 hp2
  by_cases q : v = w
  · exact g1 W (fun t ha hx hb' q' => XT.acmpYes ha hx rfl rfl (hb hb' hd) rfl hv hw' (decide_eq_true q) ho rfl q') (G1 q)
  · have q : ¬ v = w := by first | exact q | exact Classical.not_not.mp q
    exact g1 W (fun t ha hx hb' q' => XT.acmpNo ha hx rfl (hb hb' hd) rfl hv hw' (decide_eq_false q) q') (G2 q)
theorem s_acmpne {o : Int} {pc1 pc2 : Nat} {v w : Value} (W : Wk p l e R s m args below meth c Z a0 EL n0 kn wd own bytes ml ws T h k n) (hd : decode bytes pc = .ok (.if_acmp .ne o, 3)) (hv : v.isRef = true) (hw' : w.isRef = true) (ho : 0 ≤ (pc : Int) + o) (hp1 : ((pc : Int) + o).toNat = pc1) (hp2 : pc + 3 = pc2) (G1 : ¬ v = w → Go p e below Φ T (mkF m pc1 Ls rest)) (G2 : v = w → Go p e below Φ T (mkF m pc2 Ls rest)) : Go p e below Φ T (mkF m pc Ls (w :: v :: rest)) := by
  subst hp1 hp2
  by_cases q : ¬ v = w
  · exact g1 W (fun t ha hx hb' q' => XT.acmpYes ha hx rfl rfl (hb hb' hd) rfl hv hw' (decide_eq_true q) ho rfl q') (G1 q)
  · have q : v = w := by first | exact q | exact Classical.not_not.mp q
    exact g1 W (fun t ha hx hb' q' => XT.acmpNo ha hx rfl (hb hb' hd) rfl hv hw' (decide_eq_false (fun r => r q)) q') (G2 q)
theorem s_ldcI {index : Nat} {v : Int32} (W : Wk p l e R s m args below meth c Z a0 EL n0 kn wd own bytes ml ws T h k n) (w : (Jvm.Cond.constant own index v).before a0 Z = true) (hd : decode bytes pc = .ok (.ldc index, 2)) (hp : pc + 2 = pc') (G : Go p e below Φ T (mkF m pc' Ls (.int v :: st))) : Go p e below Φ T (mkF m pc Ls st) := by
  subst hp
  exact g2 W (fun vm0 locs X hx hb' hZ eT hO t q => X.ldcInt hx hO (mv (s := s.setVm vm0) hZ w) (g := mkF m pc Ls st) rfl (hb hb' hd) t q) G
theorem s_ldcJ {index : Nat} {v : Int64} (W : Wk p l e R s m args below meth c Z a0 EL n0 kn wd own bytes ml ws T h k n) (w : (Jvm.Cond.constantLong own index v).before a0 Z = true) (hd : decode bytes pc = .ok (.ldc2_w index, 3)) (hp : pc + 3 = pc') (G : Go p e below Φ T (mkF m pc' Ls (.long v :: st))) : Go p e below Φ T (mkF m pc Ls st) := by
  subst hp
  exact g2 W (fun vm0 locs X hx hb' hZ eT hO t q => X.ldc2Long hx hO (mv (s := s.setVm vm0) hZ w) (g := mkF m pc Ls st) rfl (hb hb' hd) t q) G
theorem s_castNull {index : Nat} (W : Wk p l e R s m args below meth c Z a0 EL n0 kn wd own bytes ml ws T h k n) (hd : decode bytes pc = .ok (.checkcast index, 3)) (hp : pc + 3 = pc') (G : Go p e below Φ T (mkF m pc' Ls (.null :: rest))) : Go p e below Φ T (mkF m pc Ls (.null :: rest)) := by
  subst hp
  exact g2 W (fun vm0 locs X hx hb' hZ eT hO t q => X.checkcastNull hx (g := mkF m pc Ls (.null :: rest)) rfl rfl (hb hb' hd) t q) G
theorem s_instNull {index : Nat} (W : Wk p l e R s m args below meth c Z a0 EL n0 kn wd own bytes ml ws T h k n) (hd : decode bytes pc = .ok (.instanceof index, 3)) (hp : pc + 3 = pc') (G : Go p e below Φ T (mkF m pc' Ls (.int 0 :: rest))) : Go p e below Φ T (mkF m pc Ls (.null :: rest)) := by
  subst hp
  exact g2 W (fun vm0 locs X hx hb' hZ eT hO t q => X.instanceofNull hx (g := mkF m pc Ls (.null :: rest)) rfl rfl (hb hb' hd) t q) G
theorem Go.cast {f f' : JFrame} (q : f = f') (G : Go p e below Φ T f') : Go p e below Φ T f := q ▸ G
end OwnSteps
section OwnNat
theorem natlt {a n : Nat} (q : a < n) : a < n := q
theorem natle {a n : Nat} (q : a ≤ n) : a ≤ n := q
theorem nateq {a n : Nat} (q : a = n) : a = n := q
theorem ane {a b : Nat} (q : a < b ∨ b < a) : a ≠ b := by omega
end OwnNat
section OwnFacts
variable {Z : State} {h h' h0 : Heap} {a b : Addr} {ws : List Addr} {v w : Value}
theorem isRef_cat (q : v.isRef = true) : v.category = 1 := by cases v <;> first | rfl | (simp [Value.isRef] at q)
theorem narrow_ref {ty : FieldType} (q : v.isRef = true) : narrow ty v = v := by cases v <;> first | (simp [Value.isRef] at q; done) | (cases ty <;> rfl)
theorem fits_ref' {ty : FieldType} (ht : ty.isReference = true) (q : v.isRef = true) : fits ty v = true := by cases ty <;> cases v <;> first | rfl | (simp [Value.isRef] at q; done) | (simp [FieldType.isReference] at ht; done)
/-- a String, its byte array, its coder -/
def Str (Z : State) (h : Heap) (a b : Addr) (kb : ClassId) (cd z : Int32) (bs : List Value) : Prop := Exa Z h a "java/lang/String" ∧ Fld Z h a "java/lang/String" "value" "[B" (.ref b) ∧ Fld Z h a "java/lang/String" "coder" "B" (.int cd) ∧ Arv Z h b kb .byte z bs (.int 0)
theorem Str.keep {kb : ClassId} {cd z : Int32} {bs : List Value} (S : Str Z h a b kb cd z bs) (K : Keep h h' ws) (ha : a ∉ ws) (hb : b ∉ ws) : Str Z h' a b kb cd z bs := ⟨S.1.keep K, S.2.1.keep K ha, S.2.2.1.keep K ha, S.2.2.2.keep K hb⟩
theorem Str.ext {kb : ClassId} {cd z : Int32} {bs : List Value} (S : Str Z h a b kb cd z bs) (E : Ext h h') : Str Z h' a b kb cd z bs := ⟨S.1.ext E, S.2.1.ext E, S.2.2.1.ext E, S.2.2.2.ext E⟩
theorem Unt.keep' (U : Unt h a) (K : Keep h h' ws) (q : a ∉ ws) : Unt h' a := Unt.keep K q U
def One1 (s : Slot) : Prop := s = .unset ∨ ∃ v, s = .val v ∧ v.category = 1
theorem One1.i (x : Int32) : One1 (.val (.int x)) := Or.inr ⟨_, rfl, rfl⟩
theorem One1.u : One1 .unset := Or.inl rfl
theorem n32 {j : Nat} (q : j < 2147483648) : j.toInt32.toInt = (j : Int) := Int32.toInt_ofNat_small (by omega)
theorem n32c {j : Nat} (q : j < 2147483648) : j.toInt32.toNatClampNeg = j := by
  show j.toInt32.toInt.toNat = j
  rw [n32 q]; exact Int.toNat_natCast j
theorem n32s (j : Nat) : j.toInt32 + (1 : Int32) = (j + 1).toInt32 := (Int32.ofNat_add j 1).symm
theorem set_last (vs : List Value) (d x : Value) {j : Nat} (q : j = vs.length) : (vs ++ List.replicate 1 d).set j x = vs ++ [x] := by
  subst q; simp
theorem take_succ' (f : Int32 → Value) (cs : List Int32) {j : Nat} (q : j < cs.length) : (cs.take (j + 1)).map f = (cs.take j).map f ++ [f cs[j]] := by
  rw [List.take_succ_eq_append_getElem q, List.map_append]; rfl
theorem getD_map' (f : Int32 → Value) (cs : List Int32) (d : Value) {j : Nat} (q : j < cs.length) : (cs.map f).getD j d = f cs[j] := by
  rw [List.getD_eq_getElem?_getD, List.getElem?_map, List.getElem?_eq_getElem q]; rfl
theorem lt32 {x y : Int32} (q : x.toInt < y.toInt) : x < y := Int32.lt_iff_toInt_lt.mpr q
theorem nlt32 {x y : Int32} (q : ¬ x.toInt < y.toInt) : ¬ x < y := fun r => q (Int32.lt_iff_toInt_lt.mp r)
theorem eq32 {x y : Int32} (q : x.toInt = y.toInt) : x = y := Int32.toInt_inj.mp q
theorem zero32 : (0 : Int32).toInt = 0 := by decide
end OwnFacts
section OwnWords
theorem allC {P : Jvm.Cond → Prop} {y : Jvm.Cond} {L : List Jvm.Cond} (q : P y) (r : ∀ x ∈ L, P x) : ∀ x ∈ y :: L, P x := fun x z => (List.mem_cons.mp z).elim (fun u => u ▸ q) (r x)
theorem allC0 {P : Jvm.Cond → Prop} : ∀ x ∈ ([] : List Jvm.Cond), P x := fun _ q => nomatch q
end OwnWords
section OwnStr
variable {Z : State} {h h' h0 : Heap} {a b : Addr} {ws : List Addr} {v w : Value} {a0 : Array Value}
theorem Str.uniq {d1 d2 : Addr} {k1 k2 : ClassId} {cd1 cd2 z1 z2 : Int32} {xs1 xs2 : List Int32} (S1 : Str Z h a d1 k1 cd1 z1 (xs1.map Value.int)) (S2 : Str Z h a d2 k2 cd2 z2 (xs2.map Value.int)) (l1 : z1.toInt = xs1.length) (l2 : z2.toInt = xs2.length) : cd1 = cd2 ∧ xs1 = xs2 := by
  have hd : d1 = d2 := by
    by_cases q : d1 = d2
    · exact q
    · exact absurd rfl (S1.2.1.ne S2.2.1 (fun r => q (Value.ref.inj r)))
  have hc : cd1 = cd2 := by
    by_cases q : cd1 = cd2
    · exact q
    · exact absurd rfl (S1.2.2.1.ne S2.2.2.1 (fun r => q (Value.int.inj r)))
  subst hd
  refine ⟨hc, ?_⟩
  have e1 : z1.toNatClampNeg = xs1.length := by show z1.toInt.toNat = _; omega
  have e2 : z2.toNatClampNeg = xs2.length := by show z2.toInt.toNat = _; omega
  have hl : xs1.length = xs2.length := by
    by_cases q : z1.toNatClampNeg = z2.toNatClampNeg
    · rw [← e1, ← e2]; exact q
    · exact absurd rfl (arv_ne S1.2.2.2 S2.2.2.2 (Or.inl q))
  refine List.ext_getElem hl fun i q1 q2 => ?_
  by_cases q : xs1[i] = xs2[i]
  · exact q
  · refine absurd rfl (arv_ne S1.2.2.2 S2.2.2.2 (Or.inr ⟨i, by omega, ?_⟩))
    rw [getD_map' _ _ _ q1, getD_map' _ _ _ q2]
    exact fun r => q (Value.int.inj r)
/-- null, or a String of these bytes -/
def NSt (Z : State) (h : Heap) (w : Value) (o : Option (List Int32)) : Prop := match o with
  | none => w = .null
  | some xs => ∃ (a d : Addr) (kd : ClassId) (z : Int32), w = .ref a ∧ z.toInt = xs.length ∧ xs.length ≤ 64 ∧ Str Z h a d kd 0 z (xs.map Value.int)
theorem NSt.ref {o : Option (List Int32)} (N : NSt Z h w o) : w.isRef = true := by
  cases o with
  | none => cases N; rfl
  | some xs => obtain ⟨a, d, kd, z, rfl, -⟩ := N; rfl
theorem NSt.ext {o : Option (List Int32)} (N : NSt Z h w o) (E : Ext h h') : NSt Z h' w o := by
  cases o with
  | none => exact N
  | some xs => obtain ⟨a, d, kd, z, h1, h2, h3, S⟩ := N; exact ⟨a, d, kd, z, h1, h2, h3, S.ext E⟩
theorem NSt.keep0 {o : Option (List Int32)} (N : NSt Z h w o) (K : Keep h h' []) : NSt Z h' w o := by
  cases o with
  | none => exact N
  | some xs => obtain ⟨a, d, kd, z, h1, h2, h3, S⟩ := N; exact ⟨a, d, kd, z, h1, h2, h3, S.keep K nin0 nin0⟩
theorem NSt.keepX {o : Option (List Int32)} {C : String} {nn : Nat} (N : NSt Z h w o) (E : Exa Z h b C) (hC : C ≠ "java/lang/String") (wi : (Jvm.Cond.instantiable C nn).before a0 Z = true) (K : Keep h h' [b]) : NSt Z h' w o := by
  cases o with
  | none => exact N
  | some xs =>
    obtain ⟨a, d, kd, z, h1, h2, h3, S⟩ := N
    exact ⟨a, d, kd, z, h1, h2, h3, S.keep K (ninS (Ne.symm (ne_exa E S.1 hC)) nin0) (ninS (Ne.symm (E.neArv S.2.2.2 wi)) nin0)⟩
end OwnStr
section OwnChars
theorem byteCharF : ∀ n : Fin 256, nar .char (((Int32.ofNat n.val).toInt8.toInt32 &&& (255 : Int32)).toUInt32.toUInt16.toUInt32.toInt32) = Int32.ofNat n.val := by decide +kernel
theorem byteChar {c : Int32} (q : 0 ≤ c.toInt ∧ c.toInt < 256) : nar .char ((c.toInt8.toInt32 &&& (255 : Int32)).toUInt32.toUInt16.toUInt32.toInt32) = c := by
  have e : c = Int32.ofNat c.toInt.toNat := eq32 (by rw [show (Int32.ofNat c.toInt.toNat).toInt = _ from n32 (by omega)]; omega)
  rw [e]
  exact byteCharF ⟨c.toInt.toNat, by omega⟩
end OwnChars
section OwnChars2
theorem nar_charF : ∀ n : Fin 256, nar .char (Int32.ofNat n.val) = Int32.ofNat n.val := by decide +kernel
theorem nar_char {c : Int32} (q : 0 ≤ c.toInt ∧ c.toInt < 256) : nar .char c = c := by
  have e : c = Int32.ofNat c.toInt.toNat := eq32 (by rw [show (Int32.ofNat c.toInt.toNat).toInt = _ from n32 (by omega)]; omega)
  rw [e]
  exact nar_charF ⟨c.toInt.toNat, by omega⟩
end OwnChars2
section OwnBits
theorem and_nat (x : Int32) {k : Nat} (hk : k < 2147483648) : ∃ n : Nat, n ≤ k ∧ x &&& Int32.ofNat k = Int32.ofNat n := by
  refine ⟨x.toBitVec.toNat &&& k, Nat.and_le_right, ?_⟩
  apply Int32.toBitVec_inj.mp
  apply BitVec.eq_of_toNat_eq
  have e1 : (Int32.ofNat k).toBitVec.toNat = k := by
    show (BitVec.ofNat 32 k).toNat = k
    rw [BitVec.toNat_ofNat]; exact Nat.mod_eq_of_lt (by omega)
  have e2 : (Int32.ofNat (x.toBitVec.toNat &&& k)).toBitVec.toNat = x.toBitVec.toNat &&& k := by
    show (BitVec.ofNat 32 (x.toBitVec.toNat &&& k)).toNat = _
    rw [BitVec.toNat_ofNat]; exact Nat.mod_eq_of_lt (Nat.lt_of_le_of_lt Nat.and_le_right (by omega))
  rw [e2]
  show (x.toBitVec &&& (Int32.ofNat k).toBitVec).toNat = _
  rw [BitVec.toNat_and, e1]
theorem ofN {j : Nat} (q : j < 2147483648) : (Int32.ofNat j).toInt = (j : Int) := n32 q
theorem rem_nat {n k : Nat} (hn : n < 2147483648) (hk : k < 2147483648) : Int32.ofNat n % Int32.ofNat k = Int32.ofNat (n % k) := by
  apply eq32
  rw [Int32.toInt_mod, ofN hn, ofN hk, ofN (Nat.lt_of_le_of_lt (Nat.mod_le n k) hn)]
  exact (Int.ofNat_tmod n k).symm
theorem ofN_add {j k : Nat} (q : j + k < 2147483648) : Int32.ofNat j + Int32.ofNat k = Int32.ofNat (j + k) := (Int32.ofNat_add j k).symm
end OwnBits
section OwnLayer3
variable {p : Program} {l : Launch} {e : Env} {R : Room} {s : State} {m : MethodId} {args : Array Value} {below : List Frame} {meth : Method} {c : Code} {Z : State} {a0 : Array Value} {EL : List (String × Nat)} {n0 : Nat} {kn wd : Bool} {own : String} {bytes : ByteArray} {ml : Nat} {ws : List Addr} {T : State} {h : Heap} {k n : Nat} {Φ : Outcome → State → Prop} {pc pc' : Nat} {Ls : Array Slot} {st rest : List Value}
/-- aastore -/
theorem gStA {a : Addr} {kA : ClassId} {ty : FieldType} {z j : Int32} {v : Value} {vs : List Value} {dv : Value} (W : Wk p l e R s m args below meth c Z a0 EL n0 kn wd own bytes ml ws T h k n) (hn : n0 ≤ a) (A : Arv Z h a kA ty z vs dv) (hty : ty.isReference = true) (F : Sto Z h a v) (hfit : fits ty v = true) (hj : ¬ j < 0 ∧ j < z) {i : Nat} (hi : j.toNatClampNeg = i) (hv : i < vs.length)
    (hd : decode bytes pc = .ok (.aastore, 1)) (hp : pc + 1 = pc') (G : ∀ T' h', Wk p l e R s m args below meth c Z a0 EL n0 kn wd own bytes ml ws T' h' k n → Keep h h' [a] → Arv Z h' a kA ty z (vs.set i v) dv → Go p e below Φ T' (mkF m pc' Ls rest)) : Go p e below Φ T (mkF m pc Ls (v :: .int j :: .ref a :: rest)) := by
  subst hp
  obtain ⟨cl, Ar, q1, S, q3, H, Gf⟩ := A
  have hne : ty ≠ .byte := by rintro rfl; exact absurd hty (by decide)
  exact g4 W hn (Or.inr (Or.inr (Or.inr ⟨cl, ty, Ar, hne⟩))) (fun vm0 locs X hx hb' hZ eT hO => stR X hx hZ eT Ar (j := j) (v := v) (inb_of S hj) hty F (g := mkF m pc Ls (v :: .int j :: .ref a :: rest)) rfl rfl (hb hb' hd))
    (fun T' h' W' w => G T' h' W' (Keep.of_wr w) (Arv.set Ar q1 S q3 H Gf hfit w i hi hv))
/-- System.arraycopy -/
theorem gCopy {index : Nat} {a b : Addr} {kA kB : ClassId} {ty ty' : FieldType} {z z' sp dp nn : Int32} {vs vd us : List Value} {dv dd : Value} {wt : Nat} (W : Wk p l e R s m args below meth c Z a0 EL n0 kn wd own bytes ml ws T h k n)
    (w1 : (Jvm.Cond.methodLink own index Jvm.Stand.acN).before a0 Z = true) (w2 : (Jvm.Cond.native Jvm.Stand.acN).before a0 Z = true) (w3 : (Jvm.Cond.static Jvm.Stand.acN).before a0 Z = true) (w4 : (Jvm.Cond.initialized "java/lang/System").before a0 Z = true)
    (A : Arv Z h a kA ty z vs dv) (B : Arv Z h b kB ty' z' vd dd) (hty : (ty = ty' ∧ refKind ty = false) ∨ (refKind ty = true ∧ refKind ty' = true ∧ StoL Z h b us)) (h1 : ¬ sp < 0) (h2 : ¬ dp < 0) (h3 : ¬ nn < 0) (h4 : sp.toNatClampNeg + nn.toNatClampNeg ≤ z.toNatClampNeg) (h5 : dp.toNatClampNeg + nn.toNatClampNeg ≤ z'.toNatClampNeg)
    (hus : us = (List.range nn.toNatClampNeg).map fun i => vs.getD (sp.toNatClampNeg + i) dv) (hl : dp.toNatClampNeg + nn.toNatClampNeg ≤ vd.length) (hn : n0 ≤ b) (hsf : Sf Z EL ws h b)
    (hd : decode bytes pc = .ok (.invokestatic index, 3)) (hp : pc + 3 = pc') (hsz : Ls.size = ml) (hf : 1 ≤ R.frames) (hW : (rest.map fun v => v.category).sum ≤ wt) (hlo : wt + (nativeFrameWords "java/lang/System" "arraycopy" 5 + 11) ≤ R.locals)
    (G : ∀ T' h', Wk p l e R s m args below meth c Z a0 EL n0 kn wd own bytes ml ws T' h' k n → Keep h h' [b] → Arv Z h' b kB ty' z' (vd.take dp.toNatClampNeg ++ us ++ vd.drop (dp.toNatClampNeg + nn.toNatClampNeg)) dd → Go p e below Φ T' (mkF m pc' Ls rest)) : Go p e below Φ T (mkF m pc Ls (.int nn :: .int dp :: .ref b :: .int sp :: .ref a :: rest)) := by
  subst hp
  obtain ⟨⟨hx, hb', hml, hO, hrest⟩, vm0, k0, locs, X, eT, hS, hk, hZ, hC, hws, hF, hwd, hOl⟩ := W
  have sa := hsf.safe hZ hws
  obtain ⟨T', h', L, X', e', F', K, V, q⟩ := cpA X hx hZ ((hZ.alike.findClass own _).trans hO) w1 w2 w3 w4 eT A B hty h1 h2 h3 h4 h5 hus hl hF hn (g := mkF m pc Ls (.int nn :: .int dp :: .ref b :: .int sp :: .ref a :: rest)) rfl (hsz.trans hml.symm) rfl (hb hb' hd) hf (W := wt) (by simpa using hW) hlo
  have sb : ∀ x ∈ [b], Safe Z EL vm0 h x := fun x q => by rw [List.mem_singleton.mp q]; exact sa
  have hC2 := CHr.keep K sb hC.1
  exact (G T' h' ⟨⟨hx, hb', hml, hO, hrest⟩, vm0, k0, L, X', e', hS, Nat.le_trans hk K.1, hZ, hC.trans hC2, fun x hx' => ⟨Nat.lt_of_lt_of_le (hws x hx').1 K.1, hC2.safe (hws x hx').1 (hws x hx').2⟩, F', hwd, hOl.keep K (fun x q => by rw [List.mem_singleton.mp q]; exact hn)⟩ K V).back q
/-- a private method -/
theorem gPriv {index : Nat} {y y0 : MethodName} {C0 : String} {bytes' : ByteArray} {ml' : Nat} {ret' : Option FieldType} {rm : Room} {ws' : List Addr} {as' : Array Value} {Q : Option Value → Heap → Prop} {argsL : List Value} {a : Addr} {C' : String} {wt : Nat} {ps : List FieldType} {rt : Option FieldType} (W : Wk p l e R s m args below meth c Z a0 EL n0 kn wd own bytes ml ws T h k n) (E : Exa Z h a C')
    (w1 : (Jvm.Cond.methodLink own index y).before a0 Z = true) (w2 : (Jvm.Cond.instanceMethod y).before a0 Z = true) (w5 : (Jvm.Cond.privateMethod y).before a0 Z = true) (w6 : (Jvm.Cond.selects C0 y0 y0).before a0 Z = true) (hcls : y0.cls = y.cls) (w3 : (Jvm.Cond.initialized y.cls).before a0 Z = true) (w4 : (Jvm.Cond.code y bytes' ml' ret').before a0 Z = true) (hy : y.cls ≠ "java/lang/invoke/MethodHandle" ∧ y.cls ≠ "java/lang/invoke/VarHandle") (hdsc : parseMethodDescriptor y.desc = some ⟨ps, rt⟩)
    (C : Ct l Z a0 EL n0 kn wd y bytes' ml' ret' [] rm ws' as' h Q) (hsub : ∀ x ∈ ws', x ∈ ws) (hd : decode bytes pc = .ok (.invokevirtual index, 3)) (hp : pc + 3 = pc') (hsz : Ls.size = ml) (has : (.ref a :: argsL).toArray = as') (hlen : argsL.length = ps.length) (hst : st = argsL.reverse ++ .ref a :: rest) (hW : (rest.map fun v => v.category).sum ≤ wt)
    (hf : rm.frames + 1 ≤ R.frames) (hl : wt + (ml' + 11) + rm.locals ≤ R.locals) (hc : k + rm.cells ≤ R.cells) (hs : n + rm.slots ≤ R.slots)
    (G : ∀ v T' h', Wk p l e R s m args below meth c Z a0 EL n0 kn wd own bytes ml ws T' h' (k + rm.cells) (n + rm.slots) → h.size ≤ h'.size → Q v h' → Go p e below Φ T' (mkF m pc' Ls (v.toList ++ rest))) : Go p e below Φ T (mkF m pc Ls st) := by
  subst hp has
  obtain ⟨hall, vm0, k0, locs, X, eT, hS, hk, hZ, hC, hws, hF, hwd, hOl⟩ := W
  have hall' := hall
  obtain ⟨hx, hb', hml, hO, hE, hlk, hkn⟩ := hall'
  have hkn' : kn = true → vm0.MethodsKnown ∧ vm0.FramesKnown below := fun q => known_vm hS.1 (hkn q)
  obtain ⟨cq, kq, qa, qb, qc⟩ := isOf (s := s.setVm vm0) hZ eT E
  obtain ⟨cell, hcell, -, hst0⟩ := qc
  have hobj : ∀ q, cell.vm ≠ .statics q := fun q e => by rw [e] at hst0; cases hst0
  obtain ⟨c2, r2, m2, -, -, q3, -, kP, hkP, hkPi⟩ := Cond.selects_spec (mv (s := s.setVm vm0) (args := args) hZ w6)
  have hpr := Cond.privateMethod_at (mvP (s := s.setVm vm0) (args := args) hZ w5)
  have hsel := selects_self_of_private (args := args) (by rw [← hcls]; exact findClass_of_methodNamed q3) hkP hkPi hpr (mv (s := s.setVm vm0) hZ w2) hy
  obtain ⟨v, vm₁, ⟨T', L', c', n'⟩, -, X', h2, hg, ⟨L, hQ, hF', l', y', z', hC', hwd', hOl'⟩, stp⟩ := X.privateBackS hx (y := y) ((hZ.alike.findClass own _).trans hO) (mv (s := s.setVm vm0) hZ w1) (mv (s := s.setVm vm0) hZ w2) hsel hpr (mv (s := s.setVm vm0) hZ w4) hy
    (C.backS (p := p) (e := e) (R := R) (s := s) (args := args) (below := below) (wt := wt) hZ w4 w3 hf hl hE hC.1 hOl (fun x q => hws x (hsub x q)) hkn') (g := mkF m pc Ls st) rfl (hsz.trans hml.symm) (Steps.refl _) hcell hobj (argsL := argsL) (rest := rest) (lenOf hdsc hlen) hst (by simpa using hW) (hb hb' hd) (fun _ _ => ⟨rfl, eT, hc, hs⟩)
  dsimp only [Pt.U, Pt.locs, Pt.cells, Pt.slots] at X' h2 hg l' y' z' stp hQ hC' hwd' hOl'
  subst l' y' z'
  rw [eT] at hg
  exact (G v T' T'.heap (Wk.after hall hS hk hZ hC hws hF hwd X' h2 hg hF' hC' hwd' hOl') hg hQ).back fun t q => stp.trans q
theorem Arv.sto {a y : Addr} {kA : ClassId} {ty : FieldType} {z : Int32} {vs : List Value} {dv : Value} {C : String} (A : Arv Z h a kA ty z vs dv) (O : Ovr Z kA C) (I : Ins Z h y C true) : Sto Z h a (.ref y) := by
  obtain ⟨cl, Ar, q1, -⟩ := A
  exact Sto.ofV Ar q1 O I
/-- a contract whose result, if a reference, is no booked constant's -/
def PoS (s : State) (Z : State) (EL : List (String × Nat)) (n0 : Nat) (wd : Bool) (rc rs : Nat) (Q : Option Value → Heap → Prop) (o : Outcome) (t : State) : Prop := Po s Z EL n0 wd rc rs Q o t ∧ ∀ a, o = .returned (some (.ref a)) → a < t.heap.size ∧ Safe Z EL t.vm t.heap a
def CtS (l : Launch) (Z : State) (a0 : Array Value) (EL : List (String × Nat)) (n0 : Nat) (kn wd : Bool) (y : MethodName) (bytes : ByteArray) (ml : Nat) (ret : Option FieldType) (cs : List Jvm.Cond) (rm : Room) (ws : List Addr) (as' : Array Value) (h : Heap) (Q : Option Value → Heap → Prop) : Prop :=
  MetFree l y (head1 (Jvm.Cond.code y bytes ml ret :: cs) rm) (fun a U => a = as' ∧ Z.Warmed39 U.vm ∧ U.heap = h ∧ CHv Z EL U.vm h ∧ Old Z n0 h ∧ ∀ x ∈ ws, x < h.size ∧ Safe Z EL U.vm h x) (fun _ _ bl s _ => kn = true → s.vm.MethodsKnown ∧ s.vm.FramesKnown bl) (fun _ U o U' => PoS U Z EL n0 wd rm.cells rm.slots Q o U')
theorem gRetAS {a : Addr} {t : FieldType} {rc rs : Nat} {Q : Option Value → Heap → Prop} (W : Wk p l e R s m args below meth c Z a0 EL n0 kn wd own bytes ml ws T h k n) (hin : a ∈ ws) (hret : meth.sig.returnType = some t) (ht : t.isReference = true) (hd : decode bytes pc = .ok (.areturn, 1)) (hk : k ≤ rc) (hn : n ≤ rs) (hq : Q (some (.ref a)) h) :
    Go p e below (PoS s Z EL n0 wd rc rs Q) T (mkF m pc Ls (.ref a :: rest)) := by
  obtain ⟨⟨hx, hb', hml, hO, hE, hlk, hrest⟩, vm0, k0, locs, X, eT, hS, hk0, hZ, hC, hws, hF, hwd, hOl⟩ := W
  obtain ⟨fs, hr, hrun, hend, hret'⟩ := X.leaveW (v := some (.ref a)) hS (by rw [eT]; exact hk0) (fun q => by rw [hret] at q; cases q) hlk
  have q1 := CHv.at X hZ hE hC.1
  have q := hC.trans q1
  refine ⟨T.setFrames fs, _, ?_, hrun, hend, ⟨some (.ref a), locs, rfl, by rw [show (T.setFrames fs).heap = T.heap from rfl, eT]; exact hq, hF, ?_, fun q => State.WarmedH.trans (hwd q) (show (s.setVm vm0).WarmedH T.vm from X.warmed), by rw [show (T.setFrames fs).heap = T.heap from rfl, eT]; exact hOl, hret'.1, hret'.2.1, hret'.2.2.1, hret'.2.2.2.mono hk hn⟩, ?_⟩
  · have hd' := hb hb' hd
    have hv : (Value.ref a).isRef = true := rfl
    jvm_step X.here [X.here.top, hx, hd', X.method', hret, ht, hv]
    first | (intro acts; rw [hr _ acts rfl rfl rfl]) | rw [hr _ _ rfl rfl rfl]
    exact Steps.refl _
  · rw [show (T.setFrames fs).heap = T.heap from rfl, show (T.setFrames fs).vm = T.vm from rfl, eT]
    exact q
  · intro b eb
    cases eb
    rw [show (T.setFrames fs).heap = T.heap from rfl, show (T.setFrames fs).vm = T.vm from rfl, eT]
    exact ⟨(hws a hin).1, q1.safe (hws a hin).1 (hws a hin).2⟩
theorem CtS.backS {y : MethodName} {bytes' : ByteArray} {ml' : Nat} {ret' : Option FieldType} {rm : Room} {ws' : List Addr} {as' : Array Value} {Q : Option Value → Heap → Prop} {len wt : Nat} {vm0 : Vm} (C : CtS l Z a0 EL n0 kn wd y bytes' ml' ret' [] rm ws' as' h Q)
    (hZ : Z.Warmed39 vm0) (wc : (Jvm.Cond.code y bytes' ml' ret').before a0 Z = true) (wz : (Jvm.Cond.initialized y.cls).before a0 Z = true) (hf : rm.frames + 1 ≤ R.frames) (hl : wt + (ml' + 11) + rm.locals ≤ R.locals) (hEL : EW Z a0 EL) (H : CHv Z EL vm0 h) (hOl : Old Z n0 h) (hws : ∀ x ∈ ws', x < h.size ∧ Safe Z EL vm0 h x) (hkn : kn = true → vm0.MethodsKnown ∧ vm0.FramesKnown below) :
    BackS l R p e below (s.setVm vm0) args y len wt (fun A a => a = as' ∧ A.U.heap = h ∧ A.cells + rm.cells ≤ R.cells ∧ A.slots + rm.slots ≤ R.slots)
      (fun A _ v B => ∃ L, Q v B.U.heap ∧ Fr n0 L ∧ B.locs = A.locs ++ L ∧ B.cells = A.cells + rm.cells ∧ B.slots = A.slots + rm.slots ∧ CHr Z EL vm0 h B.U.vm B.U.heap ∧ (wd = false → (s.setVm vm0).WarmedH B.U.vm) ∧ Old Z n0 B.U.heap ∧ ∀ a, v = some (.ref a) → a < B.U.heap.size ∧ Safe Z EL B.U.vm B.U.heap a) := by
  refine BackS.of_freeWG (bytes := bytes') (maxL := ml') (ret := ret') (E := fun _ first o t L k n => k = rm.cells ∧ n = rm.slots ∧ (∃ v, o = .returned v ∧ Q v t.heap ∧ Fr n0 L) ∧ CHr Z EL first.vm first.heap t.vm t.heap ∧ (wd = false → first.WarmedH t.vm) ∧ Old Z n0 t.heap ∧ ∀ a, o = .returned (some (.ref a)) → a < t.heap.size ∧ Safe Z EL t.vm t.heap a) C hf hl ?_ ?_ ?_ ?_ ?_
  · intro m meth c A a Y hp
    have hU : Z.Warmed39 A.U.vm := wtrans (s := s.setVm vm0) hZ Y.warmed
    exact ⟨by show (Jvm.Cond.and _ .tt).before a A.U = true; rw [Cond.before_and, mv hU wc]; rfl, mv hU wc, mv hU wz, hp.2.2.1, hp.2.2.2⟩
  · intro m meth c A a g mk Y hp
    have q := CHv.at Y hZ hEL H
    exact ⟨hp.1, wtrans (s := s.setVm vm0) hZ Y.warmed, hp.2.1, q.1, hOl, fun x hx => ⟨(hws x hx).1, q.safe (hws x hx).1 (hws x hx).2⟩⟩
  · intro m meth c A a g mk Y _ hg q
    exact known_frames Y hg (hkn q).1 (hkn q).2
  · intro a first o t hq
    obtain ⟨⟨v, L, h1, h2, h3, h4, h5, h7, h6⟩, h8⟩ := hq
    exact ⟨L, _, _, h6, rfl, rfl, ⟨v, h1, h2, h3⟩, h4, h5, h7, h8⟩
  · intro m meth c A a g mk v t L k n Y hp _ _ hE
    obtain ⟨e1, e2, ⟨v', e3, e4, e5⟩, e6, e7, e8, e9⟩ := hE
    cases e3; subst e1 e2
    refine ⟨L, e4, e5, rfl, rfl, rfl, (CHv.at Y hZ hEL H).trans ?_, fun q => State.WarmedH.trans Y.warmed (show A.U.WarmedH _ from e7 q), e8, fun a q => e9 a (by rw [q])⟩
    rw [← hp.2.1]; exact e6
theorem gStaticS {index : Nat} {y : MethodName} {bytes' : ByteArray} {ml' : Nat} {ret' : Option FieldType} {rm : Room} {ws' : List Addr} {as' : Array Value} {Q : Option Value → Heap → Prop} {argsL : List Value} {wt : Nat} {ps : List FieldType} {rt : Option FieldType} (W : Wk p l e R s m args below meth c Z a0 EL n0 kn wd own bytes ml ws T h k n)
    (w1 : (Jvm.Cond.methodLink own index y).before a0 Z = true) (w2 : (Jvm.Cond.static y).before a0 Z = true) (w3 : (Jvm.Cond.initialized y.cls).before a0 Z = true) (w4 : (Jvm.Cond.code y bytes' ml' ret').before a0 Z = true) (hy : y.cls ≠ "java/lang/invoke/MethodHandle" ∧ y.cls ≠ "java/lang/invoke/VarHandle") (hdsc : parseMethodDescriptor y.desc = some ⟨ps, rt⟩)
    (C : CtS l Z a0 EL n0 kn wd y bytes' ml' ret' [] rm ws' as' h Q) (hsub : ∀ x ∈ ws', x ∈ ws) (hd : decode bytes pc = .ok (.invokestatic index, 3)) (hp : pc + 3 = pc') (hsz : Ls.size = ml) (has : argsL.toArray = as') (hlen : argsL.length = ps.length) (hst : st = argsL.reverse ++ rest) (hW : (rest.map fun v => v.category).sum ≤ wt)
    (hf : rm.frames + 1 ≤ R.frames) (hl : wt + (ml' + 11) + rm.locals ≤ R.locals) (hc : k + rm.cells ≤ R.cells) (hs : n + rm.slots ≤ R.slots)
    (G : ∀ v T' h', (∀ ws2 : List Addr, (∀ x ∈ ws2, x ∈ ws ∨ v = some (.ref x)) → Wk p l e R s m args below meth c Z a0 EL n0 kn wd own bytes ml ws2 T' h' (k + rm.cells) (n + rm.slots)) → h.size ≤ h'.size → Q v h' → Go p e below Φ T' (mkF m pc' Ls (v.toList ++ rest))) : Go p e below Φ T (mkF m pc Ls st) := by
  subst hp has
  obtain ⟨hall, vm0, k0, locs, X, eT, hS, hk, hZ, hC, hws, hF, hwd, hOl⟩ := W
  have hall' := hall
  obtain ⟨hx, hb', hml, hO, hE, hlk, hkn⟩ := hall'
  have hkn' : kn = true → vm0.MethodsKnown ∧ vm0.FramesKnown below := fun q => known_vm hS.1 (hkn q)
  obtain ⟨v, vm₁, ⟨T', L', c', n'⟩, -, X', h2, hg, ⟨L, hQ, hF', l', y', z', hC', hwd', hOl', hSf⟩, stp⟩ := callSS X hx (y := y) ((hZ.alike.findClass own _).trans hO) (mv (s := s.setVm vm0) hZ w1) (mv (s := s.setVm vm0) hZ w2) (mv (s := s.setVm vm0) hZ w3) (mv (s := s.setVm vm0) hZ w4) hy
    (C.backS (p := p) (e := e) (R := R) (s := s) (args := args) (below := below) (wt := wt) hZ w4 w3 hf hl hE hC.1 hOl (fun x q => hws x (hsub x q)) hkn') (g := mkF m pc Ls st) rfl (hsz.trans hml.symm) (argsL := argsL) (rest := rest) (lenOf hdsc hlen) hst (by simpa using hW) (hb hb' hd) (fun _ _ => ⟨rfl, eT, hc, hs⟩)
  dsimp only [Pt.U, Pt.locs, Pt.cells, Pt.slots] at X' h2 hg l' y' z' stp hQ hC' hwd' hOl' hSf
  subst l' y' z'
  rw [eT] at hg
  exact (G v T' T'.heap (fun ws2 hw2 => ⟨hall, T'.vm, T'.heap.size, locs ++ L, X', rfl, hS.trans h2 (Nat.le_trans hk hg), Nat.le_refl _, State.Warmed39.trans (t := s.setVm vm0) hZ h2.1, hC.trans hC', fun x hx => (hw2 x hx).elim (fun q => ⟨Nat.lt_of_lt_of_le (hws x q).1 hg, hC'.safe (hws x q).1 (hws x q).2⟩) (fun q => hSf x q), hF.app hF', (fun q => State.WarmedH.trans (hwd q) (hwd' q)), hOl'⟩) hg hQ).back fun t q => stp.trans q
theorem CtS.of {y : MethodName} {ret : Option FieldType} {cs : List Jvm.Cond} {rm : Room} {as' : Array Value} {Q : Option Value → Heap → Prop} (hpl : plainFor y = true) (hEL : EW Z a0 EL)
    (body : ∀ (p : Program) (e : Env) (s : State) (m : MethodId) (below : List Frame) (meth : Method) (c : Code) (T : State), Wk p l e rm s m as' below meth c Z a0 EL n0 kn wd y.cls bytes ml ws T h 0 0 → meth.sig.returnType = ret → meth.name = y.name → s.heap = h → Go p e below (PoS s Z EL n0 wd rm.cells rm.slots Q) T (entryFrame m as' ml)) :
    CtS l Z a0 EL n0 kn wd y bytes ml ret cs rm ws as' h Q := by
  refine MetFree.of_bodySF hpl hisR ?_
  intro p e s m args below meth c s₁ Bd hml hP hK
  obtain ⟨rfl, hZ, hh, hC, hOl, hws⟩ := hP
  have hown : s.vm.findClass y.cls = some m.cls := findClass_of_methodNamed Bd.named
  have X0 := Stand.of_body Bd
  have e0 : s₁.heap = h := by rw [← hh, Bd.state]; rfl
  have hO : Z.vm.findClass y.cls = some m.cls := by rw [← hZ.alike.findClass]; exact hown
  have hst : s₁.vm = s.vm := by rw [Bd.state]; rfl
  refine body p e s m below meth c s₁ ⟨⟨Bd.exec, Bd.bytes, hml, hO, hEL, BodyLoose.notSynchronized Bd, hK⟩, s.vm, 0, [], X0, e0, (State.WarmedH.refl s).since _, Nat.zero_le _, hZ, ?_, hws, Fr.nil n0, (fun _ => State.WarmedH.refl s), hOl⟩ Bd.returns (name_of_methodNamed Bd.named Bd.method).1 hh
  rw [hh]
  exact CHr.refl hC
/-- ldc of a String constant, nothing said of it -/
theorem gLdcO {index : Nat} {text : String} {nn : Nat} (W : Wk p l e R s m args below meth c Z a0 EL n0 kn true own bytes ml ws T h k n) (w : (Jvm.Cond.stringLink own index text).before a0 Z = true) (wS : ∀ a ∈ Bundle.stringAtoms, a.before a0 Z = true)
    (hd : decode bytes pc = .ok (.ldc index, 2)) (hp : pc + 2 = pc') (hn : 4 * text.toList.length ≤ nn) (hbig : nn ≤ 536870912) (hc : k + 2 ≤ R.cells) (hl : n + (nn + 4) ≤ R.slots)
    (G : ∀ T' h' a, Wk p l e R s m args below meth c Z a0 EL n0 kn true own bytes ml ws T' h' (k + 2) (n + (nn + 4)) → Ext h h' → Go p e below Φ T' (mkF m pc' Ls (.ref a :: st))) : Go p e below Φ T (mkF m pc Ls st) := by
  subst hp
  obtain ⟨⟨hx, hb', hml, hO, hE, hrest⟩, vm0, k0, locs, X, eT, hS, hk, hZ, hC, hws, hF, hwd, hOl⟩ := W
  obtain ⟨a, T', h', k1, X', e', E, hS', hk', hZ', -, hC', -, q⟩ := ldcOH X hx hZ ((hZ.alike.findClass own _).trans hO) w wS eT hS hk hE hC.1 (g := mkF m pc Ls st) rfl (hb hb' hd) hn hbig hc hl
  have sz : ∀ x ∈ ws, x < h'.size ∧ Safe Z EL T'.vm h' x := fun x hx' => ⟨Nat.lt_of_lt_of_le (hws x hx').1 E.1, hC'.safe (hws x hx').1 (hws x hx').2⟩
  exact (G T' h' a ⟨⟨hx, hb', hml, hO, hE, hrest⟩, T'.vm, k1, locs, X', e', hS', hk', hZ', hC.trans hC', sz, hF, (fun q => by cases q), hOl.ext E⟩ E).back q
end OwnLayer3
abbrev EL0 : List (String × Nat) := []
theorem w_0 {Z : State} {a0 : Array Value} (hw : ∀ d ∈ tables_1, d.before a0 Z = true) : (Jvm.Cond.arrayClass Jvm.ClassFile.FieldType.char).before a0 Z = true := hw _ (List.mem_of_getElem? (i := 0) rfl)
theorem w_1 {Z : State} {a0 : Array Value} (hw : ∀ d ∈ tables_1, d.before a0 Z = true) : (Jvm.Cond.methodLink "com/example/tame_chase/tamechase/PredicateEqualsPinLaw" (12 : Nat) ({ cls := "java/lang/String", name := "valueOf", desc := "(C)Ljava/lang/String;" } : Jvm.MethodName)).before a0 Z = true := hw _ (List.mem_of_getElem? (i := 1) rfl)
theorem w_2 {Z : State} {a0 : Array Value} (hw : ∀ d ∈ tables_1, d.before a0 Z = true) : (Jvm.Cond.static ({ cls := "java/lang/String", name := "valueOf", desc := "(C)Ljava/lang/String;" } : Jvm.MethodName)).before a0 Z = true := hw _ (List.mem_of_getElem? (i := 2) rfl)
theorem w_3 {Z : State} {a0 : Array Value} (hw : ∀ d ∈ tables_1, d.before a0 Z = true) : (Jvm.Cond.initialized "java/lang/String").before a0 Z = true := hw _ (List.mem_of_getElem? (i := 3) rfl)
theorem w_4 {Z : State} {a0 : Array Value} (hw : ∀ d ∈ tables_1, d.before a0 Z = true) : (Jvm.Cond.code ({ cls := "java/lang/String", name := "valueOf", desc := "(C)Ljava/lang/String;" } : Jvm.MethodName) jdk_42_method_139_code (1 : Nat) (Option.some (Jvm.ClassFile.FieldType.object "java/lang/String"))).before a0 Z = true := hw _ (List.mem_of_getElem? (i := 4) rfl)
theorem w_5 {Z : State} {a0 : Array Value} (hw : ∀ d ∈ tables_1, d.before a0 Z = true) : (Jvm.Cond.fieldLink "java/lang/String" (38 : Nat) "java/lang/String" "COMPACT_STRINGS" "Z").before a0 Z = true := hw _ (List.mem_of_getElem? (i := 5) rfl)
theorem w_6 {Z : State} {a0 : Array Value} (hw : ∀ d ∈ tables_1, d.before a0 Z = true) : (Jvm.Cond.methodLink "java/lang/String" (1015 : Nat) ({ cls := "java/lang/StringLatin1", name := "canEncode", desc := "(C)Z" } : Jvm.MethodName)).before a0 Z = true := hw _ (List.mem_of_getElem? (i := 6) rfl)
theorem w_7 {Z : State} {a0 : Array Value} (hw : ∀ d ∈ tables_1, d.before a0 Z = true) : (Jvm.Cond.static ({ cls := "java/lang/StringLatin1", name := "canEncode", desc := "(C)Z" } : Jvm.MethodName)).before a0 Z = true := hw _ (List.mem_of_getElem? (i := 7) rfl)
theorem w_8 {Z : State} {a0 : Array Value} (hw : ∀ d ∈ tables_1, d.before a0 Z = true) : (Jvm.Cond.initialized "java/lang/StringLatin1").before a0 Z = true := hw _ (List.mem_of_getElem? (i := 8) rfl)
theorem w_9 {Z : State} {a0 : Array Value} (hw : ∀ d ∈ tables_1, d.before a0 Z = true) : (Jvm.Cond.code ({ cls := "java/lang/StringLatin1", name := "canEncode", desc := "(C)Z" } : Jvm.MethodName) jdk_43_method_3_code (1 : Nat) (Option.some Jvm.ClassFile.FieldType.boolean)).before a0 Z = true := hw _ (List.mem_of_getElem? (i := 9) rfl)
theorem w_10 {Z : State} {a0 : Array Value} (hw : ∀ d ∈ tables_1, d.before a0 Z = true) : (Jvm.Cond.classLink "java/lang/String" (10 : Nat) "java/lang/String").before a0 Z = true := hw _ (List.mem_of_getElem? (i := 10) rfl)
theorem w_11 {Z : State} {a0 : Array Value} (hw : ∀ d ∈ tables_1, d.before a0 Z = true) : (Jvm.Cond.instantiable "java/lang/String" (4 : Nat)).before a0 Z = true := hw _ (List.mem_of_getElem? (i := 11) rfl)
theorem w_12 {Z : State} {a0 : Array Value} (hw : ∀ d ∈ tables_1, d.before a0 Z = true) : (Jvm.Cond.methodLink "java/lang/String" (1018 : Nat) ({ cls := "java/lang/StringLatin1", name := "toBytes", desc := "(C)[B" } : Jvm.MethodName)).before a0 Z = true := hw _ (List.mem_of_getElem? (i := 12) rfl)
theorem w_13 {Z : State} {a0 : Array Value} (hw : ∀ d ∈ tables_1, d.before a0 Z = true) : (Jvm.Cond.static ({ cls := "java/lang/StringLatin1", name := "toBytes", desc := "(C)[B" } : Jvm.MethodName)).before a0 Z = true := hw _ (List.mem_of_getElem? (i := 13) rfl)
theorem w_14 {Z : State} {a0 : Array Value} (hw : ∀ d ∈ tables_1, d.before a0 Z = true) : (Jvm.Cond.code ({ cls := "java/lang/StringLatin1", name := "toBytes", desc := "(C)[B" } : Jvm.MethodName) jdk_43_method_46_code (1 : Nat) (Option.some (Jvm.ClassFile.FieldType.array Jvm.ClassFile.FieldType.byte))).before a0 Z = true := hw _ (List.mem_of_getElem? (i := 14) rfl)
theorem w_15 {Z : State} {a0 : Array Value} (hw : ∀ d ∈ tables_1, d.before a0 Z = true) : (Jvm.Cond.arrayClass Jvm.ClassFile.FieldType.byte).before a0 Z = true := hw _ (List.mem_of_getElem? (i := 15) rfl)
theorem w_16 {Z : State} {a0 : Array Value} (hw : ∀ d ∈ tables_1, d.before a0 Z = true) : (Jvm.Cond.methodLink "java/lang/String" (209 : Nat) ({ cls := "java/lang/String", name := "<init>", desc := "([BB)V" } : Jvm.MethodName)).before a0 Z = true := hw _ (List.mem_of_getElem? (i := 16) rfl)
theorem w_17 {Z : State} {a0 : Array Value} (hw : ∀ d ∈ tables_1, d.before a0 Z = true) : (Jvm.Cond.instanceMethod ({ cls := "java/lang/String", name := "<init>", desc := "([BB)V" } : Jvm.MethodName)).before a0 Z = true := hw _ (List.mem_of_getElem? (i := 17) rfl)
theorem w_19 {Z : State} {a0 : Array Value} (hw : ∀ d ∈ tables_1, d.before a0 Z = true) : (Jvm.Cond.code ({ cls := "java/lang/String", name := "<init>", desc := "([BB)V" } : Jvm.MethodName) jdk_42_method_151_code (3 : Nat) (Option.none : Option Jvm.ClassFile.FieldType)).before a0 Z = true := hw _ (List.mem_of_getElem? (i := 19) rfl)
theorem w_20 {Z : State} {a0 : Array Value} (hw : ∀ d ∈ tables_1, d.before a0 Z = true) : (Jvm.Cond.methodLink "java/lang/String" (1 : Nat) ({ cls := "java/lang/Object", name := "<init>", desc := "()V" } : Jvm.MethodName)).before a0 Z = true := hw _ (List.mem_of_getElem? (i := 20) rfl)
theorem w_21 {Z : State} {a0 : Array Value} (hw : ∀ d ∈ tables_1, d.before a0 Z = true) : (Jvm.Cond.instanceMethod ({ cls := "java/lang/Object", name := "<init>", desc := "()V" } : Jvm.MethodName)).before a0 Z = true := hw _ (List.mem_of_getElem? (i := 21) rfl)
theorem w_22 {Z : State} {a0 : Array Value} (hw : ∀ d ∈ tables_1, d.before a0 Z = true) : (Jvm.Cond.code ({ cls := "java/lang/Object", name := "<init>", desc := "()V" } : Jvm.MethodName) object_method_1_code (1 : Nat) (Option.none : Option Jvm.ClassFile.FieldType)).before a0 Z = true := hw _ (List.mem_of_getElem? (i := 22) rfl)
theorem w_23 {Z : State} {a0 : Array Value} (hw : ∀ d ∈ tables_1, d.before a0 Z = true) : (Jvm.Cond.fieldLink "java/lang/String" (9 : Nat) "java/lang/String" "value" "[B").before a0 Z = true := hw _ (List.mem_of_getElem? (i := 23) rfl)
theorem w_24 {Z : State} {a0 : Array Value} (hw : ∀ d ∈ tables_1, d.before a0 Z = true) : (Jvm.Cond.laysFinal "java/lang/String" "java/lang/String" "value" "[B").before a0 Z = true := hw _ (List.mem_of_getElem? (i := 24) rfl)
theorem w_25 {Z : State} {a0 : Array Value} (hw : ∀ d ∈ tables_1, d.before a0 Z = true) : (Jvm.Cond.fieldLink "java/lang/String" (15 : Nat) "java/lang/String" "coder" "B").before a0 Z = true := hw _ (List.mem_of_getElem? (i := 25) rfl)
theorem w_26 {Z : State} {a0 : Array Value} (hw : ∀ d ∈ tables_1, d.before a0 Z = true) : (Jvm.Cond.laysFinal "java/lang/String" "java/lang/String" "coder" "B").before a0 Z = true := hw _ (List.mem_of_getElem? (i := 26) rfl)
theorem w_27 {Z : State} {a0 : Array Value} (hw : ∀ d ∈ tables_1, d.before a0 Z = true) : (Jvm.Cond.constant "com/example/tame_chase/tamechase/PredicateEqualsPinLaw" (16 : Nat) (2147483647 : Int32)).before a0 Z = true := hw _ (List.mem_of_getElem? (i := 27) rfl)
theorem w_28 {Z : State} {a0 : Array Value} (hw : ∀ d ∈ tables_1, d.before a0 Z = true) : (Jvm.Cond.classLink "com/example/tame_chase/tamechase/PredicateEqualsPinLaw" (17 : Nat) "com/example/tame_chase/tamechase/Predicate").before a0 Z = true := hw _ (List.mem_of_getElem? (i := 28) rfl)
theorem w_29 {Z : State} {a0 : Array Value} (hw : ∀ d ∈ tables_1, d.before a0 Z = true) : (Jvm.Cond.instantiable "com/example/tame_chase/tamechase/Predicate" (2 : Nat)).before a0 Z = true := hw _ (List.mem_of_getElem? (i := 29) rfl)
theorem w_30 {Z : State} {a0 : Array Value} (hw : ∀ d ∈ tables_1, d.before a0 Z = true) : (Jvm.Cond.initialized "com/example/tame_chase/tamechase/Predicate").before a0 Z = true := hw _ (List.mem_of_getElem? (i := 30) rfl)
theorem w_31 {Z : State} {a0 : Array Value} (hw : ∀ d ∈ tables_1, d.before a0 Z = true) : (Jvm.Cond.methodLink "com/example/tame_chase/tamechase/PredicateEqualsPinLaw" (19 : Nat) ({ cls := "com/example/tame_chase/tamechase/Predicate", name := "<init>", desc := "(Ljava/lang/String;I)V" } : Jvm.MethodName)).before a0 Z = true := hw _ (List.mem_of_getElem? (i := 31) rfl)
theorem w_32 {Z : State} {a0 : Array Value} (hw : ∀ d ∈ tables_1, d.before a0 Z = true) : (Jvm.Cond.instanceMethod ({ cls := "com/example/tame_chase/tamechase/Predicate", name := "<init>", desc := "(Ljava/lang/String;I)V" } : Jvm.MethodName)).before a0 Z = true := hw _ (List.mem_of_getElem? (i := 32) rfl)
theorem w_33 {Z : State} {a0 : Array Value} (hw : ∀ d ∈ tables_1, d.before a0 Z = true) : (Jvm.Cond.code ({ cls := "com/example/tame_chase/tamechase/Predicate", name := "<init>", desc := "(Ljava/lang/String;I)V" } : Jvm.MethodName) prog_52_method_1_code (3 : Nat) (Option.none : Option Jvm.ClassFile.FieldType)).before a0 Z = true := hw _ (List.mem_of_getElem? (i := 33) rfl)
theorem w_34 {Z : State} {a0 : Array Value} (hw : ∀ d ∈ tables_1, d.before a0 Z = true) : (Jvm.Cond.methodLink "com/example/tame_chase/tamechase/Predicate" (1 : Nat) ({ cls := "java/lang/Object", name := "<init>", desc := "()V" } : Jvm.MethodName)).before a0 Z = true := hw _ (List.mem_of_getElem? (i := 34) rfl)
theorem w_35 {Z : State} {a0 : Array Value} (hw : ∀ d ∈ tables_1, d.before a0 Z = true) : (Jvm.Cond.stringLink "com/example/tame_chase/tamechase/Predicate" (7 : Nat) "name").before a0 Z = true := hw _ (List.mem_of_getElem? (i := 35) rfl)
theorem w_36 {Z : State} {a0 : Array Value} (hw : ∀ d ∈ tables_1, d.before a0 Z = true) : (Jvm.Cond.soleField "java/lang/String" "value").before a0 Z = true := hw _ (List.mem_of_getElem? (i := 36) rfl)
theorem w_37 {Z : State} {a0 : Array Value} (hw : ∀ d ∈ tables_1, d.before a0 Z = true) : (Jvm.Cond.soleField "java/lang/String" "coder").before a0 Z = true := hw _ (List.mem_of_getElem? (i := 37) rfl)
theorem w_38 {Z : State} {a0 : Array Value} (hw : ∀ d ∈ tables_1, d.before a0 Z = true) : (Jvm.Cond.methodLink "com/example/tame_chase/tamechase/Predicate" (9 : Nat) ({ cls := "java/util/Objects", name := "requireNonNull", desc := "(Ljava/lang/Object;Ljava/lang/String;)Ljava/lang/Object;" } : Jvm.MethodName)).before a0 Z = true := hw _ (List.mem_of_getElem? (i := 38) rfl)
theorem w_39 {Z : State} {a0 : Array Value} (hw : ∀ d ∈ tables_1, d.before a0 Z = true) : (Jvm.Cond.static ({ cls := "java/util/Objects", name := "requireNonNull", desc := "(Ljava/lang/Object;Ljava/lang/String;)Ljava/lang/Object;" } : Jvm.MethodName)).before a0 Z = true := hw _ (List.mem_of_getElem? (i := 39) rfl)
theorem w_40 {Z : State} {a0 : Array Value} (hw : ∀ d ∈ tables_1, d.before a0 Z = true) : (Jvm.Cond.initialized "java/util/Objects").before a0 Z = true := hw _ (List.mem_of_getElem? (i := 40) rfl)
theorem w_41 {Z : State} {a0 : Array Value} (hw : ∀ d ∈ tables_1, d.before a0 Z = true) : (Jvm.Cond.code ({ cls := "java/util/Objects", name := "requireNonNull", desc := "(Ljava/lang/Object;Ljava/lang/String;)Ljava/lang/Object;" } : Jvm.MethodName) jdk_31_method_11_code (2 : Nat) (Option.some (Jvm.ClassFile.FieldType.object "java/lang/Object"))).before a0 Z = true := hw _ (List.mem_of_getElem? (i := 41) rfl)
theorem w_42 {Z : State} {a0 : Array Value} (hw : ∀ d ∈ tables_1, d.before a0 Z = true) : (Jvm.Cond.classLink "com/example/tame_chase/tamechase/Predicate" (15 : Nat) "java/lang/String").before a0 Z = true := hw _ (List.mem_of_getElem? (i := 42) rfl)
theorem w_43 {Z : State} {a0 : Array Value} (hw : ∀ d ∈ tables_1, d.before a0 Z = true) : (Jvm.Cond.methodLink "com/example/tame_chase/tamechase/Predicate" (17 : Nat) ({ cls := "java/lang/String", name := "isEmpty", desc := "()Z" } : Jvm.MethodName)).before a0 Z = true := hw _ (List.mem_of_getElem? (i := 43) rfl)
theorem w_44 {Z : State} {a0 : Array Value} (hw : ∀ d ∈ tables_1, d.before a0 Z = true) : (Jvm.Cond.declares ({ cls := "java/lang/String", name := "isEmpty", desc := "()Z" } : Jvm.MethodName)).before a0 Z = true := hw _ (List.mem_of_getElem? (i := 44) rfl)
theorem w_45 {Z : State} {a0 : Array Value} (hw : ∀ d ∈ tables_1, d.before a0 Z = true) : (Jvm.Cond.instanceMethod ({ cls := "java/lang/String", name := "isEmpty", desc := "()Z" } : Jvm.MethodName)).before a0 Z = true := hw _ (List.mem_of_getElem? (i := 45) rfl)
theorem w_46 {Z : State} {a0 : Array Value} (hw : ∀ d ∈ tables_1, d.before a0 Z = true) : (Jvm.Cond.selects "java/lang/String" ({ cls := "java/lang/String", name := "isEmpty", desc := "()Z" } : Jvm.MethodName) ({ cls := "java/lang/String", name := "isEmpty", desc := "()Z" } : Jvm.MethodName)).before a0 Z = true := hw _ (List.mem_of_getElem? (i := 46) rfl)
theorem w_47 {Z : State} {a0 : Array Value} (hw : ∀ d ∈ tables_1, d.before a0 Z = true) : (Jvm.Cond.code ({ cls := "java/lang/String", name := "isEmpty", desc := "()Z" } : Jvm.MethodName) jdk_42_method_55_code (1 : Nat) (Option.some Jvm.ClassFile.FieldType.boolean)).before a0 Z = true := hw _ (List.mem_of_getElem? (i := 47) rfl)
theorem w_48 {Z : State} {a0 : Array Value} (hw : ∀ d ∈ tables_1, d.before a0 Z = true) : (Jvm.Cond.fieldLink "com/example/tame_chase/tamechase/Predicate" (32 : Nat) "com/example/tame_chase/tamechase/Predicate" "name" "Ljava/lang/String;").before a0 Z = true := hw _ (List.mem_of_getElem? (i := 48) rfl)
theorem w_49 {Z : State} {a0 : Array Value} (hw : ∀ d ∈ tables_1, d.before a0 Z = true) : (Jvm.Cond.laysFinal "com/example/tame_chase/tamechase/Predicate" "com/example/tame_chase/tamechase/Predicate" "name" "Ljava/lang/String;").before a0 Z = true := hw _ (List.mem_of_getElem? (i := 49) rfl)
theorem w_50 {Z : State} {a0 : Array Value} (hw : ∀ d ∈ tables_1, d.before a0 Z = true) : (Jvm.Cond.fieldLink "com/example/tame_chase/tamechase/Predicate" (37 : Nat) "com/example/tame_chase/tamechase/Predicate" "arity" "I").before a0 Z = true := hw _ (List.mem_of_getElem? (i := 50) rfl)
theorem w_51 {Z : State} {a0 : Array Value} (hw : ∀ d ∈ tables_1, d.before a0 Z = true) : (Jvm.Cond.laysFinal "com/example/tame_chase/tamechase/Predicate" "com/example/tame_chase/tamechase/Predicate" "arity" "I").before a0 Z = true := hw _ (List.mem_of_getElem? (i := 51) rfl)
theorem w_52 {Z : State} {a0 : Array Value} (hw : ∀ d ∈ tables_1, d.before a0 Z = true) : (Jvm.Cond.methodLink "com/example/tame_chase/tamechase/PredicateEqualsPinLaw" (22 : Nat) ({ cls := "com/example/tame_chase/tamechase/Predicate", name := "equals", desc := "(Ljava/lang/Object;)Z" } : Jvm.MethodName)).before a0 Z = true := hw _ (List.mem_of_getElem? (i := 52) rfl)
theorem w_53 {Z : State} {a0 : Array Value} (hw : ∀ d ∈ tables_1, d.before a0 Z = true) : (Jvm.Cond.declares ({ cls := "com/example/tame_chase/tamechase/Predicate", name := "equals", desc := "(Ljava/lang/Object;)Z" } : Jvm.MethodName)).before a0 Z = true := hw _ (List.mem_of_getElem? (i := 53) rfl)
theorem w_54 {Z : State} {a0 : Array Value} (hw : ∀ d ∈ tables_1, d.before a0 Z = true) : (Jvm.Cond.instanceMethod ({ cls := "com/example/tame_chase/tamechase/Predicate", name := "equals", desc := "(Ljava/lang/Object;)Z" } : Jvm.MethodName)).before a0 Z = true := hw _ (List.mem_of_getElem? (i := 54) rfl)
theorem w_55 {Z : State} {a0 : Array Value} (hw : ∀ d ∈ tables_1, d.before a0 Z = true) : (Jvm.Cond.selects "com/example/tame_chase/tamechase/Predicate" ({ cls := "com/example/tame_chase/tamechase/Predicate", name := "equals", desc := "(Ljava/lang/Object;)Z" } : Jvm.MethodName) ({ cls := "com/example/tame_chase/tamechase/Predicate", name := "equals", desc := "(Ljava/lang/Object;)Z" } : Jvm.MethodName)).before a0 Z = true := hw _ (List.mem_of_getElem? (i := 55) rfl)
theorem w_56 {Z : State} {a0 : Array Value} (hw : ∀ d ∈ tables_1, d.before a0 Z = true) : (Jvm.Cond.code ({ cls := "com/example/tame_chase/tamechase/Predicate", name := "equals", desc := "(Ljava/lang/Object;)Z" } : Jvm.MethodName) prog_52_method_4_code (3 : Nat) (Option.some Jvm.ClassFile.FieldType.boolean)).before a0 Z = true := hw _ (List.mem_of_getElem? (i := 56) rfl)
theorem w_57 {Z : State} {a0 : Array Value} (hw : ∀ d ∈ tables_1, d.before a0 Z = true) : (Jvm.Cond.classLink "com/example/tame_chase/tamechase/Predicate" (33 : Nat) "com/example/tame_chase/tamechase/Predicate").before a0 Z = true := hw _ (List.mem_of_getElem? (i := 57) rfl)
theorem w_59 {Z : State} {a0 : Array Value} (hw : ∀ d ∈ tables_1, d.before a0 Z = true) : (Jvm.Cond.superclass "java/lang/String" "java/lang/Object").before a0 Z = true := hw _ (List.mem_of_getElem? (i := 59) rfl)
theorem w_60 {Z : State} {a0 : Array Value} (hw : ∀ d ∈ tables_1, d.before a0 Z = true) : (Jvm.Cond.noSuperclass "java/lang/Object").before a0 Z = true := hw _ (List.mem_of_getElem? (i := 60) rfl)
theorem w_61 {Z : State} {a0 : Array Value} (hw : ∀ d ∈ tables_1, d.before a0 Z = true) : (Jvm.Cond.classLink "com/example/tame_chase/tamechase/PredicateEqualsPinLaw" (7 : Nat) "java/lang/String").before a0 Z = true := hw _ (List.mem_of_getElem? (i := 61) rfl)
theorem w_62 {Z : State} {a0 : Array Value} (hw : ∀ d ∈ tables_1, d.before a0 Z = true) : (Jvm.Cond.methodLink "com/example/tame_chase/tamechase/PredicateEqualsPinLaw" (9 : Nat) ({ cls := "java/lang/String", name := "<init>", desc := "([C)V" } : Jvm.MethodName)).before a0 Z = true := hw _ (List.mem_of_getElem? (i := 62) rfl)
theorem w_63 {Z : State} {a0 : Array Value} (hw : ∀ d ∈ tables_1, d.before a0 Z = true) : (Jvm.Cond.instanceMethod ({ cls := "java/lang/String", name := "<init>", desc := "([C)V" } : Jvm.MethodName)).before a0 Z = true := hw _ (List.mem_of_getElem? (i := 63) rfl)
theorem w_64 {Z : State} {a0 : Array Value} (hw : ∀ d ∈ tables_1, d.before a0 Z = true) : (Jvm.Cond.code ({ cls := "java/lang/String", name := "<init>", desc := "([C)V" } : Jvm.MethodName) jdk_42_method_3_code (2 : Nat) (Option.none : Option Jvm.ClassFile.FieldType)).before a0 Z = true := hw _ (List.mem_of_getElem? (i := 64) rfl)
theorem w_65 {Z : State} {a0 : Array Value} (hw : ∀ d ∈ tables_1, d.before a0 Z = true) : (Jvm.Cond.methodLink "java/lang/String" (27 : Nat) ({ cls := "java/lang/String", name := "<init>", desc := "([CIILjava/lang/Void;)V" } : Jvm.MethodName)).before a0 Z = true := hw _ (List.mem_of_getElem? (i := 65) rfl)
theorem w_66 {Z : State} {a0 : Array Value} (hw : ∀ d ∈ tables_1, d.before a0 Z = true) : (Jvm.Cond.instanceMethod ({ cls := "java/lang/String", name := "<init>", desc := "([CIILjava/lang/Void;)V" } : Jvm.MethodName)).before a0 Z = true := hw _ (List.mem_of_getElem? (i := 66) rfl)
theorem w_67 {Z : State} {a0 : Array Value} (hw : ∀ d ∈ tables_1, d.before a0 Z = true) : (Jvm.Cond.code ({ cls := "java/lang/String", name := "<init>", desc := "([CIILjava/lang/Void;)V" } : Jvm.MethodName) jdk_42_method_149_code (6 : Nat) (Option.none : Option Jvm.ClassFile.FieldType)).before a0 Z = true := hw _ (List.mem_of_getElem? (i := 67) rfl)
theorem w_68 {Z : State} {a0 : Array Value} (hw : ∀ d ∈ tables_1, d.before a0 Z = true) : (Jvm.Cond.methodLink "java/lang/String" (177 : Nat) ({ cls := "java/lang/StringUTF16", name := "compress", desc := "([CII)[B" } : Jvm.MethodName)).before a0 Z = true := hw _ (List.mem_of_getElem? (i := 68) rfl)
theorem w_69 {Z : State} {a0 : Array Value} (hw : ∀ d ∈ tables_1, d.before a0 Z = true) : (Jvm.Cond.static ({ cls := "java/lang/StringUTF16", name := "compress", desc := "([CII)[B" } : Jvm.MethodName)).before a0 Z = true := hw _ (List.mem_of_getElem? (i := 69) rfl)
theorem w_70 {Z : State} {a0 : Array Value} (hw : ∀ d ∈ tables_1, d.before a0 Z = true) : (Jvm.Cond.initialized "java/lang/StringUTF16").before a0 Z = true := hw _ (List.mem_of_getElem? (i := 70) rfl)
theorem w_71 {Z : State} {a0 : Array Value} (hw : ∀ d ∈ tables_1, d.before a0 Z = true) : (Jvm.Cond.code ({ cls := "java/lang/StringUTF16", name := "compress", desc := "([CII)[B" } : Jvm.MethodName) jdk_52_method_16_code (6 : Nat) (Option.some (Jvm.ClassFile.FieldType.array Jvm.ClassFile.FieldType.byte))).before a0 Z = true := hw _ (List.mem_of_getElem? (i := 71) rfl)
theorem w_72 {Z : State} {a0 : Array Value} (hw : ∀ d ∈ tables_1, d.before a0 Z = true) : (Jvm.Cond.methodLink "java/lang/StringUTF16" (115 : Nat) ({ cls := "java/lang/StringUTF16", name := "compress", desc := "([CI[BII)I" } : Jvm.MethodName)).before a0 Z = true := hw _ (List.mem_of_getElem? (i := 72) rfl)
theorem w_73 {Z : State} {a0 : Array Value} (hw : ∀ d ∈ tables_1, d.before a0 Z = true) : (Jvm.Cond.static ({ cls := "java/lang/StringUTF16", name := "compress", desc := "([CI[BII)I" } : Jvm.MethodName)).before a0 Z = true := hw _ (List.mem_of_getElem? (i := 73) rfl)
theorem w_74 {Z : State} {a0 : Array Value} (hw : ∀ d ∈ tables_1, d.before a0 Z = true) : (Jvm.Cond.code ({ cls := "java/lang/StringUTF16", name := "compress", desc := "([CI[BII)I" } : Jvm.MethodName) jdk_52_method_21_code (7 : Nat) (Option.some Jvm.ClassFile.FieldType.int)).before a0 Z = true := hw _ (List.mem_of_getElem? (i := 74) rfl)
theorem w_75 {Z : State} {a0 : Array Value} (hw : ∀ d ∈ tables_1, d.before a0 Z = true) : (Jvm.Cond.methodLink "java/lang/String" (47 : Nat) ({ cls := "java/lang/StringUTF16", name := "coderFromArrayLen", desc := "([BI)B" } : Jvm.MethodName)).before a0 Z = true := hw _ (List.mem_of_getElem? (i := 75) rfl)
theorem w_76 {Z : State} {a0 : Array Value} (hw : ∀ d ∈ tables_1, d.before a0 Z = true) : (Jvm.Cond.static ({ cls := "java/lang/StringUTF16", name := "coderFromArrayLen", desc := "([BI)B" } : Jvm.MethodName)).before a0 Z = true := hw _ (List.mem_of_getElem? (i := 76) rfl)
theorem w_77 {Z : State} {a0 : Array Value} (hw : ∀ d ∈ tables_1, d.before a0 Z = true) : (Jvm.Cond.code ({ cls := "java/lang/StringUTF16", name := "coderFromArrayLen", desc := "([BI)B" } : Jvm.MethodName) jdk_52_method_15_code (2 : Nat) (Option.some Jvm.ClassFile.FieldType.byte)).before a0 Z = true := hw _ (List.mem_of_getElem? (i := 77) rfl)
theorem w_78 {Z : State} {a0 : Array Value} (hw : ∀ d ∈ tables_1, d.before a0 Z = true) : (Jvm.Cond.methodLink "java/lang/StringUTF16" (119 : Nat) ({ cls := "java/lang/StringUTF16", name := "toBytes", desc := "([CII)[B" } : Jvm.MethodName)).before a0 Z = true := hw _ (List.mem_of_getElem? (i := 78) rfl)
theorem w_79 {Z : State} {a0 : Array Value} (hw : ∀ d ∈ tables_1, d.before a0 Z = true) : (Jvm.Cond.static ({ cls := "java/lang/StringUTF16", name := "toBytes", desc := "([CII)[B" } : Jvm.MethodName)).before a0 Z = true := hw _ (List.mem_of_getElem? (i := 79) rfl)
theorem w_80 {Z : State} {a0 : Array Value} (hw : ∀ d ∈ tables_1, d.before a0 Z = true) : (Jvm.Cond.code ({ cls := "java/lang/StringUTF16", name := "toBytes", desc := "([CII)[B" } : Jvm.MethodName) jdk_52_method_14_code (5 : Nat) (Option.some (Jvm.ClassFile.FieldType.array Jvm.ClassFile.FieldType.byte))).before a0 Z = true := hw _ (List.mem_of_getElem? (i := 80) rfl)
theorem w_81 {Z : State} {a0 : Array Value} (hw : ∀ d ∈ tables_1, d.before a0 Z = true) : (Jvm.Cond.methodLink "java/lang/StringUTF16" (107 : Nat) ({ cls := "java/lang/StringUTF16", name := "newBytesFor", desc := "(I)[B" } : Jvm.MethodName)).before a0 Z = true := hw _ (List.mem_of_getElem? (i := 81) rfl)
theorem w_82 {Z : State} {a0 : Array Value} (hw : ∀ d ∈ tables_1, d.before a0 Z = true) : (Jvm.Cond.static ({ cls := "java/lang/StringUTF16", name := "newBytesFor", desc := "(I)[B" } : Jvm.MethodName)).before a0 Z = true := hw _ (List.mem_of_getElem? (i := 82) rfl)
theorem w_83 {Z : State} {a0 : Array Value} (hw : ∀ d ∈ tables_1, d.before a0 Z = true) : (Jvm.Cond.code ({ cls := "java/lang/StringUTF16", name := "newBytesFor", desc := "(I)[B" } : Jvm.MethodName) jdk_52_method_2_code (1 : Nat) (Option.some (Jvm.ClassFile.FieldType.array Jvm.ClassFile.FieldType.byte))).before a0 Z = true := hw _ (List.mem_of_getElem? (i := 83) rfl)
theorem w_84 {Z : State} {a0 : Array Value} (hw : ∀ d ∈ tables_1, d.before a0 Z = true) : (Jvm.Cond.methodLink "java/lang/StringUTF16" (11 : Nat) ({ cls := "java/lang/StringUTF16", name := "newBytesLength", desc := "(I)I" } : Jvm.MethodName)).before a0 Z = true := hw _ (List.mem_of_getElem? (i := 84) rfl)
theorem w_85 {Z : State} {a0 : Array Value} (hw : ∀ d ∈ tables_1, d.before a0 Z = true) : (Jvm.Cond.static ({ cls := "java/lang/StringUTF16", name := "newBytesLength", desc := "(I)I" } : Jvm.MethodName)).before a0 Z = true := hw _ (List.mem_of_getElem? (i := 85) rfl)
theorem w_86 {Z : State} {a0 : Array Value} (hw : ∀ d ∈ tables_1, d.before a0 Z = true) : (Jvm.Cond.code ({ cls := "java/lang/StringUTF16", name := "newBytesLength", desc := "(I)I" } : Jvm.MethodName) jdk_52_method_3_code (1 : Nat) (Option.some Jvm.ClassFile.FieldType.int)).before a0 Z = true := hw _ (List.mem_of_getElem? (i := 86) rfl)
theorem w_87 {Z : State} {a0 : Array Value} (hw : ∀ d ∈ tables_1, d.before a0 Z = true) : (Jvm.Cond.constant "java/lang/StringUTF16" (20 : Nat) (1073741823 : Int32)).before a0 Z = true := hw _ (List.mem_of_getElem? (i := 87) rfl)
theorem w_88 {Z : State} {a0 : Array Value} (hw : ∀ d ∈ tables_1, d.before a0 Z = true) : (Jvm.Cond.methodLink "java/lang/StringUTF16" (111 : Nat) ({ cls := "java/lang/StringUTF16", name := "putChar", desc := "([BII)V" } : Jvm.MethodName)).before a0 Z = true := hw _ (List.mem_of_getElem? (i := 88) rfl)
theorem w_89 {Z : State} {a0 : Array Value} (hw : ∀ d ∈ tables_1, d.before a0 Z = true) : (Jvm.Cond.static ({ cls := "java/lang/StringUTF16", name := "putChar", desc := "([BII)V" } : Jvm.MethodName)).before a0 Z = true := hw _ (List.mem_of_getElem? (i := 89) rfl)
theorem w_90 {Z : State} {a0 : Array Value} (hw : ∀ d ∈ tables_1, d.before a0 Z = true) : (Jvm.Cond.code ({ cls := "java/lang/StringUTF16", name := "putChar", desc := "([BII)V" } : Jvm.MethodName) jdk_52_method_4_code (3 : Nat) (Option.none : Option Jvm.ClassFile.FieldType)).before a0 Z = true := hw _ (List.mem_of_getElem? (i := 90) rfl)
theorem w_91 {Z : State} {a0 : Array Value} (hw : ∀ d ∈ tables_1, d.before a0 Z = true) : (Jvm.Cond.fieldLink "java/lang/StringUTF16" (44 : Nat) "java/lang/StringUTF16" "$assertionsDisabled" "Z").before a0 Z = true := hw _ (List.mem_of_getElem? (i := 91) rfl)
theorem w_92 {Z : State} {a0 : Array Value} (hw : ∀ d ∈ tables_1, d.before a0 Z = true) : (Jvm.Cond.fieldLink "java/lang/StringUTF16" (59 : Nat) "java/lang/StringUTF16" "HI_BYTE_SHIFT" "I").before a0 Z = true := hw _ (List.mem_of_getElem? (i := 92) rfl)
theorem w_93 {Z : State} {a0 : Array Value} (hw : ∀ d ∈ tables_1, d.before a0 Z = true) : (Jvm.Cond.fieldLink "java/lang/StringUTF16" (63 : Nat) "java/lang/StringUTF16" "LO_BYTE_SHIFT" "I").before a0 Z = true := hw _ (List.mem_of_getElem? (i := 93) rfl)
theorem w_94 {Z : State} {a0 : Array Value} (hw : ∀ d ∈ tables_1, d.before a0 Z = true) : (Jvm.Cond.methodLink "java/lang/StringUTF16" (71 : Nat) ({ cls := "java/lang/StringUTF16", name := "getChar", desc := "([BI)C" } : Jvm.MethodName)).before a0 Z = true := hw _ (List.mem_of_getElem? (i := 94) rfl)
theorem w_95 {Z : State} {a0 : Array Value} (hw : ∀ d ∈ tables_1, d.before a0 Z = true) : (Jvm.Cond.static ({ cls := "java/lang/StringUTF16", name := "getChar", desc := "([BI)C" } : Jvm.MethodName)).before a0 Z = true := hw _ (List.mem_of_getElem? (i := 95) rfl)
theorem w_96 {Z : State} {a0 : Array Value} (hw : ∀ d ∈ tables_1, d.before a0 Z = true) : (Jvm.Cond.code ({ cls := "java/lang/StringUTF16", name := "getChar", desc := "([BI)C" } : Jvm.MethodName) jdk_52_method_5_code (2 : Nat) (Option.some Jvm.ClassFile.FieldType.char)).before a0 Z = true := hw _ (List.mem_of_getElem? (i := 96) rfl)
theorem w_97 {Z : State} {a0 : Array Value} (hw : ∀ d ∈ tables_1, d.before a0 Z = true) : (Jvm.Cond.methodLink "java/lang/String" (1021 : Nat) ({ cls := "java/lang/StringUTF16", name := "toBytes", desc := "(C)[B" } : Jvm.MethodName)).before a0 Z = true := hw _ (List.mem_of_getElem? (i := 97) rfl)
theorem w_98 {Z : State} {a0 : Array Value} (hw : ∀ d ∈ tables_1, d.before a0 Z = true) : (Jvm.Cond.static ({ cls := "java/lang/StringUTF16", name := "toBytes", desc := "(C)[B" } : Jvm.MethodName)).before a0 Z = true := hw _ (List.mem_of_getElem? (i := 98) rfl)
theorem w_99 {Z : State} {a0 : Array Value} (hw : ∀ d ∈ tables_1, d.before a0 Z = true) : (Jvm.Cond.code ({ cls := "java/lang/StringUTF16", name := "toBytes", desc := "(C)[B" } : Jvm.MethodName) jdk_52_method_24_code (2 : Nat) (Option.some (Jvm.ClassFile.FieldType.array Jvm.ClassFile.FieldType.byte))).before a0 Z = true := hw _ (List.mem_of_getElem? (i := 99) rfl)
theorem w_100 {Z : State} {a0 : Array Value} (hw : ∀ d ∈ tables_1, d.before a0 Z = true) : (Jvm.Cond.methodLink "com/example/tame_chase/tamechase/Predicate" (41 : Nat) ({ cls := "java/lang/String", name := "equals", desc := "(Ljava/lang/Object;)Z" } : Jvm.MethodName)).before a0 Z = true := hw _ (List.mem_of_getElem? (i := 100) rfl)
theorem w_101 {Z : State} {a0 : Array Value} (hw : ∀ d ∈ tables_1, d.before a0 Z = true) : (Jvm.Cond.declares ({ cls := "java/lang/String", name := "equals", desc := "(Ljava/lang/Object;)Z" } : Jvm.MethodName)).before a0 Z = true := hw _ (List.mem_of_getElem? (i := 101) rfl)
theorem w_102 {Z : State} {a0 : Array Value} (hw : ∀ d ∈ tables_1, d.before a0 Z = true) : (Jvm.Cond.instanceMethod ({ cls := "java/lang/String", name := "equals", desc := "(Ljava/lang/Object;)Z" } : Jvm.MethodName)).before a0 Z = true := hw _ (List.mem_of_getElem? (i := 102) rfl)
theorem w_103 {Z : State} {a0 : Array Value} (hw : ∀ d ∈ tables_1, d.before a0 Z = true) : (Jvm.Cond.selects "java/lang/String" ({ cls := "java/lang/String", name := "equals", desc := "(Ljava/lang/Object;)Z" } : Jvm.MethodName) ({ cls := "java/lang/String", name := "equals", desc := "(Ljava/lang/Object;)Z" } : Jvm.MethodName)).before a0 Z = true := hw _ (List.mem_of_getElem? (i := 103) rfl)
theorem w_104 {Z : State} {a0 : Array Value} (hw : ∀ d ∈ tables_1, d.before a0 Z = true) : (Jvm.Cond.code ({ cls := "java/lang/String", name := "equals", desc := "(Ljava/lang/Object;)Z" } : Jvm.MethodName) jdk_42_method_66_code (3 : Nat) (Option.some Jvm.ClassFile.FieldType.boolean)).before a0 Z = true := hw _ (List.mem_of_getElem? (i := 104) rfl)
theorem w_105 {Z : State} {a0 : Array Value} (hw : ∀ d ∈ tables_1, d.before a0 Z = true) : (Jvm.Cond.methodLink "java/lang/String" (541 : Nat) ({ cls := "java/lang/StringLatin1", name := "equals", desc := "([B[B)Z" } : Jvm.MethodName)).before a0 Z = true := hw _ (List.mem_of_getElem? (i := 105) rfl)
theorem w_106 {Z : State} {a0 : Array Value} (hw : ∀ d ∈ tables_1, d.before a0 Z = true) : (Jvm.Cond.static ({ cls := "java/lang/StringLatin1", name := "equals", desc := "([B[B)Z" } : Jvm.MethodName)).before a0 Z = true := hw _ (List.mem_of_getElem? (i := 106) rfl)
theorem w_107 {Z : State} {a0 : Array Value} (hw : ∀ d ∈ tables_1, d.before a0 Z = true) : (Jvm.Cond.code ({ cls := "java/lang/StringLatin1", name := "equals", desc := "([B[B)Z" } : Jvm.MethodName) jdk_43_method_13_code (3 : Nat) (Option.some Jvm.ClassFile.FieldType.boolean)).before a0 Z = true := hw _ (List.mem_of_getElem? (i := 107) rfl)
theorem pd_0 : parseMethodDescriptor "(I)I" = some ⟨[.int], some .int⟩ := by decide +kernel
theorem pd_1 : parseMethodDescriptor "(I)[B" = some ⟨[.int], some (.array .byte)⟩ := by decide +kernel
theorem pd_2 : parseMethodDescriptor "([BII)V" = some ⟨[(.array .byte), .int, .int], none⟩ := by decide +kernel
theorem pd_3 : parseMethodDescriptor "([CI[BII)I" = some ⟨[(.array .char), .int, (.array .byte), .int, .int], some .int⟩ := by decide +kernel
theorem pd_4 : parseMethodDescriptor "([CII)[B" = some ⟨[(.array .char), .int, .int], some (.array .byte)⟩ := by decide +kernel
theorem pd_5 : parseMethodDescriptor "([BI)C" = some ⟨[(.array .byte), .int], some .char⟩ := by decide +kernel
theorem pd_6 : parseMethodDescriptor "([BI)B" = some ⟨[(.array .byte), .int], some .byte⟩ := by decide +kernel
theorem pd_7 : parseMethodDescriptor "([CIILjava/lang/Void;)V" = some ⟨[(.array .char), .int, .int, (.object "java/lang/Void")], none⟩ := by decide +kernel
theorem pd_8 : parseMethodDescriptor "(C)Z" = some ⟨[.char], some .boolean⟩ := by decide +kernel
theorem pd_9 : parseMethodDescriptor "(C)[B" = some ⟨[.char], some (.array .byte)⟩ := by decide +kernel
theorem pd_10 : parseMethodDescriptor "([BB)V" = some ⟨[(.array .byte), .byte], none⟩ := by decide +kernel
theorem pd_11 : parseMethodDescriptor "([B[B)Z" = some ⟨[(.array .byte), (.array .byte)], some .boolean⟩ := by decide +kernel
theorem pd_12 : parseMethodDescriptor "(Ljava/lang/Object;Ljava/lang/String;)Ljava/lang/Object;" = some ⟨[(.object "java/lang/Object"), (.object "java/lang/String")], some (.object "java/lang/Object")⟩ := by decide +kernel
theorem pd_13 : parseMethodDescriptor "()Z" = some ⟨[], some .boolean⟩ := by decide +kernel
theorem pd_14 : parseMethodDescriptor "(Ljava/lang/Object;)Z" = some ⟨[(.object "java/lang/Object")], some .boolean⟩ := by decide +kernel
theorem pd_15 : parseMethodDescriptor "(C)Ljava/lang/String;" = some ⟨[.char], some (.object "java/lang/String")⟩ := by decide +kernel
theorem pd_16 : parseMethodDescriptor "(Ljava/lang/String;I)V" = some ⟨[(.object "java/lang/String"), .int], none⟩ := by decide +kernel
theorem pd_17 : parseMethodDescriptor "([C)V" = some ⟨[(.array .char)], none⟩ := by decide +kernel
theorem pn_0 : plainName "java/lang/StringUTF16" = true := by first | (simp [plainName, overriddenIn]; done) | decide +kernel
theorem pn_1 : plainName "java/lang/String" = true := by first | (simp [plainName, overriddenIn]; done) | decide +kernel
theorem pn_2 : plainName "java/lang/StringLatin1" = true := by first | (simp [plainName, overriddenIn]; done) | decide +kernel
theorem pn_3 : plainName "java/util/Objects" = true := by first | (simp [plainName, overriddenIn]; done) | decide +kernel
theorem pn_4 : plainName "com/example/tame_chase/tamechase/Predicate" = true := by first | (simp [plainName, overriddenIn]; done) | decide +kernel
theorem pn_5 : plainName "com/example/tame_chase/tamechase/PredicateEqualsPinLaw" = true := by first | (simp [plainName, overriddenIn]; done) | decide +kernel
theorem d1_0 : decode jdk_42_method_139_code 0 = .ok (.getstatic 38, 3) := by decide +kernel
theorem d1_3 : decode jdk_42_method_139_code 3 = .ok (.ifCond .eq 23, 3) := by decide +kernel
theorem d1_6 : decode jdk_42_method_139_code 6 = .ok (.iload_n 0, 1) := by decide +kernel
theorem d1_7 : decode jdk_42_method_139_code 7 = .ok (.invokestatic 1015, 3) := by decide +kernel
theorem d1_10 : decode jdk_42_method_139_code 10 = .ok (.ifCond .eq 16, 3) := by decide +kernel
theorem d1_13 : decode jdk_42_method_139_code 13 = .ok (.new 10, 3) := by decide +kernel
theorem d1_16 : decode jdk_42_method_139_code 16 = .ok (.dup, 1) := by decide +kernel
theorem d1_17 : decode jdk_42_method_139_code 17 = .ok (.iload_n 0, 1) := by decide +kernel
theorem d1_18 : decode jdk_42_method_139_code 18 = .ok (.invokestatic 1018, 3) := by decide +kernel
theorem d1_21 : decode jdk_42_method_139_code 21 = .ok (.iconst 0, 1) := by decide +kernel
theorem d1_22 : decode jdk_42_method_139_code 22 = .ok (.invokespecial 209, 3) := by decide +kernel
theorem d1_25 : decode jdk_42_method_139_code 25 = .ok (.areturn, 1) := by decide +kernel
theorem d1_26 : decode jdk_42_method_139_code 26 = .ok (.new 10, 3) := by decide +kernel
theorem d1_29 : decode jdk_42_method_139_code 29 = .ok (.dup, 1) := by decide +kernel
theorem d1_30 : decode jdk_42_method_139_code 30 = .ok (.iload_n 0, 1) := by decide +kernel
theorem d1_31 : decode jdk_42_method_139_code 31 = .ok (.invokestatic 1021, 3) := by decide +kernel
theorem d1_34 : decode jdk_42_method_139_code 34 = .ok (.iconst 1, 1) := by decide +kernel
theorem d1_35 : decode jdk_42_method_139_code 35 = .ok (.invokespecial 209, 3) := by decide +kernel
theorem d1_38 : decode jdk_42_method_139_code 38 = .ok (.areturn, 1) := by decide +kernel
theorem d2_0 : decode jdk_43_method_3_code 0 = .ok (.iload_n 0, 1) := by decide +kernel
theorem d2_1 : decode jdk_43_method_3_code 1 = .ok (.sipush 255, 3) := by decide +kernel
theorem d2_4 : decode jdk_43_method_3_code 4 = .ok (.if_icmp .gt 7, 3) := by decide +kernel
theorem d2_7 : decode jdk_43_method_3_code 7 = .ok (.iconst 1, 1) := by decide +kernel
theorem d2_8 : decode jdk_43_method_3_code 8 = .ok (.goto 4, 3) := by decide +kernel
theorem d2_11 : decode jdk_43_method_3_code 11 = .ok (.iconst 0, 1) := by decide +kernel
theorem d2_12 : decode jdk_43_method_3_code 12 = .ok (.ireturn, 1) := by decide +kernel
theorem d3_0 : decode jdk_43_method_46_code 0 = .ok (.iconst 1, 1) := by decide +kernel
theorem d3_1 : decode jdk_43_method_46_code 1 = .ok (.newarray .byte, 2) := by decide +kernel
theorem d3_3 : decode jdk_43_method_46_code 3 = .ok (.dup, 1) := by decide +kernel
theorem d3_4 : decode jdk_43_method_46_code 4 = .ok (.iconst 0, 1) := by decide +kernel
theorem d3_5 : decode jdk_43_method_46_code 5 = .ok (.iload_n 0, 1) := by decide +kernel
theorem d3_6 : decode jdk_43_method_46_code 6 = .ok (.i2b, 1) := by decide +kernel
theorem d3_7 : decode jdk_43_method_46_code 7 = .ok (.bastore, 1) := by decide +kernel
theorem d3_8 : decode jdk_43_method_46_code 8 = .ok (.areturn, 1) := by decide +kernel
theorem d4_0 : decode jdk_42_method_151_code 0 = .ok (.aload_n 0, 1) := by decide +kernel
theorem d4_1 : decode jdk_42_method_151_code 1 = .ok (.invokespecial 1, 3) := by decide +kernel
theorem d4_4 : decode jdk_42_method_151_code 4 = .ok (.aload_n 0, 1) := by decide +kernel
theorem d4_5 : decode jdk_42_method_151_code 5 = .ok (.aload_n 1, 1) := by decide +kernel
theorem d4_6 : decode jdk_42_method_151_code 6 = .ok (.putfield 9, 3) := by decide +kernel
theorem d4_9 : decode jdk_42_method_151_code 9 = .ok (.aload_n 0, 1) := by decide +kernel
theorem d4_10 : decode jdk_42_method_151_code 10 = .ok (.iload_n 2, 1) := by decide +kernel
theorem d4_11 : decode jdk_42_method_151_code 11 = .ok (.putfield 15, 3) := by decide +kernel
theorem d4_14 : decode jdk_42_method_151_code 14 = .ok (.return_, 1) := by decide +kernel
theorem d6_0 : decode prog_52_method_1_code 0 = .ok (.aload_n 0, 1) := by decide +kernel
theorem d6_1 : decode prog_52_method_1_code 1 = .ok (.invokespecial 1, 3) := by decide +kernel
theorem d6_4 : decode prog_52_method_1_code 4 = .ok (.aload_n 1, 1) := by decide +kernel
theorem d6_5 : decode prog_52_method_1_code 5 = .ok (.ldc 7, 2) := by decide +kernel
theorem d6_7 : decode prog_52_method_1_code 7 = .ok (.invokestatic 9, 3) := by decide +kernel
theorem d6_10 : decode prog_52_method_1_code 10 = .ok (.checkcast 15, 3) := by decide +kernel
theorem d6_13 : decode prog_52_method_1_code 13 = .ok (.invokevirtual 17, 3) := by decide +kernel
theorem d6_16 : decode prog_52_method_1_code 16 = .ok (.ifCond .eq 13, 3) := by decide +kernel
theorem d6_29 : decode prog_52_method_1_code 29 = .ok (.iload_n 2, 1) := by decide +kernel
theorem d6_30 : decode prog_52_method_1_code 30 = .ok (.ifCond .ge 17, 3) := by decide +kernel
theorem d6_47 : decode prog_52_method_1_code 47 = .ok (.aload_n 0, 1) := by decide +kernel
theorem d6_48 : decode prog_52_method_1_code 48 = .ok (.aload_n 1, 1) := by decide +kernel
theorem d6_49 : decode prog_52_method_1_code 49 = .ok (.putfield 32, 3) := by decide +kernel
theorem d6_52 : decode prog_52_method_1_code 52 = .ok (.aload_n 0, 1) := by decide +kernel
theorem d6_53 : decode prog_52_method_1_code 53 = .ok (.iload_n 2, 1) := by decide +kernel
theorem d6_54 : decode prog_52_method_1_code 54 = .ok (.putfield 37, 3) := by decide +kernel
theorem d6_57 : decode prog_52_method_1_code 57 = .ok (.return_, 1) := by decide +kernel
theorem d7_0 : decode jdk_31_method_11_code 0 = .ok (.aload_n 0, 1) := by decide +kernel
theorem d7_1 : decode jdk_31_method_11_code 1 = .ok (.ifnonnull 12, 3) := by decide +kernel
theorem d7_13 : decode jdk_31_method_11_code 13 = .ok (.aload_n 0, 1) := by decide +kernel
theorem d7_14 : decode jdk_31_method_11_code 14 = .ok (.areturn, 1) := by decide +kernel
theorem d8_0 : decode jdk_42_method_55_code 0 = .ok (.aload_n 0, 1) := by decide +kernel
theorem d8_1 : decode jdk_42_method_55_code 1 = .ok (.getfield 9, 3) := by decide +kernel
theorem d8_4 : decode jdk_42_method_55_code 4 = .ok (.arraylength, 1) := by decide +kernel
theorem d8_5 : decode jdk_42_method_55_code 5 = .ok (.ifCond .ne 7, 3) := by decide +kernel
theorem d8_12 : decode jdk_42_method_55_code 12 = .ok (.iconst 0, 1) := by decide +kernel
theorem d8_13 : decode jdk_42_method_55_code 13 = .ok (.ireturn, 1) := by decide +kernel
theorem d9_0 : decode prog_52_method_4_code 0 = .ok (.aload_n 0, 1) := by decide +kernel
theorem d9_1 : decode prog_52_method_4_code 1 = .ok (.aload_n 1, 1) := by decide +kernel
theorem d9_2 : decode prog_52_method_4_code 2 = .ok (.if_acmp .ne 5, 3) := by decide +kernel
theorem d9_5 : decode prog_52_method_4_code 5 = .ok (.iconst 1, 1) := by decide +kernel
theorem d9_6 : decode prog_52_method_4_code 6 = .ok (.ireturn, 1) := by decide +kernel
theorem d9_7 : decode prog_52_method_4_code 7 = .ok (.aload_n 1, 1) := by decide +kernel
theorem d9_8 : decode prog_52_method_4_code 8 = .ok (.instanceof 33, 3) := by decide +kernel
theorem d9_11 : decode prog_52_method_4_code 11 = .ok (.ifCond .ne 5, 3) := by decide +kernel
theorem d9_14 : decode prog_52_method_4_code 14 = .ok (.iconst 0, 1) := by decide +kernel
theorem d9_15 : decode prog_52_method_4_code 15 = .ok (.ireturn, 1) := by decide +kernel
theorem d9_16 : decode prog_52_method_4_code 16 = .ok (.aload_n 1, 1) := by decide +kernel
theorem d9_17 : decode prog_52_method_4_code 17 = .ok (.checkcast 33, 3) := by decide +kernel
theorem d9_20 : decode prog_52_method_4_code 20 = .ok (.astore_n 2, 1) := by decide +kernel
theorem d9_21 : decode prog_52_method_4_code 21 = .ok (.aload_n 0, 1) := by decide +kernel
theorem d9_22 : decode prog_52_method_4_code 22 = .ok (.getfield 37, 3) := by decide +kernel
theorem d9_25 : decode prog_52_method_4_code 25 = .ok (.aload_n 2, 1) := by decide +kernel
theorem d9_26 : decode prog_52_method_4_code 26 = .ok (.getfield 37, 3) := by decide +kernel
theorem d9_29 : decode prog_52_method_4_code 29 = .ok (.if_icmp .ne 21, 3) := by decide +kernel
theorem d9_32 : decode prog_52_method_4_code 32 = .ok (.aload_n 0, 1) := by decide +kernel
theorem d9_33 : decode prog_52_method_4_code 33 = .ok (.getfield 32, 3) := by decide +kernel
theorem d9_36 : decode prog_52_method_4_code 36 = .ok (.aload_n 2, 1) := by decide +kernel
theorem d9_37 : decode prog_52_method_4_code 37 = .ok (.getfield 32, 3) := by decide +kernel
theorem d9_40 : decode prog_52_method_4_code 40 = .ok (.invokevirtual 41, 3) := by decide +kernel
theorem d9_43 : decode prog_52_method_4_code 43 = .ok (.ifCond .eq 7, 3) := by decide +kernel
theorem d9_46 : decode prog_52_method_4_code 46 = .ok (.iconst 1, 1) := by decide +kernel
theorem d9_47 : decode prog_52_method_4_code 47 = .ok (.goto 4, 3) := by decide +kernel
theorem d9_50 : decode prog_52_method_4_code 50 = .ok (.iconst 0, 1) := by decide +kernel
theorem d9_51 : decode prog_52_method_4_code 51 = .ok (.ireturn, 1) := by decide +kernel
theorem d10_0 : decode jdk_42_method_3_code 0 = .ok (.aload_n 0, 1) := by decide +kernel
theorem d10_1 : decode jdk_42_method_3_code 1 = .ok (.aload_n 1, 1) := by decide +kernel
theorem d10_2 : decode jdk_42_method_3_code 2 = .ok (.iconst 0, 1) := by decide +kernel
theorem d10_3 : decode jdk_42_method_3_code 3 = .ok (.aload_n 1, 1) := by decide +kernel
theorem d10_4 : decode jdk_42_method_3_code 4 = .ok (.arraylength, 1) := by decide +kernel
theorem d10_5 : decode jdk_42_method_3_code 5 = .ok (.aconst_null, 1) := by decide +kernel
theorem d10_6 : decode jdk_42_method_3_code 6 = .ok (.invokespecial 27, 3) := by decide +kernel
theorem d10_9 : decode jdk_42_method_3_code 9 = .ok (.return_, 1) := by decide +kernel
theorem d11_0 : decode jdk_42_method_149_code 0 = .ok (.aload_n 0, 1) := by decide +kernel
theorem d11_1 : decode jdk_42_method_149_code 1 = .ok (.invokespecial 1, 3) := by decide +kernel
theorem d11_4 : decode jdk_42_method_149_code 4 = .ok (.iload_n 3, 1) := by decide +kernel
theorem d11_5 : decode jdk_42_method_149_code 5 = .ok (.ifCond .ne 22, 3) := by decide +kernel
theorem d11_27 : decode jdk_42_method_149_code 27 = .ok (.getstatic 38, 3) := by decide +kernel
theorem d11_30 : decode jdk_42_method_149_code 30 = .ok (.ifCond .eq 28, 3) := by decide +kernel
theorem d11_33 : decode jdk_42_method_149_code 33 = .ok (.aload_n 1, 1) := by decide +kernel
theorem d11_34 : decode jdk_42_method_149_code 34 = .ok (.iload_n 2, 1) := by decide +kernel
theorem d11_35 : decode jdk_42_method_149_code 35 = .ok (.iload_n 3, 1) := by decide +kernel
theorem d11_36 : decode jdk_42_method_149_code 36 = .ok (.invokestatic 177, 3) := by decide +kernel
theorem d11_39 : decode jdk_42_method_149_code 39 = .ok (.astore 5, 2) := by decide +kernel
theorem d11_41 : decode jdk_42_method_149_code 41 = .ok (.aload_n 0, 1) := by decide +kernel
theorem d11_42 : decode jdk_42_method_149_code 42 = .ok (.aload 5, 2) := by decide +kernel
theorem d11_44 : decode jdk_42_method_149_code 44 = .ok (.iload_n 3, 1) := by decide +kernel
theorem d11_45 : decode jdk_42_method_149_code 45 = .ok (.invokestatic 47, 3) := by decide +kernel
theorem d11_48 : decode jdk_42_method_149_code 48 = .ok (.putfield 15, 3) := by decide +kernel
theorem d11_51 : decode jdk_42_method_149_code 51 = .ok (.aload_n 0, 1) := by decide +kernel
theorem d11_52 : decode jdk_42_method_149_code 52 = .ok (.aload 5, 2) := by decide +kernel
theorem d11_54 : decode jdk_42_method_149_code 54 = .ok (.putfield 9, 3) := by decide +kernel
theorem d11_57 : decode jdk_42_method_149_code 57 = .ok (.return_, 1) := by decide +kernel
theorem d12_0 : decode jdk_52_method_16_code 0 = .ok (.iload_n 2, 1) := by decide +kernel
theorem d12_1 : decode jdk_52_method_16_code 1 = .ok (.newarray .byte, 2) := by decide +kernel
theorem d12_3 : decode jdk_52_method_16_code 3 = .ok (.astore_n 3, 1) := by decide +kernel
theorem d12_4 : decode jdk_52_method_16_code 4 = .ok (.aload_n 0, 1) := by decide +kernel
theorem d12_5 : decode jdk_52_method_16_code 5 = .ok (.iload_n 1, 1) := by decide +kernel
theorem d12_6 : decode jdk_52_method_16_code 6 = .ok (.aload_n 3, 1) := by decide +kernel
theorem d12_7 : decode jdk_52_method_16_code 7 = .ok (.iconst 0, 1) := by decide +kernel
theorem d12_8 : decode jdk_52_method_16_code 8 = .ok (.iload_n 2, 1) := by decide +kernel
theorem d12_9 : decode jdk_52_method_16_code 9 = .ok (.invokestatic 115, 3) := by decide +kernel
theorem d12_12 : decode jdk_52_method_16_code 12 = .ok (.istore 4, 2) := by decide +kernel
theorem d12_14 : decode jdk_52_method_16_code 14 = .ok (.iload 4, 2) := by decide +kernel
theorem d12_16 : decode jdk_52_method_16_code 16 = .ok (.iload_n 2, 1) := by decide +kernel
theorem d12_17 : decode jdk_52_method_16_code 17 = .ok (.if_icmp .eq 40, 3) := by decide +kernel
theorem d12_20 : decode jdk_52_method_16_code 20 = .ok (.aload_n 0, 1) := by decide +kernel
theorem d12_21 : decode jdk_52_method_16_code 21 = .ok (.iload_n 1, 1) := by decide +kernel
theorem d12_22 : decode jdk_52_method_16_code 22 = .ok (.iload_n 2, 1) := by decide +kernel
theorem d12_23 : decode jdk_52_method_16_code 23 = .ok (.invokestatic 119, 3) := by decide +kernel
theorem d12_26 : decode jdk_52_method_16_code 26 = .ok (.astore 5, 2) := by decide +kernel
theorem d12_28 : decode jdk_52_method_16_code 28 = .ok (.aload 5, 2) := by decide +kernel
theorem d12_30 : decode jdk_52_method_16_code 30 = .ok (.iload 4, 2) := by decide +kernel
theorem d12_32 : decode jdk_52_method_16_code 32 = .ok (.invokestatic 71, 3) := by decide +kernel
theorem d12_35 : decode jdk_52_method_16_code 35 = .ok (.sipush 255, 3) := by decide +kernel
theorem d12_38 : decode jdk_52_method_16_code 38 = .ok (.if_icmp .gt 16, 3) := by decide +kernel
theorem d12_54 : decode jdk_52_method_16_code 54 = .ok (.aload 5, 2) := by decide +kernel
theorem d12_56 : decode jdk_52_method_16_code 56 = .ok (.areturn, 1) := by decide +kernel
theorem d12_57 : decode jdk_52_method_16_code 57 = .ok (.aload_n 3, 1) := by decide +kernel
theorem d12_58 : decode jdk_52_method_16_code 58 = .ok (.areturn, 1) := by decide +kernel
theorem d13_0 : decode jdk_52_method_21_code 0 = .ok (.iconst 0, 1) := by decide +kernel
theorem d13_1 : decode jdk_52_method_21_code 1 = .ok (.istore 5, 2) := by decide +kernel
theorem d13_3 : decode jdk_52_method_21_code 3 = .ok (.iload 5, 2) := by decide +kernel
theorem d13_5 : decode jdk_52_method_21_code 5 = .ok (.iload 4, 2) := by decide +kernel
theorem d13_7 : decode jdk_52_method_21_code 7 = .ok (.if_icmp .ge 37, 3) := by decide +kernel
theorem d13_10 : decode jdk_52_method_21_code 10 = .ok (.aload_n 0, 1) := by decide +kernel
theorem d13_11 : decode jdk_52_method_21_code 11 = .ok (.iload_n 1, 1) := by decide +kernel
theorem d13_12 : decode jdk_52_method_21_code 12 = .ok (.caload, 1) := by decide +kernel
theorem d13_13 : decode jdk_52_method_21_code 13 = .ok (.istore 6, 2) := by decide +kernel
theorem d13_15 : decode jdk_52_method_21_code 15 = .ok (.iload 6, 2) := by decide +kernel
theorem d13_17 : decode jdk_52_method_21_code 17 = .ok (.sipush 255, 3) := by decide +kernel
theorem d13_20 : decode jdk_52_method_21_code 20 = .ok (.if_icmp .le 6, 3) := by decide +kernel
theorem d13_23 : decode jdk_52_method_21_code 23 = .ok (.iload 5, 2) := by decide +kernel
theorem d13_25 : decode jdk_52_method_21_code 25 = .ok (.ireturn, 1) := by decide +kernel
theorem d13_26 : decode jdk_52_method_21_code 26 = .ok (.aload_n 2, 1) := by decide +kernel
theorem d13_27 : decode jdk_52_method_21_code 27 = .ok (.iload_n 3, 1) := by decide +kernel
theorem d13_28 : decode jdk_52_method_21_code 28 = .ok (.iload 6, 2) := by decide +kernel
theorem d13_30 : decode jdk_52_method_21_code 30 = .ok (.i2b, 1) := by decide +kernel
theorem d13_31 : decode jdk_52_method_21_code 31 = .ok (.bastore, 1) := by decide +kernel
theorem d13_32 : decode jdk_52_method_21_code 32 = .ok (.iinc 1 1, 3) := by decide +kernel
theorem d13_35 : decode jdk_52_method_21_code 35 = .ok (.iinc 3 1, 3) := by decide +kernel
theorem d13_38 : decode jdk_52_method_21_code 38 = .ok (.iinc 5 1, 3) := by decide +kernel
theorem d13_41 : decode jdk_52_method_21_code 41 = .ok (.goto (-38), 3) := by decide +kernel
theorem d13_44 : decode jdk_52_method_21_code 44 = .ok (.iload 4, 2) := by decide +kernel
theorem d13_46 : decode jdk_52_method_21_code 46 = .ok (.ireturn, 1) := by decide +kernel
theorem d14_0 : decode jdk_52_method_15_code 0 = .ok (.iload_n 1, 1) := by decide +kernel
theorem d14_1 : decode jdk_52_method_15_code 1 = .ok (.aload_n 0, 1) := by decide +kernel
theorem d14_2 : decode jdk_52_method_15_code 2 = .ok (.arraylength, 1) := by decide +kernel
theorem d14_3 : decode jdk_52_method_15_code 3 = .ok (.isub, 1) := by decide +kernel
theorem d14_4 : decode jdk_52_method_15_code 4 = .ok (.bipush 31, 2) := by decide +kernel
theorem d14_6 : decode jdk_52_method_15_code 6 = .ok (.iushr, 1) := by decide +kernel
theorem d14_7 : decode jdk_52_method_15_code 7 = .ok (.i2b, 1) := by decide +kernel
theorem d14_8 : decode jdk_52_method_15_code 8 = .ok (.ireturn, 1) := by decide +kernel
theorem d15_0 : decode jdk_52_method_14_code 0 = .ok (.iload_n 2, 1) := by decide +kernel
theorem d15_1 : decode jdk_52_method_14_code 1 = .ok (.invokestatic 107, 3) := by decide +kernel
theorem d15_4 : decode jdk_52_method_14_code 4 = .ok (.astore_n 3, 1) := by decide +kernel
theorem d15_5 : decode jdk_52_method_14_code 5 = .ok (.iconst 0, 1) := by decide +kernel
theorem d15_6 : decode jdk_52_method_14_code 6 = .ok (.istore 4, 2) := by decide +kernel
theorem d15_8 : decode jdk_52_method_14_code 8 = .ok (.iload 4, 2) := by decide +kernel
theorem d15_10 : decode jdk_52_method_14_code 10 = .ok (.iload_n 2, 1) := by decide +kernel
theorem d15_11 : decode jdk_52_method_14_code 11 = .ok (.if_icmp .ge 21, 3) := by decide +kernel
theorem d15_14 : decode jdk_52_method_14_code 14 = .ok (.aload_n 3, 1) := by decide +kernel
theorem d15_15 : decode jdk_52_method_14_code 15 = .ok (.iload 4, 2) := by decide +kernel
theorem d15_17 : decode jdk_52_method_14_code 17 = .ok (.aload_n 0, 1) := by decide +kernel
theorem d15_18 : decode jdk_52_method_14_code 18 = .ok (.iload_n 1, 1) := by decide +kernel
theorem d15_19 : decode jdk_52_method_14_code 19 = .ok (.caload, 1) := by decide +kernel
theorem d15_20 : decode jdk_52_method_14_code 20 = .ok (.invokestatic 111, 3) := by decide +kernel
theorem d15_23 : decode jdk_52_method_14_code 23 = .ok (.iinc 1 1, 3) := by decide +kernel
theorem d15_26 : decode jdk_52_method_14_code 26 = .ok (.iinc 4 1, 3) := by decide +kernel
theorem d15_29 : decode jdk_52_method_14_code 29 = .ok (.goto (-21), 3) := by decide +kernel
theorem d15_32 : decode jdk_52_method_14_code 32 = .ok (.aload_n 3, 1) := by decide +kernel
theorem d15_33 : decode jdk_52_method_14_code 33 = .ok (.areturn, 1) := by decide +kernel
theorem d16_0 : decode jdk_52_method_2_code 0 = .ok (.iload_n 0, 1) := by decide +kernel
theorem d16_1 : decode jdk_52_method_2_code 1 = .ok (.invokestatic 11, 3) := by decide +kernel
theorem d16_4 : decode jdk_52_method_2_code 4 = .ok (.newarray .byte, 2) := by decide +kernel
theorem d16_6 : decode jdk_52_method_2_code 6 = .ok (.areturn, 1) := by decide +kernel
theorem d17_0 : decode jdk_52_method_3_code 0 = .ok (.iload_n 0, 1) := by decide +kernel
theorem d17_1 : decode jdk_52_method_3_code 1 = .ok (.ifCond .ge 11, 3) := by decide +kernel
theorem d17_12 : decode jdk_52_method_3_code 12 = .ok (.iload_n 0, 1) := by decide +kernel
theorem d17_13 : decode jdk_52_method_3_code 13 = .ok (.ldc 20, 2) := by decide +kernel
theorem d17_15 : decode jdk_52_method_3_code 15 = .ok (.if_icmp .lt 40, 3) := by decide +kernel
theorem d17_55 : decode jdk_52_method_3_code 55 = .ok (.iload_n 0, 1) := by decide +kernel
theorem d17_56 : decode jdk_52_method_3_code 56 = .ok (.iconst 1, 1) := by decide +kernel
theorem d17_57 : decode jdk_52_method_3_code 57 = .ok (.ishl, 1) := by decide +kernel
theorem d17_58 : decode jdk_52_method_3_code 58 = .ok (.ireturn, 1) := by decide +kernel
theorem d18_0 : decode jdk_52_method_4_code 0 = .ok (.getstatic 44, 3) := by decide +kernel
theorem d18_3 : decode jdk_52_method_4_code 3 = .ok (.ifCond .ne 25, 3) := by decide +kernel
theorem d18_28 : decode jdk_52_method_4_code 28 = .ok (.iload_n 1, 1) := by decide +kernel
theorem d18_29 : decode jdk_52_method_4_code 29 = .ok (.iconst 1, 1) := by decide +kernel
theorem d18_30 : decode jdk_52_method_4_code 30 = .ok (.ishl, 1) := by decide +kernel
theorem d18_31 : decode jdk_52_method_4_code 31 = .ok (.istore_n 1, 1) := by decide +kernel
theorem d18_32 : decode jdk_52_method_4_code 32 = .ok (.aload_n 0, 1) := by decide +kernel
theorem d18_33 : decode jdk_52_method_4_code 33 = .ok (.iload_n 1, 1) := by decide +kernel
theorem d18_34 : decode jdk_52_method_4_code 34 = .ok (.iinc 1 1, 3) := by decide +kernel
theorem d18_37 : decode jdk_52_method_4_code 37 = .ok (.iload_n 2, 1) := by decide +kernel
theorem d18_38 : decode jdk_52_method_4_code 38 = .ok (.getstatic 59, 3) := by decide +kernel
theorem d18_41 : decode jdk_52_method_4_code 41 = .ok (.ishr, 1) := by decide +kernel
theorem d18_42 : decode jdk_52_method_4_code 42 = .ok (.i2b, 1) := by decide +kernel
theorem d18_43 : decode jdk_52_method_4_code 43 = .ok (.bastore, 1) := by decide +kernel
theorem d18_44 : decode jdk_52_method_4_code 44 = .ok (.aload_n 0, 1) := by decide +kernel
theorem d18_45 : decode jdk_52_method_4_code 45 = .ok (.iload_n 1, 1) := by decide +kernel
theorem d18_46 : decode jdk_52_method_4_code 46 = .ok (.iload_n 2, 1) := by decide +kernel
theorem d18_47 : decode jdk_52_method_4_code 47 = .ok (.getstatic 63, 3) := by decide +kernel
theorem d18_50 : decode jdk_52_method_4_code 50 = .ok (.ishr, 1) := by decide +kernel
theorem d18_51 : decode jdk_52_method_4_code 51 = .ok (.i2b, 1) := by decide +kernel
theorem d18_52 : decode jdk_52_method_4_code 52 = .ok (.bastore, 1) := by decide +kernel
theorem d18_53 : decode jdk_52_method_4_code 53 = .ok (.return_, 1) := by decide +kernel
theorem d19_0 : decode jdk_52_method_5_code 0 = .ok (.getstatic 44, 3) := by decide +kernel
theorem d19_3 : decode jdk_52_method_5_code 3 = .ok (.ifCond .ne 25, 3) := by decide +kernel
theorem d19_28 : decode jdk_52_method_5_code 28 = .ok (.iload_n 1, 1) := by decide +kernel
theorem d19_29 : decode jdk_52_method_5_code 29 = .ok (.iconst 1, 1) := by decide +kernel
theorem d19_30 : decode jdk_52_method_5_code 30 = .ok (.ishl, 1) := by decide +kernel
theorem d19_31 : decode jdk_52_method_5_code 31 = .ok (.istore_n 1, 1) := by decide +kernel
theorem d19_32 : decode jdk_52_method_5_code 32 = .ok (.aload_n 0, 1) := by decide +kernel
theorem d19_33 : decode jdk_52_method_5_code 33 = .ok (.iload_n 1, 1) := by decide +kernel
theorem d19_34 : decode jdk_52_method_5_code 34 = .ok (.iinc 1 1, 3) := by decide +kernel
theorem d19_37 : decode jdk_52_method_5_code 37 = .ok (.baload, 1) := by decide +kernel
theorem d19_38 : decode jdk_52_method_5_code 38 = .ok (.sipush 255, 3) := by decide +kernel
theorem d19_41 : decode jdk_52_method_5_code 41 = .ok (.iand, 1) := by decide +kernel
theorem d19_42 : decode jdk_52_method_5_code 42 = .ok (.getstatic 59, 3) := by decide +kernel
theorem d19_45 : decode jdk_52_method_5_code 45 = .ok (.ishl, 1) := by decide +kernel
theorem d19_46 : decode jdk_52_method_5_code 46 = .ok (.aload_n 0, 1) := by decide +kernel
theorem d19_47 : decode jdk_52_method_5_code 47 = .ok (.iload_n 1, 1) := by decide +kernel
theorem d19_48 : decode jdk_52_method_5_code 48 = .ok (.baload, 1) := by decide +kernel
theorem d19_49 : decode jdk_52_method_5_code 49 = .ok (.sipush 255, 3) := by decide +kernel
theorem d19_52 : decode jdk_52_method_5_code 52 = .ok (.iand, 1) := by decide +kernel
theorem d19_53 : decode jdk_52_method_5_code 53 = .ok (.getstatic 63, 3) := by decide +kernel
theorem d19_56 : decode jdk_52_method_5_code 56 = .ok (.ishl, 1) := by decide +kernel
theorem d19_57 : decode jdk_52_method_5_code 57 = .ok (.ior, 1) := by decide +kernel
theorem d19_58 : decode jdk_52_method_5_code 58 = .ok (.i2c, 1) := by decide +kernel
theorem d19_59 : decode jdk_52_method_5_code 59 = .ok (.ireturn, 1) := by decide +kernel
theorem d20_0 : decode jdk_52_method_24_code 0 = .ok (.iconst 2, 1) := by decide +kernel
theorem d20_1 : decode jdk_52_method_24_code 1 = .ok (.newarray .byte, 2) := by decide +kernel
theorem d20_3 : decode jdk_52_method_24_code 3 = .ok (.astore_n 1, 1) := by decide +kernel
theorem d20_4 : decode jdk_52_method_24_code 4 = .ok (.aload_n 1, 1) := by decide +kernel
theorem d20_5 : decode jdk_52_method_24_code 5 = .ok (.iconst 0, 1) := by decide +kernel
theorem d20_6 : decode jdk_52_method_24_code 6 = .ok (.iload_n 0, 1) := by decide +kernel
theorem d20_7 : decode jdk_52_method_24_code 7 = .ok (.invokestatic 111, 3) := by decide +kernel
theorem d20_10 : decode jdk_52_method_24_code 10 = .ok (.aload_n 1, 1) := by decide +kernel
theorem d20_11 : decode jdk_52_method_24_code 11 = .ok (.areturn, 1) := by decide +kernel
theorem d21_0 : decode jdk_42_method_66_code 0 = .ok (.aload_n 0, 1) := by decide +kernel
theorem d21_1 : decode jdk_42_method_66_code 1 = .ok (.aload_n 1, 1) := by decide +kernel
theorem d21_2 : decode jdk_42_method_66_code 2 = .ok (.if_acmp .ne 5, 3) := by decide +kernel
theorem d21_5 : decode jdk_42_method_66_code 5 = .ok (.iconst 1, 1) := by decide +kernel
theorem d21_6 : decode jdk_42_method_66_code 6 = .ok (.ireturn, 1) := by decide +kernel
theorem d21_7 : decode jdk_42_method_66_code 7 = .ok (.aload_n 1, 1) := by decide +kernel
theorem d21_8 : decode jdk_42_method_66_code 8 = .ok (.instanceof 10, 3) := by decide +kernel
theorem d21_11 : decode jdk_42_method_66_code 11 = .ok (.ifCond .eq 43, 3) := by decide +kernel
theorem d21_14 : decode jdk_42_method_66_code 14 = .ok (.aload_n 1, 1) := by decide +kernel
theorem d21_15 : decode jdk_42_method_66_code 15 = .ok (.checkcast 10, 3) := by decide +kernel
theorem d21_18 : decode jdk_42_method_66_code 18 = .ok (.astore_n 2, 1) := by decide +kernel
theorem d21_19 : decode jdk_42_method_66_code 19 = .ok (.getstatic 38, 3) := by decide +kernel
theorem d21_22 : decode jdk_42_method_66_code 22 = .ok (.ifCond .eq 14, 3) := by decide +kernel
theorem d21_25 : decode jdk_42_method_66_code 25 = .ok (.aload_n 0, 1) := by decide +kernel
theorem d21_26 : decode jdk_42_method_66_code 26 = .ok (.getfield 15, 3) := by decide +kernel
theorem d21_29 : decode jdk_42_method_66_code 29 = .ok (.aload_n 2, 1) := by decide +kernel
theorem d21_30 : decode jdk_42_method_66_code 30 = .ok (.getfield 15, 3) := by decide +kernel
theorem d21_33 : decode jdk_42_method_66_code 33 = .ok (.if_icmp .ne 21, 3) := by decide +kernel
theorem d21_36 : decode jdk_42_method_66_code 36 = .ok (.aload_n 0, 1) := by decide +kernel
theorem d21_37 : decode jdk_42_method_66_code 37 = .ok (.getfield 9, 3) := by decide +kernel
theorem d21_40 : decode jdk_42_method_66_code 40 = .ok (.aload_n 2, 1) := by decide +kernel
theorem d21_41 : decode jdk_42_method_66_code 41 = .ok (.getfield 9, 3) := by decide +kernel
theorem d21_44 : decode jdk_42_method_66_code 44 = .ok (.invokestatic 541, 3) := by decide +kernel
theorem d21_47 : decode jdk_42_method_66_code 47 = .ok (.ifCond .eq 7, 3) := by decide +kernel
theorem d21_50 : decode jdk_42_method_66_code 50 = .ok (.iconst 1, 1) := by decide +kernel
theorem d21_51 : decode jdk_42_method_66_code 51 = .ok (.goto 4, 3) := by decide +kernel
theorem d21_54 : decode jdk_42_method_66_code 54 = .ok (.iconst 0, 1) := by decide +kernel
theorem d21_55 : decode jdk_42_method_66_code 55 = .ok (.ireturn, 1) := by decide +kernel
theorem d22_0 : decode jdk_43_method_13_code 0 = .ok (.aload_n 0, 1) := by decide +kernel
theorem d22_1 : decode jdk_43_method_13_code 1 = .ok (.arraylength, 1) := by decide +kernel
theorem d22_2 : decode jdk_43_method_13_code 2 = .ok (.aload_n 1, 1) := by decide +kernel
theorem d22_3 : decode jdk_43_method_13_code 3 = .ok (.arraylength, 1) := by decide +kernel
theorem d22_4 : decode jdk_43_method_13_code 4 = .ok (.if_icmp .ne 30, 3) := by decide +kernel
theorem d22_7 : decode jdk_43_method_13_code 7 = .ok (.iconst 0, 1) := by decide +kernel
theorem d22_8 : decode jdk_43_method_13_code 8 = .ok (.istore_n 2, 1) := by decide +kernel
theorem d22_9 : decode jdk_43_method_13_code 9 = .ok (.iload_n 2, 1) := by decide +kernel
theorem d22_10 : decode jdk_43_method_13_code 10 = .ok (.aload_n 0, 1) := by decide +kernel
theorem d22_11 : decode jdk_43_method_13_code 11 = .ok (.arraylength, 1) := by decide +kernel
theorem d22_12 : decode jdk_43_method_13_code 12 = .ok (.if_icmp .ge 20, 3) := by decide +kernel
theorem d22_15 : decode jdk_43_method_13_code 15 = .ok (.aload_n 0, 1) := by decide +kernel
theorem d22_16 : decode jdk_43_method_13_code 16 = .ok (.iload_n 2, 1) := by decide +kernel
theorem d22_17 : decode jdk_43_method_13_code 17 = .ok (.baload, 1) := by decide +kernel
theorem d22_18 : decode jdk_43_method_13_code 18 = .ok (.aload_n 1, 1) := by decide +kernel
theorem d22_19 : decode jdk_43_method_13_code 19 = .ok (.iload_n 2, 1) := by decide +kernel
theorem d22_20 : decode jdk_43_method_13_code 20 = .ok (.baload, 1) := by decide +kernel
theorem d22_21 : decode jdk_43_method_13_code 21 = .ok (.if_icmp .eq 5, 3) := by decide +kernel
theorem d22_24 : decode jdk_43_method_13_code 24 = .ok (.iconst 0, 1) := by decide +kernel
theorem d22_25 : decode jdk_43_method_13_code 25 = .ok (.ireturn, 1) := by decide +kernel
theorem d22_26 : decode jdk_43_method_13_code 26 = .ok (.iinc 2 1, 3) := by decide +kernel
theorem d22_29 : decode jdk_43_method_13_code 29 = .ok (.goto (-20), 3) := by decide +kernel
theorem d22_32 : decode jdk_43_method_13_code 32 = .ok (.iconst 1, 1) := by decide +kernel
theorem d22_33 : decode jdk_43_method_13_code 33 = .ok (.ireturn, 1) := by decide +kernel
theorem d22_34 : decode jdk_43_method_13_code 34 = .ok (.iconst 0, 1) := by decide +kernel
theorem d22_35 : decode jdk_43_method_13_code 35 = .ok (.ireturn, 1) := by decide +kernel
theorem ef_RII_3 (m : MethodId) (x0 : Addr) (x1 : Int32) (x2 : Int32) : entryFrame m #[(.ref x0), (.int x1), (.int x2)] 3 = mkF m 0 #[.val (.ref x0), .val (.int x1), .val (.int x2)] [] := by first | (simp [entryFrame, mkF, argsToLocals, Value.category]; done) | rfl
theorem ef_RI_2 (m : MethodId) (x0 : Addr) (x1 : Int32) : entryFrame m #[(.ref x0), (.int x1)] 2 = mkF m 0 #[.val (.ref x0), .val (.int x1)] [] := by first | (simp [entryFrame, mkF, argsToLocals, Value.category]; done) | rfl
theorem ef_I_1 (m : MethodId) (x0 : Int32) : entryFrame m #[(.int x0)] 1 = mkF m 0 #[.val (.int x0)] [] := by first | (simp [entryFrame, mkF, argsToLocals, Value.category]; done) | rfl
theorem ef_RII_5 (m : MethodId) (x0 : Addr) (x1 : Int32) (x2 : Int32) : entryFrame m #[(.ref x0), (.int x1), (.int x2)] 5 = mkF m 0 #[.val (.ref x0), .val (.int x1), .val (.int x2), .unset, .unset] [] := by first | (simp [entryFrame, mkF, argsToLocals, Value.category]; done) | rfl
theorem ef_RIRII_7 (m : MethodId) (x0 : Addr) (x1 : Int32) (x2 : Addr) (x3 : Int32) (x4 : Int32) : entryFrame m #[(.ref x0), (.int x1), (.ref x2), (.int x3), (.int x4)] 7 = mkF m 0 #[.val (.ref x0), .val (.int x1), .val (.ref x2), .val (.int x3), .val (.int x4), .unset, .unset] [] := by first | (simp [entryFrame, mkF, argsToLocals, Value.category]; done) | rfl
theorem ef_RII_6 (m : MethodId) (x0 : Addr) (x1 : Int32) (x2 : Int32) : entryFrame m #[(.ref x0), (.int x1), (.int x2)] 6 = mkF m 0 #[.val (.ref x0), .val (.int x1), .val (.int x2), .unset, .unset, .unset] [] := by first | (simp [entryFrame, mkF, argsToLocals, Value.category]; done) | rfl
theorem ef_RRIIN_6 (m : MethodId) (x0 : Addr) (x1 : Addr) (x2 : Int32) (x3 : Int32) : entryFrame m #[(.ref x0), (.ref x1), (.int x2), (.int x3), .null] 6 = mkF m 0 #[.val (.ref x0), .val (.ref x1), .val (.int x2), .val (.int x3), .val .null, .unset] [] := by first | (simp [entryFrame, mkF, argsToLocals, Value.category]; done) | rfl
theorem ef_RR_2 (m : MethodId) (x0 : Addr) (x1 : Addr) : entryFrame m #[(.ref x0), (.ref x1)] 2 = mkF m 0 #[.val (.ref x0), .val (.ref x1)] [] := by first | (simp [entryFrame, mkF, argsToLocals, Value.category]; done) | rfl
theorem ef_I_2 (m : MethodId) (x0 : Int32) : entryFrame m #[(.int x0)] 2 = mkF m 0 #[.val (.int x0), .unset] [] := by first | (simp [entryFrame, mkF, argsToLocals, Value.category]; done) | rfl
theorem ef_RRI_3 (m : MethodId) (x0 : Addr) (x1 : Addr) (x2 : Int32) : entryFrame m #[(.ref x0), (.ref x1), (.int x2)] 3 = mkF m 0 #[.val (.ref x0), .val (.ref x1), .val (.int x2)] [] := by first | (simp [entryFrame, mkF, argsToLocals, Value.category]; done) | rfl
theorem ef_RR_3 (m : MethodId) (x0 : Addr) (x1 : Addr) : entryFrame m #[(.ref x0), (.ref x1)] 3 = mkF m 0 #[.val (.ref x0), .val (.ref x1), .unset] [] := by first | (simp [entryFrame, mkF, argsToLocals, Value.category]; done) | rfl
theorem ef_R_1 (m : MethodId) (x0 : Addr) : entryFrame m #[(.ref x0)] 1 = mkF m 0 #[.val (.ref x0)] [] := by first | (simp [entryFrame, mkF, argsToLocals, Value.category]; done) | rfl
theorem ef_RN_3 (m : MethodId) (x0 : Addr) : entryFrame m #[(.ref x0), .null] 3 = mkF m 0 #[.val (.ref x0), .val .null, .unset] [] := by first | (simp [entryFrame, mkF, argsToLocals, Value.category]; done) | rfl
theorem ef_IIIII_20 (m : MethodId) (x0 : Int32) (x1 : Int32) (x2 : Int32) (x3 : Int32) (x4 : Int32) : entryFrame m #[(.int x0), (.int x1), (.int x2), (.int x3), (.int x4)] 20 = mkF m 0 #[.val (.int x0), .val (.int x1), .val (.int x2), .val (.int x3), .val (.int x4), .unset, .unset, .unset, .unset, .unset, .unset, .unset, .unset, .unset, .unset, .unset, .unset, .unset, .unset, .unset] [] := by first | (simp [entryFrame, mkF, argsToLocals, Value.category]; done) | rfl
section OwnU16
/-- the two bytes of a char, low first -/
def b0 (c : Int32) : Int32 := (c >>> ((0 : Int32) &&& 31)).toInt8.toInt32
def b1 (c : Int32) : Int32 := (c >>> ((8 : Int32) &&& 31)).toInt8.toInt32
def gchV (x y : Int32) : Int32 := (((x &&& (255 : Int32)) <<< ((0 : Int32) &&& 31)) ||| ((y &&& (255 : Int32)) <<< ((8 : Int32) &&& 31))).toUInt32.toUInt16.toUInt32.toInt32
theorem bv_ofNat {n : Nat} (h : n < 4294967296) : (Int32.ofNat n).toBitVec.toNat = n := by
  show (BitVec.ofNat 32 n).toNat = n
  rw [BitVec.toNat_ofNat]; exact Nat.mod_eq_of_lt h
theorem eqBV {x y : Int32} (h : x.toBitVec.toNat = y.toBitVec.toNat) : x = y := Int32.toBitVec_inj.mp (BitVec.eq_of_toNat_eq h)
theorem low_byte : ∀ b : Fin 256, (Int32.ofNat b.val).toInt8.toInt32 &&& (255 : Int32) = Int32.ofNat b.val := by decide +kernel
theorem toInt8_mod (a b : Nat) : (Int32.ofNat (256 * a + b)).toInt8 = (Int32.ofNat b).toInt8 := by
  apply Int8.toBitVec_inj.mp
  apply BitVec.eq_of_toNat_eq
  rw [Int32.toBitVec_toInt8, Int32.toBitVec_toInt8, BitVec.signExtend_eq_setWidth_of_le _ (by decide), BitVec.signExtend_eq_setWidth_of_le _ (by decide), BitVec.toNat_setWidth, BitVec.toNat_setWidth]
  show (BitVec.ofNat 32 (256 * a + b)).toNat % 2 ^ 8 = (BitVec.ofNat 32 b).toNat % 2 ^ 8
  rw [BitVec.toNat_ofNat, BitVec.toNat_ofNat]; omega
theorem shr8 {n : Nat} (h : n < 65536) : Int32.ofNat n >>> ((8 : Int32) &&& 31) = Int32.ofNat (n / 256) := by
  apply eqBV
  rw [show ((8 : Int32) &&& 31) = 8 from by decide, Int32.toBitVec_shiftRight, show ((8 : Int32).toBitVec.smod 32) = 8#32 from by decide, BitVec.sshiftRight_eq']
  have hm : (Int32.ofNat n).toBitVec.msb = false := by
    rw [BitVec.msb_eq_decide, bv_ofNat (by omega)]; simp; omega
  rw [BitVec.sshiftRight_eq_of_msb_false hm, BitVec.toNat_ushiftRight, bv_ofNat (by omega), bv_ofNat (by omega)]
  rw [show (8#32).toNat = 8 from rfl, Nat.shiftRight_eq_div_pow]
theorem shr0 (c : Int32) : c >>> ((0 : Int32) &&& 31) = c := by
  rw [show ((0 : Int32) &&& 31) = 0 from by decide]; exact Int32.shiftRight_zero
theorem shl0 (c : Int32) : c <<< ((0 : Int32) &&& 31) = c := by
  rw [show ((0 : Int32) &&& 31) = 0 from by decide]; exact Int32.shiftLeft_zero
theorem shl8 {n : Nat} (h : n < 256) : Int32.ofNat n <<< ((8 : Int32) &&& 31) = Int32.ofNat (256 * n) := by
  apply eqBV
  rw [show ((8 : Int32) &&& 31) = 8 from by decide, Int32.toBitVec_shiftLeft, show ((8 : Int32).toBitVec.smod 32) = 8#32 from by decide, BitVec.shiftLeft_eq', BitVec.toNat_shiftLeft, bv_ofNat (by omega), bv_ofNat (by omega)]
  rw [show (8#32).toNat = 8 from rfl, Nat.shiftLeft_eq, Nat.mod_eq_of_lt (by omega)]; omega
theorem or_small {a b : Nat} (ha : a < 256) (hb : b < 256) : Int32.ofNat b ||| Int32.ofNat (256 * a) = Int32.ofNat (256 * a + b) := by
  apply eqBV
  rw [Int32.toBitVec_or, BitVec.toNat_or, bv_ofNat (by omega), bv_ofNat (by omega), bv_ofNat (by omega)]
  have := Nat.two_pow_add_eq_or_of_lt (i := 8) (b := b) (by omega) a
  rw [Nat.or_comm, show 256 * a ||| b = 2 ^ 8 * a + b from this.symm]
theorem char_id {n : Nat} (h : n < 65536) : (Int32.ofNat n).toUInt32.toUInt16.toUInt32.toInt32 = Int32.ofNat n := by
  apply eqBV
  show (((BitVec.ofNat 32 n).setWidth 16).setWidth 32).toNat = _
  rw [BitVec.toNat_setWidth, BitVec.toNat_setWidth, BitVec.toNat_ofNat, bv_ofNat (by omega)]; omega
theorem gch_dec (a b : Fin 256) : gchV (b0 (Int32.ofNat (256 * a.val + b.val))) (b1 (Int32.ofNat (256 * a.val + b.val))) = Int32.ofNat (256 * a.val + b.val) := by
  unfold gchV b0 b1
  rw [shr0, shr8 (by omega), toInt8_mod, show (256 * a.val + b.val) / 256 = a.val from by omega, low_byte b, low_byte a, shl0, shl8 a.isLt, or_small a.isLt b.isLt, char_id (by omega)]
theorem wide_nat {c : Int32} (q : 0 ≤ c.toInt ∧ c.toInt < 65536) : ∃ a b : Fin 256, c = Int32.ofNat (256 * a.val + b.val) := by
  refine ⟨⟨c.toInt.toNat / 256, by omega⟩, ⟨c.toInt.toNat % 256, by omega⟩, eq32 ?_⟩
  rw [show (Int32.ofNat (256 * (c.toInt.toNat / 256) + c.toInt.toNat % 256)).toInt = _ from n32 (by omega)]
  omega
theorem gch_of {c : Int32} (q : 0 ≤ c.toInt ∧ c.toInt < 65536) : gchV (b0 c) (b1 c) = c := by
  obtain ⟨a, b, rfl⟩ := wide_nat q
  exact gch_dec a b
theorem bb_inj {c d : Int32} (q : 0 ≤ c.toInt ∧ c.toInt < 65536) (r : 0 ≤ d.toInt ∧ d.toInt < 65536) (h0 : b0 c = b0 d) (h1 : b1 c = b1 d) : c = d := by
  rw [← gch_of q, ← gch_of r, h0, h1]
def U16B : List Int32 → List Int32
  | [] => []
  | c :: r => b0 c :: b1 c :: U16B r
theorem U16B_len : ∀ cs : List Int32, (U16B cs).length = 2 * cs.length
  | [] => rfl
  | c :: r => by simp only [U16B, List.length_cons, U16B_len r]; omega
theorem U16B_app : ∀ (cs : List Int32) (c : Int32), U16B (cs ++ [c]) = U16B cs ++ [b0 c, b1 c]
  | [], c => rfl
  | d :: r, c => by simp only [U16B, List.cons_append, U16B_app r c]
theorem U16B_get : ∀ (cs : List Int32) (j : Nat) (h : j < cs.length), (U16B cs).getD (2 * j) 0 = b0 cs[j] ∧ (U16B cs).getD (2 * j + 1) 0 = b1 cs[j]
  | c :: r, 0, _ => ⟨rfl, rfl⟩
  | c :: r, j + 1, h => by
    have ih := U16B_get r j (by simpa using h)
    constructor
    · show (b0 c :: b1 c :: U16B r).getD (2 * j + 1 + 1) 0 = _
      simpa using ih.1
    · show (b0 c :: b1 c :: U16B r).getD (2 * j + 1 + 1 + 1) 0 = _
      simpa using ih.2
theorem U16B_inj : ∀ (cs ds : List Int32), (∀ c ∈ cs, 0 ≤ c.toInt ∧ c.toInt < 65536) → (∀ c ∈ ds, 0 ≤ c.toInt ∧ c.toInt < 65536) → U16B cs = U16B ds → cs = ds
  | [], [], _, _, _ => rfl
  | [], d :: r, _, _, q => by simp [U16B] at q
  | c :: r, [], _, _, q => by simp [U16B] at q
  | c :: r, d :: t, hc, hd, q => by
    simp only [U16B, List.cons.injEq] at q
    rw [bb_inj (hc c (by simp)) (hd d (by simp)) q.1 q.2.1, U16B_inj r t (fun x m => hc x (by simp [m])) (fun x m => hd x (by simp [m])) q.2.2]
def Lat (cs : List Int32) : Prop := ∀ c ∈ cs, c.toInt < 256
instance (cs : List Int32) : Decidable (Lat cs) := by unfold Lat; infer_instance
def encC (cs : List Int32) : Int32 := if Lat cs then 0 else 1
def encB (cs : List Int32) : List Int32 := if Lat cs then cs.map fun c => c.toInt8.toInt32 else U16B cs
theorem byte_inj {c d : Int32} (q : 0 ≤ c.toInt ∧ c.toInt < 256) (r : 0 ≤ d.toInt ∧ d.toInt < 256) (h : c.toInt8.toInt32 = d.toInt8.toInt32) : c = d := by
  have e1 : c = Int32.ofNat c.toInt.toNat := eq32 (by rw [show (Int32.ofNat c.toInt.toNat).toInt = _ from n32 (by omega)]; omega)
  have e2 : d = Int32.ofNat d.toInt.toNat := eq32 (by rw [show (Int32.ofNat d.toInt.toNat).toInt = _ from n32 (by omega)]; omega)
  have f1 := low_byte ⟨c.toInt.toNat, by omega⟩
  have f2 := low_byte ⟨d.toInt.toNat, by omega⟩
  dsimp only at f1 f2
  rw [← e1] at f1; rw [← e2] at f2
  rw [← f1, ← f2, h]
theorem bytes_inj : ∀ (cs ds : List Int32), (∀ c ∈ cs, 0 ≤ c.toInt ∧ c.toInt < 256) → (∀ c ∈ ds, 0 ≤ c.toInt ∧ c.toInt < 256) → (cs.map fun c => c.toInt8.toInt32) = (ds.map fun c => c.toInt8.toInt32) → cs = ds
  | [], [], _, _, _ => rfl
  | [], d :: r, _, _, q => by simp at q
  | c :: r, [], _, _, q => by simp at q
  | c :: r, d :: t, hc, hd, q => by
    simp only [List.map_cons, List.cons.injEq] at q
    rw [byte_inj (hc c (by simp)) (hd d (by simp)) q.1, bytes_inj r t (fun x m => hc x (by simp [m])) (fun x m => hd x (by simp [m])) q.2]
theorem enc_iff {cs ds : List Int32} (hc : ∀ c ∈ cs, 0 ≤ c.toInt ∧ c.toInt < 65536) (hd : ∀ c ∈ ds, 0 ≤ c.toInt ∧ c.toInt < 65536) : (encC cs = encC ds ∧ encB cs = encB ds) ↔ cs = ds := by
  constructor
  · rintro ⟨h1, h2⟩
    unfold encC at h1; unfold encB at h2
    by_cases p : Lat cs <;> by_cases q : Lat ds
    · rw [if_pos p, if_pos q] at h2
      exact bytes_inj _ _ (fun c m => ⟨(hc c m).1, p c m⟩) (fun c m => ⟨(hd c m).1, q c m⟩) h2
    · rw [if_pos p, if_neg q] at h1; exact absurd h1 (by decide)
    · rw [if_neg p, if_pos q] at h1; exact absurd h1 (by decide)
    · rw [if_neg p, if_neg q] at h2
      exact U16B_inj _ _ hc hd h2
  · rintro rfl; exact ⟨rfl, rfl⟩
/-- shifts of small numbers -/
theorem shl1 {i : Int32} {j : Nat} (hi : i.toInt = j) (hj : j < 1073741824) : i <<< ((1 : Int32) &&& 31) = Int32.ofNat (2 * j) := by
  obtain rfl : i = Int32.ofNat j := eq32 (hi.trans (n32 (by omega)).symm)
  apply Int32.toBitVec_inj.mp
  apply BitVec.eq_of_toNat_eq
  rw [show ((1 : Int32) &&& 31) = 1 from by decide]
  rw [Int32.toBitVec_shiftLeft]
  have e1 : (Int32.ofNat j).toBitVec.toNat = j := by
    show (BitVec.ofNat 32 j).toNat = j
    rw [BitVec.toNat_ofNat]; exact Nat.mod_eq_of_lt (by omega)
  have e2 : (Int32.ofNat (2 * j)).toBitVec.toNat = 2 * j := by
    show (BitVec.ofNat 32 (2 * j)).toNat = _
    rw [BitVec.toNat_ofNat]; exact Nat.mod_eq_of_lt (by omega)
  rw [e2, show ((1 : Int32).toBitVec.smod 32) = 1#32 from by decide, BitVec.shiftLeft_eq', BitVec.toNat_shiftLeft, e1]
  rw [show (1#32).toNat = 1 from rfl, Nat.shiftLeft_eq]
  rw [Nat.mod_eq_of_lt (by omega)]; omega
theorem sgn1 {x : Int32} (q : x.toInt < 0) : (x.toUInt32 >>> ((31 : Int32) &&& 31).toUInt32).toInt32 = 1 := by
  rw [show ((31 : Int32) &&& 31).toUInt32 = (31 : UInt32) from by decide]
  have e : x.toUInt32 >>> (31 : UInt32) = 1 := by
    apply UInt32.toNat_inj.mp
    rw [UInt32.toNat_shiftRight]
    have h1 : x.toUInt32.toNat = x.toBitVec.toNat := rfl
    have h2 : x.toInt = x.toBitVec.toInt := rfl
    have h3 := BitVec.toInt_eq_toNat_cond x.toBitVec
    have h4 := x.toBitVec.isLt
    rw [h1, show (31 : UInt32).toNat % 32 = 31 from rfl, Nat.shiftRight_eq_div_pow]
    rw [h2, h3] at q
    split at q
    · omega
    · show _ / 2147483648 = 1
      omega
  rw [e]; rfl
theorem set2 (xs r : List Value) (a b x y : Value) {n : Nat} (hn : n = xs.length) : ((xs ++ x :: y :: r).set n a).set (n + 1) b = xs ++ a :: b :: r := by
  subst hn
  rw [List.set_append_right _ _ (Nat.le_refl _), Nat.sub_self]
  rw [List.set_append_right _ _ (Nat.le_succ _), show xs.length.succ - xs.length = 1 from by omega]
  rfl
theorem idxM {i z : Int32} {j k : Nat} (hi : i.toInt = j) (hz : z.toInt = k) (hj : j < k) : (¬ i < 0 ∧ i < z) ∧ i.toNatClampNeg = j := by
  refine ⟨⟨nlt32 (by rw [zero32]; omega), lt32 (by omega)⟩, ?_⟩
  show i.toInt.toNat = j
  omega
theorem nar_wide {c : Int32} (q : 0 ≤ c.toInt ∧ c.toInt < 65536) : nar .char c = c := by
  obtain ⟨a, b, rfl⟩ := wide_nat q
  exact char_id (by omega)
theorem getD_mapI (xs : List Int32) (j : Nat) : (xs.map Value.int).getD j (.int 0) = .int (xs.getD j 0) := by
  simp only [List.getD_eq_getElem?_getD, List.getElem?_map]; cases xs[j]? <;> rfl
theorem getU0 {cs : List Int32} {j : Nat} (h : j < cs.length) : ((U16B cs).map Value.int).getD (2 * j) (.int 0) = .int (b0 cs[j]) := by rw [getD_mapI, (U16B_get cs j h).1]
theorem getU1 {cs : List Int32} {j : Nat} (h : j < cs.length) : ((U16B cs).map Value.int).getD (2 * j + 1) (.int 0) = .int (b1 cs[j]) := by rw [getD_mapI, (U16B_get cs j h).2]
theorem bb8 (x : Int32) : x.toInt8.toInt32.toInt8.toInt32 = x.toInt8.toInt32 := by simp
theorem encC_01 (cs : List Int32) : encC cs = 0 ∨ encC cs = 1 := by unfold encC; split; exact Or.inl rfl; exact Or.inr rfl
theorem coder_nar {c : Int32} (q : c = 0 ∨ c = 1) : narrow .byte (.int c) = .int c := by rcases q with rfl | rfl <;> decide
theorem coder_fit {c : Int32} (q : c = 0 ∨ c = 1) : fits .byte (.int c) = true := by rcases q with rfl | rfl <;> decide
theorem encB_len (cs : List Int32) : (encB cs).length = if Lat cs then cs.length else 2 * cs.length := by
  unfold encB; split; exact List.length_map _; exact U16B_len cs
theorem encB_ne {cs : List Int32} (q : cs ≠ []) : 0 < (encB cs).length := by
  have := List.length_pos_iff.mpr q
  rw [encB_len]; split <;> omega
theorem coder_enc {z zz : Int32} {cs : List Int32} (hz : z.toInt = cs.length) (hzz : zz.toInt = (encB cs).length) (hL : Lat cs → zz = z) (hne : cs ≠ []) (hlen : cs.length ≤ 1000000) : nar .byte (((z - zz).toUInt32 >>> ((31 : Int32) &&& 31).toUInt32).toInt32.toInt8.toInt32) = encC cs := by
  by_cases q : Lat cs
  · rw [hL q, Int32.sub_self, show encC cs = 0 from if_pos q]; decide
  · rw [show encC cs = 1 from if_neg q]
    have hp := List.length_pos_iff.mpr hne
    rw [encB_len, if_neg q] at hzz
    have : (z - zz).toInt < 0 := by
      rw [Int32.toInt_sub, hz, hzz, Int.bmod_eq_of_le (by omega) (by omega)]; omega
    rw [sgn1 this]; decide
theorem wide_of (x : Int32) : 0 ≤ (nar .char x).toInt ∧ (nar .char x).toInt < 65536 := by
  have e : nar .char x = Int32.ofNat (x.toBitVec.toNat % 65536) := by
    apply eqBV
    rw [bv_ofNat (by omega)]
    show ((x.toBitVec.setWidth 16).setWidth 32).toNat = _
    rw [BitVec.toNat_setWidth, BitVec.toNat_setWidth]; omega
  rw [e, ofN (by omega)]; omega
theorem and_nonneg (x : Int32) : 0 ≤ (x &&& (2147483647 : Int32)).toInt := by
  obtain ⟨n, h1, h2⟩ := and_nat x (k := 2147483647) (by decide)
  rw [show (2147483647 : Int32) = Int32.ofNat 2147483647 from rfl, h2, ofN (by omega)]; omega
theorem eqI_v {args : Array Value} {first s : State} {o : Option Outcome} {idx : List Nat} {t : Term} {k : Int32} (h : (Jvm.Cond.eq t (Term.int k)).value args first o s idx = some true) : t.eval args first o idx s = some (.int k) := by
  obtain ⟨x, y, e1, e2, -, k2⟩ := cmp_v (Or.inl h)
  obtain rfl : y = .int k := Option.some.inj (e2.symm.trans (Term.int_eval k))
  obtain ⟨z, rfl⟩ := k2
  obtain rfl : z = k := gotT (Cond.eq_ints e1 (Term.int_eval k)) h
  exact e1
end OwnU16
def Q_pch (Z : State) (n0 : Nat) (d : Addr) (kd : ClassId) (i cc zz : Int32) (j : Nat) (vs : List Value) (h0 : Heap) (v : Option Value) (h : Heap) : Prop := v = none ∧ Keep h0 h [d] ∧ Arv Z h d kd .byte zz ((vs.set (2 * j) (.int (b0 cc))).set (2 * j + 1) (.int (b1 cc))) (.int 0)
set_option maxRecDepth 65536 in
set_option maxHeartbeats 40000000 in
theorem ct_pch {l : Launch} {Z : State} {a0 : Array Value} (hw : ∀ d ∈ tables_1, d.before a0 Z = true) (hEL : EW Z a0 EL0) {n0 : Nat} (cds : List Jvm.Cond) (d : Addr) (kd : ClassId) (i cc zz : Int32) (j : Nat) (vs : List Value) (h0 : Heap) (Vd : Arv Z h0 d kd .byte zz vs (.int 0)) (hz : zz.toInt = vs.length) (hi : i.toInt = j) (hj : 2 * j + 1 < vs.length) (n0_d : n0 ≤ d) (SAD : Sta Z Z.heap "java/lang/StringUTF16" "$assertionsDisabled" "Z" (.int 1)) (SHI : Sta Z Z.heap "java/lang/StringUTF16" "HI_BYTE_SHIFT" "I" (.int 0)) (SLO : Sta Z Z.heap "java/lang/StringUTF16" "LO_BYTE_SHIFT" "I" (.int 8)) :
    Ct l Z a0 EL0 n0 false true (⟨"java/lang/StringUTF16", "putChar", "([BII)V"⟩ : MethodName) jdk_52_method_4_code 3 (Option.none : Option Jvm.ClassFile.FieldType) cds ({ frames := 0, cells := 0, slots := 0, locals := 0 } : Room) [d] #[(.ref d), (.int i), (.int cc)] h0 (Q_pch Z n0 d kd i cc zz j vs h0) := by
  refine Ct.of (plainFor_of_name pn_0) hEL ?_
  intro p e s m below meth c T0 W0 hret hnm hs0
  refine Go.cast (ef_RII_3 m d i cc) ?_
  show Go p e below _ T0 (mkF m 0 #[.val (.ref d), .val (.int i), .val (.int cc)] [])
  have bz := zz.toInt_lt
  have lt_d := natlt Vd.lt
  refine gGetS W0 (host := "") (Or.inl (w_91 hw)) Via.refl (SAD.ext W0.old.2) d18_0 (pc' := 3) rfl ?_
  intro T1 W1
  refine s_ifne W1 d18_3 (by decide) (pc1 := 28) (by decide) (pc2 := 6) rfl ?_ (fun q => absurd q (by decide))
  intro q3
  refine s_iloadN W1 d18_28 rfl (pc' := 29) rfl ?_
  refine s_iconst W1 d18_29 (v := (1 : Int32)) (by decide) (pc' := 30) rfl ?_
  refine s_ishl W1 d18_30 (pc' := 31) rfl ?_
  rw [shl1 hi (by omega)]
  refine s_istoreN W1 d18_31 (l' := #[.val (.ref d), .val (.int (Int32.ofNat (2 * j))), .val (.int cc)]) rfl (pc' := 32) rfl ?_
  refine s_aloadN W1 d18_32 rfl rfl (pc' := 33) rfl ?_
  refine s_iloadN W1 d18_33 rfl (pc' := 34) rfl ?_
  refine s_iinc W1 d18_34 (v := (1 : Int32)) (by decide) rfl (l' := #[.val (.ref d), .val (.int ((Int32.ofNat (2 * j)) + (1 : Int32))), .val (.int cc)]) rfl (pc' := 37) rfl ?_
  rw [show Int32.ofNat (2 * j) + (1 : Int32) = Int32.ofNat (2 * j + 1) from n32s _]
  refine s_iloadN W1 d18_37 rfl (pc' := 38) rfl ?_
  refine gGetS W1 (host := "") (Or.inl (w_92 hw)) Via.refl (SHI.ext W1.old.2) d18_38 (pc' := 41) rfl ?_
  intro T2 W2
  refine s_ishr W2 d18_41 (pc' := 42) rfl ?_
  refine s_i2b W2 d18_42 (pc' := 43) rfl ?_
  refine gStB W2 n0_d (List.mem_of_getElem? (i := 0) rfl) Vd (idxM (ofN (by omega)) hz (by omega)).1 (i := (2 * j)) (idxM (ofN (by omega)) hz (by omega)).2 (by omega) d18_43 (pc' := 44) rfl ?_
  intro T3 h3 W3 K3 V1
  rw [bb8] at V1
  have z3 : h0.size ≤ h3.size := K3.1
  refine s_aloadN W3 d18_44 rfl rfl (pc' := 45) rfl ?_
  refine s_iloadN W3 d18_45 rfl (pc' := 46) rfl ?_
  refine s_iloadN W3 d18_46 rfl (pc' := 47) rfl ?_
  refine gGetS W3 (host := "") (Or.inl (w_93 hw)) Via.refl (SLO.ext W3.old.2) d18_47 (pc' := 50) rfl ?_
  intro T4 W4
  refine s_ishr W4 d18_50 (pc' := 51) rfl ?_
  refine s_i2b W4 d18_51 (pc' := 52) rfl ?_
  refine gStB W4 n0_d (List.mem_of_getElem? (i := 0) rfl) V1 (idxM (ofN (by omega)) hz (by omega)).1 (i := (2 * j + 1)) (idxM (ofN (by omega)) hz (by omega)).2 (by rw [List.length_set]; omega) d18_52 (pc' := 53) rfl ?_
  intro T5 h5 W5 K5 V2
  rw [bb8] at V2
  have z5 : h3.size ≤ h5.size := K5.1
  exact gRetV W5 hret d18_53 (by decide) (by decide) ⟨rfl, (((Keep.refl h0 [d]).trans K3 (allS (Or.inl (by simp)) all0)).trans K5 (allS (Or.inl (by simp)) all0)), V2⟩
def Q_gch (Z : State) (n0 : Nat) (d : Addr) (kd : ClassId) (i zz : Int32) (cs : List Int32) (j : Nat) (hjl : j < cs.length) (h0 : Heap) (v : Option Value) (h : Heap) : Prop := v = some (.int cs[j]) ∧ h0 = h
set_option maxRecDepth 65536 in
set_option maxHeartbeats 40000000 in
theorem ct_gch {l : Launch} {Z : State} {a0 : Array Value} (hw : ∀ d ∈ tables_1, d.before a0 Z = true) (hEL : EW Z a0 EL0) {n0 : Nat} (cds : List Jvm.Cond) (d : Addr) (kd : ClassId) (i zz : Int32) (cs : List Int32) (j : Nat) (hjl : j < cs.length) (h0 : Heap) (Vd : Arv Z h0 d kd .byte zz ((U16B cs).map Value.int) (.int 0)) (hz : zz.toInt = (2 * cs.length : Nat)) (hi : i.toInt = j) (hcs : ∀ c ∈ cs, 0 ≤ c.toInt ∧ c.toInt < 65536) (SAD : Sta Z Z.heap "java/lang/StringUTF16" "$assertionsDisabled" "Z" (.int 1)) (SHI : Sta Z Z.heap "java/lang/StringUTF16" "HI_BYTE_SHIFT" "I" (.int 0)) (SLO : Sta Z Z.heap "java/lang/StringUTF16" "LO_BYTE_SHIFT" "I" (.int 8)) :
    Ct l Z a0 EL0 n0 false true (⟨"java/lang/StringUTF16", "getChar", "([BI)C"⟩ : MethodName) jdk_52_method_5_code 2 (Option.some Jvm.ClassFile.FieldType.char) cds ({ frames := 0, cells := 0, slots := 0, locals := 0 } : Room) [] #[(.ref d), (.int i)] h0 (Q_gch Z n0 d kd i zz cs j hjl h0) := by
  refine Ct.of (plainFor_of_name pn_0) hEL ?_
  intro p e s m below meth c T0 W0 hret hnm hs0
  refine Go.cast (ef_RI_2 m d i) ?_
  show Go p e below _ T0 (mkF m 0 #[.val (.ref d), .val (.int i)] [])
  have bz := zz.toInt_lt
  have hw' := hcs cs[j] (List.getElem_mem hjl)
  refine gGetS W0 (host := "") (Or.inl (w_91 hw)) Via.refl (SAD.ext W0.old.2) d19_0 (pc' := 3) rfl ?_
  intro T1 W1
  refine s_ifne W1 d19_3 (by decide) (pc1 := 28) (by decide) (pc2 := 6) rfl ?_ (fun q => absurd q (by decide))
  intro q3
  refine s_iloadN W1 d19_28 rfl (pc' := 29) rfl ?_
  refine s_iconst W1 d19_29 (v := (1 : Int32)) (by decide) (pc' := 30) rfl ?_
  refine s_ishl W1 d19_30 (pc' := 31) rfl ?_
  rw [shl1 hi (by omega)]
  refine s_istoreN W1 d19_31 (l' := #[.val (.ref d), .val (.int (Int32.ofNat (2 * j)))]) rfl (pc' := 32) rfl ?_
  refine s_aloadN W1 d19_32 rfl rfl (pc' := 33) rfl ?_
  refine s_iloadN W1 d19_33 rfl (pc' := 34) rfl ?_
  refine s_iinc W1 d19_34 (v := (1 : Int32)) (by decide) rfl (l' := #[.val (.ref d), .val (.int ((Int32.ofNat (2 * j)) + (1 : Int32)))]) rfl (pc' := 37) rfl ?_
  rw [show Int32.ofNat (2 * j) + (1 : Int32) = Int32.ofNat (2 * j + 1) from n32s _]
  refine gLdB W1 Vd (idxM (j := 2 * j) (k := 2 * cs.length) (ofN (by omega)) hz (by omega)).1 (v := .int (b0 cs[j])) (by rw [(idxM (j := 2 * j) (k := 2 * cs.length) (ofN (by omega)) hz (by omega)).2]; exact getU0 hjl) d19_37 (pc' := 38) rfl ?_
  refine s_sipush W1 d19_38 (v := (255 : Int32)) (by decide) (pc' := 41) rfl ?_
  refine s_iand W1 d19_41 (pc' := 42) rfl ?_
  refine gGetS W1 (host := "") (Or.inl (w_92 hw)) Via.refl (SHI.ext W1.old.2) d19_42 (pc' := 45) rfl ?_
  intro T2 W2
  refine s_ishl W2 d19_45 (pc' := 46) rfl ?_
  refine s_aloadN W2 d19_46 rfl rfl (pc' := 47) rfl ?_
  refine s_iloadN W2 d19_47 rfl (pc' := 48) rfl ?_
  refine gLdB W2 Vd (idxM (j := 2 * j + 1) (k := 2 * cs.length) (ofN (by omega)) hz (by omega)).1 (v := .int (b1 cs[j])) (by rw [(idxM (j := 2 * j + 1) (k := 2 * cs.length) (ofN (by omega)) hz (by omega)).2]; exact getU1 hjl) d19_48 (pc' := 49) rfl ?_
  refine s_sipush W2 d19_49 (v := (255 : Int32)) (by decide) (pc' := 52) rfl ?_
  refine s_iand W2 d19_52 (pc' := 53) rfl ?_
  refine gGetS W2 (host := "") (Or.inl (w_93 hw)) Via.refl (SLO.ext W2.old.2) d19_53 (pc' := 56) rfl ?_
  intro T3 W3
  refine s_ishl W3 d19_56 (pc' := 57) rfl ?_
  refine s_ior W3 d19_57 (pc' := 58) rfl ?_
  refine s_i2c W3 d19_58 (pc' := 59) rfl ?_
  exact gRetN W3 hret (by simp) d19_59 (by decide) (by decide) ⟨by show some (Value.int (nar .char (gchV (b0 cs[j]) (b1 cs[j])))) = _; rw [gch_of hw', nar_wide hw'], rfl⟩
def Q_nbl (Z : State) (n0 : Nat) (z : Int32) (h0 : Heap) (v : Option Value) (h : Heap) : Prop := v = some (.int (z <<< ((1 : Int32) &&& 31))) ∧ h0 = h
set_option maxRecDepth 65536 in
set_option maxHeartbeats 40000000 in
theorem ct_nbl {l : Launch} {Z : State} {a0 : Array Value} (hw : ∀ d ∈ tables_1, d.before a0 Z = true) (hEL : EW Z a0 EL0) {n0 : Nat} (cds : List Jvm.Cond) (z : Int32) (h0 : Heap) (h1 : 0 ≤ z.toInt) (h2 : z.toInt < 1073741823) :
    Ct l Z a0 EL0 n0 false true (⟨"java/lang/StringUTF16", "newBytesLength", "(I)I"⟩ : MethodName) jdk_52_method_3_code 1 (Option.some Jvm.ClassFile.FieldType.int) cds ({ frames := 0, cells := 0, slots := 0, locals := 0 } : Room) [] #[(.int z)] h0 (Q_nbl Z n0 z h0) := by
  refine Ct.of (plainFor_of_name pn_0) hEL ?_
  intro p e s m below meth c T0 W0 hret hnm hs0
  refine Go.cast (ef_I_1 m z) ?_
  show Go p e below _ T0 (mkF m 0 #[.val (.int z)] [])
  refine s_iloadN W0 d17_0 rfl (pc' := 1) rfl ?_
  refine s_ifge W0 d17_1 (by decide) (pc1 := 12) (by decide) (pc2 := 4) rfl ?_ (fun q => absurd q (nlt32 (by rw [zero32]; omega)))
  intro q1
  refine s_iloadN W0 d17_12 rfl (pc' := 13) rfl ?_
  refine s_ldcI W0 (w_87 hw) d17_13 (pc' := 15) rfl ?_
  refine s_icmplt W0 d17_15 (by decide) (pc1 := 55) (by decide) (pc2 := 18) rfl ?_ (fun q => absurd q (fun q' => q' (lt32 (by rw [show (1073741823 : Int32).toInt = 1073741823 from by decide]; omega))))
  intro q15
  refine s_iloadN W0 d17_55 rfl (pc' := 56) rfl ?_
  refine s_iconst W0 d17_56 (v := (1 : Int32)) (by decide) (pc' := 57) rfl ?_
  refine s_ishl W0 d17_57 (pc' := 58) rfl ?_
  exact gRetI W0 hret d17_58 (by decide) (by decide) ⟨rfl, rfl⟩
def Q_nbf (Z : State) (n0 : Nat) (z : Int32) (k : Nat) (h0 : Heap) (v : Option Value) (h : Heap) : Prop := ∃ d kd, v = some (.ref d) ∧ Keep h0 h [] ∧ h0.size ≤ d ∧ Arv Z h d kd .byte (Int32.ofNat (2 * k)) [] (.int 0)
set_option maxRecDepth 65536 in
set_option maxHeartbeats 40000000 in
theorem ct_nbf {l : Launch} {Z : State} {a0 : Array Value} (hw : ∀ d ∈ tables_1, d.before a0 Z = true) (hEL : EW Z a0 EL0) {n0 : Nat} (cds : List Jvm.Cond) (z : Int32) (k : Nat) (h0 : Heap) (hz : z.toInt = k) (hk : k ≤ 2) :
    CtS l Z a0 EL0 n0 false true (⟨"java/lang/StringUTF16", "newBytesFor", "(I)[B"⟩ : MethodName) jdk_52_method_2_code 1 (Option.some (Jvm.ClassFile.FieldType.array Jvm.ClassFile.FieldType.byte)) cds ({ frames := 1, cells := 1, slots := 4, locals := 12 } : Room) [] #[(.int z)] h0 (Q_nbf Z n0 z k h0) := by
  refine CtS.of (plainFor_of_name pn_0) hEL ?_
  intro p e s m below meth c T0 W0 hret hnm hs0
  refine Go.cast (ef_I_1 m z) ?_
  show Go p e below _ T0 (mkF m 0 #[.val (.int z)] [])
  refine s_iloadN W0 d16_0 rfl (pc' := 1) rfl ?_
  refine gStatic W0 (w_84 hw) (w_85 hw) (w_70 hw) (w_86 hw) (by decide) pd_0 (ct_nbl hw hEL [] z h0 (by omega) (by omega)) (by simp) d16_1 (pc' := 4) rfl rfl (argsL := [(.int z)]) rfl rfl (rest := []) rfl (wt := 0) (Nat.le_of_eq rfl) (by decide) (by decide) (by decide) (by decide) ?_
  rintro v1 T1 h1 W1 z1 ⟨rfl, rfl⟩
  rw [shl1 hz (by omega)]
  show Go p e below _ T1 (mkF m 4 #[.val (.int z)] [(.int (Int32.ofNat (2 * k)))])
  refine gNewP (aty := .byte) W1 (w_15 hw) (ad := "[B") (by decide +kernel) d16_4 (pc' := 6) rfl (nlt32 (by rw [zero32, ofN (show 2 * k < 2147483648 by omega)]; omega)) (cap := 4) (by rw [show (Int32.ofNat (2 * k)).toNatClampNeg = 2 * k from n32c (by omega)]; omega) (by decide) (by decide) (by decide) ?_
  intro T2 h2 b2 g2 W2 E2 ⟨k2, V2, A2⟩
  have z2 : h0.size ≤ h2.size := E2.1
  have lt_b2 := natlt A2.lt
  have gg2 := nateq g2
  have n0_b2 : n0 ≤ b2 := by have := W1.n0le; omega
  have Vp2 : Arv Z h2 b2 k2 .byte (Int32.ofNat (2 * k)) [] (.int (0 : Int32)) := V2
  exact gRetAS W2 (List.mem_of_getElem? (i := 0) rfl) hret rfl d16_6 (by decide) (by decide) ⟨_, _, rfl, ((Keep.refl h0 []).ext E2), natle (by omega), Vp2⟩
def Q_tb3 (Z : State) (n0 : Nat) (b : Addr) (kb : ClassId) (z : Int32) (cs : List Int32) (h0 : Heap) (v : Option Value) (h : Heap) : Prop := ∃ d kd, v = some (.ref d) ∧ Keep h0 h [] ∧ h0.size ≤ d ∧ Arv Z h d kd .byte (Int32.ofNat (2 * cs.length)) ((U16B cs).map Value.int) (.int 0)
set_option maxRecDepth 65536 in
set_option maxHeartbeats 40000000 in
theorem ct_tb3 {l : Launch} {Z : State} {a0 : Array Value} (hw : ∀ d ∈ tables_1, d.before a0 Z = true) (hEL : EW Z a0 EL0) {n0 : Nat} (cds : List Jvm.Cond) (b : Addr) (kb : ClassId) (z : Int32) (cs : List Int32) (h0 : Heap) (hz : z.toInt = cs.length) (hlen : cs.length ≤ 2) (Vb : Arv Z h0 b kb .char z (cs.map Value.int) (.int 0)) (SAD : Sta Z Z.heap "java/lang/StringUTF16" "$assertionsDisabled" "Z" (.int 1)) (SHI : Sta Z Z.heap "java/lang/StringUTF16" "HI_BYTE_SHIFT" "I" (.int 0)) (SLO : Sta Z Z.heap "java/lang/StringUTF16" "LO_BYTE_SHIFT" "I" (.int 8)) :
    CtS l Z a0 EL0 n0 false true (⟨"java/lang/StringUTF16", "toBytes", "([CII)[B"⟩ : MethodName) jdk_52_method_14_code 5 (Option.some (Jvm.ClassFile.FieldType.array Jvm.ClassFile.FieldType.byte)) cds ({ frames := 2, cells := 1, slots := 4, locals := 24 } : Room) [] #[(.ref b), (.int (0 : Int32)), (.int z)] h0 (Q_tb3 Z n0 b kb z cs h0) := by
  refine CtS.of (plainFor_of_name pn_0) hEL ?_
  intro p e s m below meth c T0 W0 hret hnm hs0
  refine Go.cast (ef_RII_5 m b (0 : Int32) z) ?_
  show Go p e below _ T0 (mkF m 0 #[.val (.ref b), .val (.int (0 : Int32)), .val (.int z), .unset, .unset] [])
  have lt_b := natlt Vb.lt
  refine s_iloadN W0 d15_0 rfl (pc' := 1) rfl ?_
  refine gStaticS W0 (w_81 hw) (w_82 hw) (w_70 hw) (w_83 hw) (by decide) pd_1 (ct_nbf hw hEL [] z cs.length h0 hz hlen) (by simp) d15_1 (pc' := 4) rfl rfl (argsL := [(.int z)]) rfl rfl (rest := []) rfl (wt := 0) (Nat.le_of_eq rfl) (by decide) (by decide) (by decide) (by decide) ?_
  rintro v1 T1 h1 Wf1 z1 ⟨d, kd, rfl, Kn, gn, Vn⟩
  have W1 := Wf1 [d] (fun x hx => (List.mem_cons.mp hx).elim (fun q => Or.inr (by rw [q])) Or.inl)
  have gd0 := natle gn
  have lt_d := natlt Vn.lt
  have n0_d : n0 ≤ d := by have := W0.n0le; omega
  show Go p e below _ T1 (mkF m 4 #[.val (.ref b), .val (.int (0 : Int32)), .val (.int z), .unset, .unset] [(.ref d)])
  refine s_astoreN W1 d15_4 rfl (l' := #[.val (.ref b), .val (.int (0 : Int32)), .val (.int z), .val (.ref d), .unset]) rfl (pc' := 5) rfl ?_
  refine s_iconst W1 d15_5 (v := (0 : Int32)) (by decide) (pc' := 6) rfl ?_
  refine s_istore W1 d15_6 (l' := #[.val (.ref b), .val (.int (0 : Int32)), .val (.int z), .val (.ref d), .val (.int (0 : Int32))]) rfl (pc' := 8) rfl ?_
  have zz : (Int32.ofNat (2 * cs.length)).toInt = (2 * cs.length : Nat) := ofN (by omega)
  suffices loop : ∀ (r j : Nat), j + r = cs.length → ∀ (T : State) (h : Heap), Wk p l e ({ frames := 2, cells := 1, slots := 4, locals := 24 } : Room) s m #[(.ref b), (.int (0 : Int32)), (.int z)] below meth c Z a0 EL0 n0 false true "java/lang/StringUTF16" jdk_52_method_14_code 5 [d] T h 1 4 → Keep h1 h [d] → Arv Z h d kd .byte (Int32.ofNat (2 * cs.length)) ((U16B (cs.take j)).map Value.int ++ List.replicate (2 * r) (.int 0)) (.int 0) → Go p e below (PoS s Z EL0 n0 true ({ frames := 2, cells := 1, slots := 4, locals := 24 } : Room).cells ({ frames := 2, cells := 1, slots := 4, locals := 24 } : Room).slots (Q_tb3 Z n0 b kb z cs h0)) T (mkF m 8 #[.val (.ref b), .val (.int j.toInt32), .val (.int z), .val (.ref d), .val (.int j.toInt32)] []) from
    loop cs.length 0 (Nat.zero_add _) T1 h1 W1 (Keep.refl _ _) (Arv.pad Vn (pad_rep [] (.int 0) (2 * cs.length)))
  intro r
  induction r with
  | zero =>
    intro j hj T1 h1 W1 K1 Vj
    have ej : j.toInt32.toInt = j := n32 (by omega)
    refine s_iload W1 d15_8 rfl (pc' := 10) rfl ?_
    refine s_iloadN W1 d15_10 rfl (pc' := 11) rfl ?_
    refine s_icmpge W1 d15_11 (by decide) (pc1 := 32) (by decide) (pc2 := 14) rfl ?_ (fun q => absurd q (nlt32 (by omega)))
    intro q11
    refine s_aloadN W1 d15_32 rfl rfl (pc' := 33) rfl ?_
    exact gRetAS W1 (List.mem_of_getElem? (i := 0) rfl) hret rfl d15_33 (by decide) (by decide) ⟨d, kd, rfl, Kn.trans K1 (allS (Or.inr gd0) all0), gd0, by rw [List.take_of_length_le (by omega), Nat.mul_zero, List.replicate_zero, List.append_nil] at Vj; exact Vj⟩
  | succ r ih =>
    intro j hj T1 h1 W1 K1 Vj
    have ej : j.toInt32.toInt = j := n32 (by omega)
    have hjl : j < cs.length := by omega
    have Vb1 := (Vb.keep Kn nin0).keep K1 (ninS (ane (by omega)) nin0)
    refine s_iload W1 d15_8 rfl (pc' := 10) rfl ?_
    refine s_iloadN W1 d15_10 rfl (pc' := 11) rfl ?_
    refine s_icmpge W1 d15_11 (by decide) (pc1 := 32) (by decide) (pc2 := 14) rfl (fun q => absurd q (fun q' => q' (lt32 (by omega)))) ?_
    intro q11
    refine s_aloadN W1 d15_14 rfl rfl (pc' := 15) rfl ?_
    refine s_iload W1 d15_15 rfl (pc' := 17) rfl ?_
    refine s_aloadN W1 d15_17 rfl rfl (pc' := 18) rfl ?_
    refine s_iloadN W1 d15_18 rfl (pc' := 19) rfl ?_
    refine gLdC W1 Vb1 (idxM ej hz hjl).1 (v := .int cs[j]) (by rw [(idxM ej hz hjl).2]; exact getD_map' _ _ _ hjl) d15_19 (pc' := 20) rfl ?_
    have ln : ((U16B (cs.take j)).map Value.int).length = 2 * j := by rw [List.length_map, U16B_len, List.length_take]; omega
    have lv : ((U16B (cs.take j)).map Value.int ++ List.replicate (2 * (r + 1)) (Value.int 0)).length = 2 * cs.length := by rw [List.length_append, ln, List.length_replicate]; omega
    refine gStatic W1 (w_88 hw) (w_89 hw) (w_70 hw) (w_90 hw) (by decide) pd_2 (ct_pch hw hEL [] d kd j.toInt32 cs[j] (Int32.ofNat (2 * cs.length)) j ((U16B (cs.take j)).map Value.int ++ List.replicate (2 * (r + 1)) (Value.int 0)) h1 Vj (by rw [lv]; exact zz) ej (by rw [lv]; omega) n0_d SAD SHI SLO) (fun x hx => hx) d15_20 (pc' := 23) rfl rfl (argsL := [(.ref d), (.int j.toInt32), (.int cs[j])]) rfl rfl (rest := []) rfl (wt := 0) (Nat.le_of_eq rfl) (by decide) (by decide) (by decide) (by decide) ?_
    rintro v2 T2 h2 W2 z2 ⟨rfl, Kp, Vp⟩
    show Go p e below _ T2 (mkF m 23 #[.val (.ref b), .val (.int j.toInt32), .val (.int z), .val (.ref d), .val (.int j.toInt32)] [])
    refine s_iinc W2 d15_23 (v := (1 : Int32)) (by decide) rfl (l' := #[.val (.ref b), .val (.int (j.toInt32 + (1 : Int32))), .val (.int z), .val (.ref d), .val (.int j.toInt32)]) rfl (pc' := 26) rfl ?_
    refine s_iinc W2 d15_26 (v := (1 : Int32)) (by decide) rfl (l' := #[.val (.ref b), .val (.int (j.toInt32 + (1 : Int32))), .val (.int z), .val (.ref d), .val (.int (j.toInt32 + (1 : Int32)))]) rfl (pc' := 29) rfl ?_
    refine s_goto W2 d15_29 (by decide) (pc' := 8) (by decide) ?_
    rw [n32s]
    refine ih (j + 1) (by omega) T2 h2 W2 (K1.trans Kp (allS (Or.inl (by simp)) all0)) ?_
    have e1 : List.replicate (2 * (r + 1)) (Value.int 0) = Value.int 0 :: Value.int 0 :: List.replicate (2 * r) (Value.int 0) := by rw [show 2 * (r + 1) = 2 * r + 1 + 1 from by omega, List.replicate_succ, List.replicate_succ]
    rw [e1, set2 _ _ _ _ _ _ ln.symm] at Vp
    rw [List.take_succ_eq_append_getElem hjl, U16B_app, List.map_append, List.append_assoc]
    exact Vp
def Q_cmp5g (Z : State) (n0 : Nat) (b d : Addr) (kb kd : ClassId) (z : Int32) (cs : List Int32) (h0 : Heap) (v : Option Value) (h : Heap) : Prop := Keep h0 h [d] ∧ ((v = some (.int z) ∧ Lat cs ∧ Arv Z h d kd .byte z (cs.map fun c => Value.int c.toInt8.toInt32) (.int 0)) ∨ ∃ f, ∃ hf : f < cs.length, v = some (.int f.toInt32) ∧ 256 ≤ cs[f].toInt)
set_option maxRecDepth 65536 in
set_option maxHeartbeats 40000000 in
theorem ct_cmp5g {l : Launch} {Z : State} {a0 : Array Value} (hw : ∀ d ∈ tables_1, d.before a0 Z = true) (hEL : EW Z a0 EL0) {n0 : Nat} (cds : List Jvm.Cond) (b d : Addr) (kb kd : ClassId) (z : Int32) (cs : List Int32) (h0 : Heap) (hz : z.toInt = cs.length) (hlen : cs.length ≤ 2) (Vb : Arv Z h0 b kb .char z (cs.map Value.int) (.int 0)) (Vd : Arv Z h0 d kd .byte z [] (.int 0)) (n0_d : n0 ≤ d) (hne : b ≠ d) :
    Ct l Z a0 EL0 n0 false true (⟨"java/lang/StringUTF16", "compress", "([CI[BII)I"⟩ : MethodName) jdk_52_method_21_code 7 (Option.some Jvm.ClassFile.FieldType.int) cds ({ frames := 0, cells := 0, slots := 0, locals := 0 } : Room) [d] #[(.ref b), (.int (0 : Int32)), (.ref d), (.int (0 : Int32)), (.int z)] h0 (Q_cmp5g Z n0 b d kb kd z cs h0) := by
  refine Ct.of (plainFor_of_name pn_0) hEL ?_
  intro p e s m below meth c T0 W0 hret hnm hs0
  refine Go.cast (ef_RIRII_7 m b (0 : Int32) d (0 : Int32) z) ?_
  show Go p e below _ T0 (mkF m 0 #[.val (.ref b), .val (.int (0 : Int32)), .val (.ref d), .val (.int (0 : Int32)), .val (.int z), .unset, .unset] [])
  refine s_iconst W0 d13_0 (v := (0 : Int32)) (by decide) (pc' := 1) rfl ?_
  refine s_istore W0 d13_1 (l' := #[.val (.ref b), .val (.int (0 : Int32)), .val (.ref d), .val (.int (0 : Int32)), .val (.int z), .val (.int (0 : Int32)), .unset]) rfl (pc' := 3) rfl ?_
  suffices loop : ∀ (r j : Nat), j + r = cs.length → ∀ (T : State) (h : Heap) (s6 : Slot), One1 s6 → Wk p l e ({ frames := 0, cells := 0, slots := 0, locals := 0 } : Room) s m #[(.ref b), (.int (0 : Int32)), (.ref d), (.int (0 : Int32)), (.int z)] below meth c Z a0 EL0 n0 false true "java/lang/StringUTF16" jdk_52_method_21_code 7 [d] T h 0 0 → Keep h0 h [d] → (∀ i, ∀ hi : i < cs.length, i < j → cs[i].toInt < 256) → Arv Z h d kd .byte z ((cs.take j).map fun c => Value.int c.toInt8.toInt32) (.int 0) → Go p e below (Po s Z EL0 n0 true ({ frames := 0, cells := 0, slots := 0, locals := 0 } : Room).cells ({ frames := 0, cells := 0, slots := 0, locals := 0 } : Room).slots (Q_cmp5g Z n0 b d kb kd z cs h0)) T (mkF m 3 #[.val (.ref b), .val (.int j.toInt32), .val (.ref d), .val (.int j.toInt32), .val (.int z), .val (.int j.toInt32), s6] []) from
    loop cs.length 0 (Nat.zero_add _) T0 h0 .unset One1.u W0 (Keep.refl _ _) (fun i _ q => absurd q (Nat.not_lt_zero _)) Vd
  intro r
  induction r with
  | zero =>
    intro j hj T1 h1 s6 h6 W1 K1 HL Vj
    have ej : j.toInt32.toInt = j := n32 (by omega)
    refine s_iload W1 d13_3 rfl (pc' := 5) rfl ?_
    refine s_iload W1 d13_5 rfl (pc' := 7) rfl ?_
    refine s_icmpge W1 d13_7 (by decide) (pc1 := 44) (by decide) (pc2 := 10) rfl ?_ (fun q => absurd q (nlt32 (by omega)))
    intro q7
    refine s_iload W1 d13_44 rfl (pc' := 46) rfl ?_
    exact gRetI W1 hret d13_46 (by decide) (by decide) ⟨K1, Or.inl ⟨rfl, (fun c hc => by obtain ⟨i, hi, rfl⟩ := List.getElem_of_mem hc; exact HL i hi (by omega)), by rw [List.take_of_length_le (by omega)] at Vj; exact Vj⟩⟩
  | succ r ih =>
    intro j hj T1 h1 s6 h6 W1 K1 HL Vj
    have ej : j.toInt32.toInt = j := n32 (by omega)
    have hjl : j < cs.length := by omega
    have os : storeLocals #[.val (.ref b), .val (.int j.toInt32), .val (.ref d), .val (.int j.toInt32), .val (.int z), .val (.int j.toInt32), s6] 6 (.int cs[j]) = some #[.val (.ref b), .val (.int j.toInt32), .val (.ref d), .val (.int j.toInt32), .val (.int z), .val (.int j.toInt32), .val (.int cs[j])] := by
      rcases h6 with rfl | ⟨w, rfl, hw⟩
      · rfl
      · cases w <;> first | rfl | (simp [Value.category] at hw)
    refine s_iload W1 d13_3 rfl (pc' := 5) rfl ?_
    refine s_iload W1 d13_5 rfl (pc' := 7) rfl ?_
    refine s_icmpge W1 d13_7 (by decide) (pc1 := 44) (by decide) (pc2 := 10) rfl (fun q => absurd q (fun q' => q' (lt32 (by omega)))) ?_
    intro q7
    refine s_aloadN W1 d13_10 rfl rfl (pc' := 11) rfl ?_
    refine s_iloadN W1 d13_11 rfl (pc' := 12) rfl ?_
    have Vb1 := Vb.keep K1 (ninS hne nin0)
    refine gLdC W1 Vb1 (idxM ej hz hjl).1 (v := .int cs[j]) (by rw [(idxM ej hz hjl).2]; exact getD_map' _ _ _ hjl) d13_12 (pc' := 13) rfl ?_
    refine s_istore W1 d13_13 (l' := #[.val (.ref b), .val (.int j.toInt32), .val (.ref d), .val (.int j.toInt32), .val (.int z), .val (.int j.toInt32), .val (.int cs[j])]) os (pc' := 15) rfl ?_
    refine s_iload W1 d13_15 rfl (pc' := 17) rfl ?_
    refine s_sipush W1 d13_17 (v := (255 : Int32)) (by decide) (pc' := 20) rfl ?_
    refine s_icmple W1 d13_20 (by decide) (pc1 := 26) (by decide) (pc2 := 23) rfl ?_ ?_
    · intro q20
      have qb : cs[j].toInt < 256 := Classical.byContradiction fun r => q20 (lt32 (by rw [show (255 : Int32).toInt = 255 from by decide]; omega))
      refine s_aloadN W1 d13_26 rfl rfl (pc' := 27) rfl ?_
      refine s_iloadN W1 d13_27 rfl (pc' := 28) rfl ?_
      refine s_iload W1 d13_28 rfl (pc' := 30) rfl ?_
      refine s_i2b W1 d13_30 (pc' := 31) rfl ?_
      have Vp := Arv.pad Vj (pad_rep _ (.int 0) 1)
      refine gStB W1 n0_d (List.mem_of_getElem? (i := 0) rfl) Vp (idxM ej hz hjl).1 (i := j) (idxM ej hz hjl).2 (by simp; omega) d13_31 (pc' := 32) rfl ?_
      intro T2 h2 W2 K2 V2
      refine s_iinc W2 d13_32 (v := (1 : Int32)) (by decide) rfl (l' := #[.val (.ref b), .val (.int (j.toInt32 + (1 : Int32))), .val (.ref d), .val (.int j.toInt32), .val (.int z), .val (.int j.toInt32), .val (.int cs[j])]) rfl (pc' := 35) rfl ?_
      refine s_iinc W2 d13_35 (v := (1 : Int32)) (by decide) rfl (l' := #[.val (.ref b), .val (.int (j.toInt32 + (1 : Int32))), .val (.ref d), .val (.int (j.toInt32 + (1 : Int32))), .val (.int z), .val (.int j.toInt32), .val (.int cs[j])]) rfl (pc' := 38) rfl ?_
      refine s_iinc W2 d13_38 (v := (1 : Int32)) (by decide) rfl (l' := #[.val (.ref b), .val (.int (j.toInt32 + (1 : Int32))), .val (.ref d), .val (.int (j.toInt32 + (1 : Int32))), .val (.int z), .val (.int (j.toInt32 + (1 : Int32))), .val (.int cs[j])]) rfl (pc' := 41) rfl ?_
      refine s_goto W2 d13_41 (by decide) (pc' := 3) (by decide) ?_
      rw [n32s]
      refine ih (j + 1) (by omega) T2 h2 _ (One1.i _) W2 (K1.trans K2 (allS (Or.inl (by simp)) all0)) (fun i hi q => (Nat.lt_succ_iff_lt_or_eq.mp q).elim (HL i hi) (fun e => by subst e; exact qb)) ?_
      rw [take_succ' _ _ hjl]
      rw [set_last _ _ _ (by simp; omega), bb8] at V2
      exact V2
    · intro q20
      have qb : 256 ≤ cs[j].toInt := by have := Int32.lt_iff_toInt_lt.mp q20; rw [show (255 : Int32).toInt = 255 from by decide] at this; omega
      refine s_iload W1 d13_23 rfl (pc' := 25) rfl ?_
      exact gRetI W1 hret d13_25 (by decide) (by decide) ⟨K1, Or.inr ⟨j, hjl, rfl, qb⟩⟩
def Q_cmp3g (Z : State) (n0 : Nat) (b : Addr) (kb : ClassId) (z : Int32) (cs : List Int32) (h0 : Heap) (v : Option Value) (h : Heap) : Prop := ∃ d kd, ∃ zz : Int32, v = some (.ref d) ∧ Keep h0 h [] ∧ h0.size ≤ d ∧ zz.toInt = (encB cs).length ∧ (Lat cs → zz = z) ∧ Arv Z h d kd .byte zz ((encB cs).map Value.int) (.int 0)
set_option maxRecDepth 65536 in
set_option maxHeartbeats 40000000 in
theorem ct_cmp3g {l : Launch} {Z : State} {a0 : Array Value} (hw : ∀ d ∈ tables_1, d.before a0 Z = true) (hEL : EW Z a0 EL0) {n0 : Nat} (cds : List Jvm.Cond) (b : Addr) (kb : ClassId) (z : Int32) (cs : List Int32) (h0 : Heap) (hz : z.toInt = cs.length) (hlen : cs.length ≤ 2) (hcs : ∀ c ∈ cs, 0 ≤ c.toInt ∧ c.toInt < 65536) (Vb : Arv Z h0 b kb .char z (cs.map Value.int) (.int 0)) (SAD : Sta Z Z.heap "java/lang/StringUTF16" "$assertionsDisabled" "Z" (.int 1)) (SHI : Sta Z Z.heap "java/lang/StringUTF16" "HI_BYTE_SHIFT" "I" (.int 0)) (SLO : Sta Z Z.heap "java/lang/StringUTF16" "LO_BYTE_SHIFT" "I" (.int 8)) :
    Ct l Z a0 EL0 n0 false true (⟨"java/lang/StringUTF16", "compress", "([CII)[B"⟩ : MethodName) jdk_52_method_16_code 6 (Option.some (Jvm.ClassFile.FieldType.array Jvm.ClassFile.FieldType.byte)) cds ({ frames := 3, cells := 2, slots := 6, locals := 40 } : Room) [] #[(.ref b), (.int (0 : Int32)), (.int z)] h0 (Q_cmp3g Z n0 b kb z cs h0) := by
  refine Ct.of (plainFor_of_name pn_0) hEL ?_
  intro p e s m below meth c T0 W0 hret hnm hs0
  refine Go.cast (ef_RII_6 m b (0 : Int32) z) ?_
  show Go p e below _ T0 (mkF m 0 #[.val (.ref b), .val (.int (0 : Int32)), .val (.int z), .unset, .unset, .unset] [])
  have lt_b := natlt Vb.lt
  refine s_iloadN W0 d12_0 rfl (pc' := 1) rfl ?_
  refine gNewP (aty := .byte) W0 (w_15 hw) (ad := "[B") (by decide +kernel) d12_1 (pc' := 3) rfl (nlt32 (by rw [zero32]; omega)) (cap := 2) (by show z.toInt.toNat ≤ _; omega) (by decide) (by decide) (by decide) ?_
  intro T1 h1 b1 g1 W1 E1 ⟨k1, V1, A1⟩
  have z1 : h0.size ≤ h1.size := E1.1
  have lt_b1 := natlt A1.lt
  have gg1 := nateq g1
  have n0_b1 : n0 ≤ b1 := by have := W0.n0le; omega
  have Vp1 : Arv Z h1 b1 k1 .byte z [] (.int (0 : Int32)) := V1
  refine s_astoreN W1 d12_3 rfl (l' := #[.val (.ref b), .val (.int (0 : Int32)), .val (.int z), .val (.ref b1), .unset, .unset]) rfl (pc' := 4) rfl ?_
  refine s_aloadN W1 d12_4 rfl rfl (pc' := 5) rfl ?_
  refine s_iloadN W1 d12_5 rfl (pc' := 6) rfl ?_
  refine s_aloadN W1 d12_6 rfl rfl (pc' := 7) rfl ?_
  refine s_iconst W1 d12_7 (v := (0 : Int32)) (by decide) (pc' := 8) rfl ?_
  refine s_iloadN W1 d12_8 rfl (pc' := 9) rfl ?_
  have fx2 := (Vb.ext E1)
  refine gStatic W1 (w_72 hw) (w_73 hw) (w_70 hw) (w_74 hw) (by decide) pd_3 (ct_cmp5g hw hEL [] b b1 kb k1 z cs h1 hz hlen fx2 Vp1 n0_b1 (ane (by omega))) (by simp) d12_9 (pc' := 12) rfl rfl (argsL := [(.ref b), (.int (0 : Int32)), (.ref b1), (.int (0 : Int32)), (.int z)]) rfl rfl (rest := []) rfl (wt := 0) (Nat.le_of_eq rfl) (by decide) (by decide) (by decide) (by decide) ?_
  rintro v3 T3 h3 W3 z3 ⟨K, Q⟩
  rcases Q with ⟨rfl, hL, V⟩ | ⟨f, hf, rfl, hbig⟩
  · show Go p e below _ T3 (mkF m 12 #[.val (.ref b), .val (.int (0 : Int32)), .val (.int z), .val (.ref b1), .unset, .unset] [(.int z)])
    refine s_istore W3 d12_12 (l' := #[.val (.ref b), .val (.int (0 : Int32)), .val (.int z), .val (.ref b1), .val (.int z), .unset]) rfl (pc' := 14) rfl ?_
    refine s_iload W3 d12_14 rfl (pc' := 16) rfl ?_
    refine s_iloadN W3 d12_16 rfl (pc' := 17) rfl ?_
    refine s_icmpeq W3 d12_17 (by decide) (pc1 := 57) (by decide) (pc2 := 20) rfl ?_ (fun q => (q rfl).elim)
    intro q17
    refine s_aloadN W3 d12_57 rfl rfl (pc' := 58) rfl ?_
    exact gRetA W3 hret rfl rfl d12_58 (by decide) (by decide) ⟨_, _, z, rfl, (((Keep.refl h0 []).ext E1).trans K (allS (Or.inr (natle (by omega))) all0)), natle (by omega), by rw [show encB cs = _ from if_pos hL, List.length_map]; exact hz, fun _ => rfl, by rw [show encB cs = _ from if_pos hL, List.map_map]; exact V⟩
  · show Go p e below _ T3 (mkF m 12 #[.val (.ref b), .val (.int (0 : Int32)), .val (.int z), .val (.ref b1), .unset, .unset] [(.int f.toInt32)])
    have ef : f.toInt32.toInt = f := n32 (by omega)
    have hL : ¬ Lat cs := fun q => by have := q _ (List.getElem_mem hf); omega
    refine s_istore W3 d12_12 (l' := #[.val (.ref b), .val (.int (0 : Int32)), .val (.int z), .val (.ref b1), .val (.int f.toInt32), .unset]) rfl (pc' := 14) rfl ?_
    refine s_iload W3 d12_14 rfl (pc' := 16) rfl ?_
    refine s_iloadN W3 d12_16 rfl (pc' := 17) rfl ?_
    refine s_icmpeq W3 d12_17 (by decide) (pc1 := 57) (by decide) (pc2 := 20) rfl (fun q => absurd q (fun q' => by have := congrArg Int32.toInt q'; omega)) ?_
    intro q17
    refine s_aloadN W3 d12_20 rfl rfl (pc' := 21) rfl ?_
    refine s_iloadN W3 d12_21 rfl (pc' := 22) rfl ?_
    refine s_iloadN W3 d12_22 rfl (pc' := 23) rfl ?_
    have fx4 := (fx2.keep K (ninS (ane (by omega)) nin0))
    refine gStaticS W3 (w_78 hw) (w_79 hw) (w_70 hw) (w_80 hw) (by decide) pd_4 (ct_tb3 hw hEL [] b kb z cs h3 hz hlen fx4 SAD SHI SLO) (by simp) d12_23 (pc' := 26) rfl rfl (argsL := [(.ref b), (.int (0 : Int32)), (.int z)]) rfl rfl (rest := []) rfl (wt := 0) (Nat.le_of_eq rfl) (by decide) (by decide) (by decide) (by decide) ?_
    rintro v5 T5 h5 Wf5 z5 ⟨d2, kd2, rfl, K2, g2, V2⟩
    have W5 := Wf5 [d2, b1] (fun x hx => (List.mem_cons.mp hx).elim (fun q => Or.inr (by rw [q])) Or.inl)
    have gd2 := natle g2
    show Go p e below _ T5 (mkF m 26 #[.val (.ref b), .val (.int (0 : Int32)), .val (.int z), .val (.ref b1), .val (.int f.toInt32), .unset] [(.ref d2)])
    refine s_astore W5 d12_26 rfl (l' := #[.val (.ref b), .val (.int (0 : Int32)), .val (.int z), .val (.ref b1), .val (.int f.toInt32), .val (.ref d2)]) rfl (pc' := 28) rfl ?_
    refine s_aload W5 d12_28 rfl rfl (pc' := 30) rfl ?_
    refine s_iload W5 d12_30 rfl (pc' := 32) rfl ?_
    refine gStatic W5 (w_94 hw) (w_95 hw) (w_70 hw) (w_96 hw) (by decide) pd_5 (ct_gch hw hEL [] d2 kd2 f.toInt32 (Int32.ofNat (2 * cs.length)) cs f hf h5 V2 (ofN (by omega)) ef hcs SAD SHI SLO) (by simp) d12_32 (pc' := 35) rfl rfl (argsL := [(.ref d2), (.int f.toInt32)]) rfl rfl (rest := []) rfl (wt := 0) (Nat.le_of_eq rfl) (by decide) (by decide) (by decide) (by decide) ?_
    rintro v6 T6 h6 W6 z6 ⟨rfl, rfl⟩
    show Go p e below _ T6 (mkF m 35 #[.val (.ref b), .val (.int (0 : Int32)), .val (.int z), .val (.ref b1), .val (.int f.toInt32), .val (.ref d2)] [(.int cs[f])])
    refine s_sipush W6 d12_35 (v := (255 : Int32)) (by decide) (pc' := 38) rfl ?_
    refine s_icmpgt W6 d12_38 (by decide) (pc1 := 54) (by decide) (pc2 := 41) rfl ?_ (fun q => absurd q (fun q' => q' (lt32 (by rw [show (255 : Int32).toInt = 255 from by decide]; omega))))
    intro q38
    refine s_aload W6 d12_54 rfl rfl (pc' := 56) rfl ?_
    exact gRetA W6 hret rfl rfl d12_56 (by decide) (by decide) ⟨d2, kd2, _, rfl, ((((Keep.refl h0 []).ext E1).trans K (allS (Or.inr (natle (by omega))) all0)).trans K2 all0), natle (by omega), by rw [show encB cs = _ from if_neg hL, U16B_len]; exact ofN (by omega), fun q => absurd q hL, by rw [show encB cs = _ from if_neg hL]; exact V2⟩
def Q_coder (Z : State) (n0 : Nat) (d : Addr) (kd : ClassId) (z zz : Int32) (vs : List Value) (h0 : Heap) (v : Option Value) (h : Heap) : Prop := v = some (.int (nar .byte (((z - zz).toUInt32 >>> ((31 : Int32) &&& 31).toUInt32).toInt32.toInt8.toInt32))) ∧ h0 = h
set_option maxRecDepth 65536 in
set_option maxHeartbeats 40000000 in
theorem ct_coder {l : Launch} {Z : State} {a0 : Array Value} (hw : ∀ d ∈ tables_1, d.before a0 Z = true) (hEL : EW Z a0 EL0) {n0 : Nat} (cds : List Jvm.Cond) (d : Addr) (kd : ClassId) (z zz : Int32) (vs : List Value) (h0 : Heap) (Vd : Arv Z h0 d kd .byte zz vs (.int 0)) :
    Ct l Z a0 EL0 n0 false true (⟨"java/lang/StringUTF16", "coderFromArrayLen", "([BI)B"⟩ : MethodName) jdk_52_method_15_code 2 (Option.some Jvm.ClassFile.FieldType.byte) cds ({ frames := 0, cells := 0, slots := 0, locals := 0 } : Room) [] #[(.ref d), (.int z)] h0 (Q_coder Z n0 d kd z zz vs h0) := by
  refine Ct.of (plainFor_of_name pn_0) hEL ?_
  intro p e s m below meth c T0 W0 hret hnm hs0
  refine Go.cast (ef_RI_2 m d z) ?_
  show Go p e below _ T0 (mkF m 0 #[.val (.ref d), .val (.int z)] [])
  refine s_iloadN W0 d14_0 rfl (pc' := 1) rfl ?_
  refine s_aloadN W0 d14_1 rfl rfl (pc' := 2) rfl ?_
  refine gLen W0 Vd d14_2 (pc' := 3) rfl ?_
  refine s_isub W0 d14_3 (pc' := 4) rfl ?_
  refine s_bipush W0 d14_4 (v := (31 : Int32)) (by decide) (pc' := 6) rfl ?_
  refine s_iushr W0 d14_6 (pc' := 7) rfl ?_
  refine s_i2b W0 d14_7 (pc' := 8) rfl ?_
  exact gRetN W0 hret (by simp) d14_8 (by decide) (by decide) ⟨rfl, rfl⟩
theorem wS {Z : State} {a0 : Array Value} (hw : ∀ d ∈ tables_1, d.before a0 Z = true) : ∀ a ∈ Bundle.stringAtoms, a.before a0 Z = true := (allC (P := fun a => a.before a0 Z = true) (w_3 hw) (allC (P := fun a => a.before a0 Z = true) (w_11 hw) (allC (P := fun a => a.before a0 Z = true) (w_15 hw) (allC (P := fun a => a.before a0 Z = true) (w_24 hw) (allC (P := fun a => a.before a0 Z = true) (w_26 hw) (allC (P := fun a => a.before a0 Z = true) (w_36 hw) (allC (P := fun a => a.before a0 Z = true) (w_37 hw) allC0)))))))
def Q_str4g (Z : State) (n0 : Nat) (a b : Addr) (kb : ClassId) (z ccs : Int32) (cs : List Int32) (h0 : Heap) (v : Option Value) (h : Heap) : Prop := v = none ∧ Keep h0 h [a] ∧ ∃ d kd zz, Str Z h a d kd (encC cs) zz ((encB cs).map Value.int) ∧ zz.toInt = (encB cs).length ∧ h0.size ≤ d
set_option maxRecDepth 65536 in
set_option maxHeartbeats 40000000 in
theorem ct_str4g {l : Launch} {Z : State} {a0 : Array Value} (hw : ∀ d ∈ tables_1, d.before a0 Z = true) (hEL : EW Z a0 EL0) {n0 : Nat} (cds : List Jvm.Cond) (a b : Addr) (kb : ClassId) (z ccs : Int32) (cs : List Int32) (h0 : Heap) (hz : z.toInt = cs.length) (hlen : cs.length ≤ 2) (hcs : ∀ c ∈ cs, 0 ≤ c.toInt ∧ c.toInt < 65536) (Vb : Arv Z h0 b kb .char z (cs.map Value.int) (.int 0)) (Ea : Exa Z h0 a "java/lang/String") (Fv : Fld Z h0 a "java/lang/String" "value" "[B" .null) (Fc : Fld Z h0 a "java/lang/String" "coder" "B" (.int 0)) (n0_a : n0 ≤ a) (SCS : Sta Z Z.heap "java/lang/String" "COMPACT_STRINGS" "Z" (.int ccs)) (hccs : ¬ ccs = 0) (hne0 : cs ≠ []) (SAD : Sta Z Z.heap "java/lang/StringUTF16" "$assertionsDisabled" "Z" (.int 1)) (SHI : Sta Z Z.heap "java/lang/StringUTF16" "HI_BYTE_SHIFT" "I" (.int 0)) (SLO : Sta Z Z.heap "java/lang/StringUTF16" "LO_BYTE_SHIFT" "I" (.int 8)) :
    Ct l Z a0 EL0 n0 false true (⟨"java/lang/String", "<init>", "([CIILjava/lang/Void;)V"⟩ : MethodName) jdk_42_method_149_code 6 (Option.none : Option Jvm.ClassFile.FieldType) cds ({ frames := 4, cells := 2, slots := 6, locals := 57 } : Room) [a] #[(.ref a), (.ref b), (.int (0 : Int32)), (.int z), .null] h0 (Q_str4g Z n0 a b kb z ccs cs h0) := by
  refine Ct.of (plainFor_of_name pn_1) hEL ?_
  intro p e s m below meth c T0 W0 hret hnm hs0
  refine Go.cast (ef_RRIIN_6 m a b (0 : Int32) z) ?_
  show Go p e below _ T0 (mkF m 0 #[.val (.ref a), .val (.ref b), .val (.int (0 : Int32)), .val (.int z), .val .null, .unset] [])
  have lt_a := natlt Ea.lt
  have lt_b := natlt Vb.lt
  have hz0 : ¬ z = 0 := fun q => hne0 (List.eq_nil_of_length_eq_zero (by rw [q, zero32] at hz; omega))
  refine s_aloadN W0 d11_0 rfl rfl (pc' := 1) rfl ?_
  refine gInitO W0 (w_20 hw) (w_21 hw) (w_22 hw) d11_1 (pc' := 4) rfl rfl (by decide) (wt := 0) (Nat.le_of_eq rfl) (by decide) ?_
  intro T1 W1
  refine s_iloadN W1 d11_4 rfl (pc' := 5) rfl ?_
  refine s_ifne W1 d11_5 (by decide) (pc1 := 27) (by decide) (pc2 := 8) rfl ?_ (fun q => absurd q hz0)
  intro q5
  refine gGetS W1 (host := "") (Or.inl (w_5 hw)) Via.refl (SCS.ext W1.old.2) d11_27 (pc' := 30) rfl ?_
  intro T2 W2
  refine s_ifeq W2 d11_30 (by decide) (pc1 := 58) (by decide) (pc2 := 33) rfl (fun q => absurd q hccs) ?_
  intro q30
  refine s_aloadN W2 d11_33 rfl rfl (pc' := 34) rfl ?_
  refine s_iloadN W2 d11_34 rfl (pc' := 35) rfl ?_
  refine s_iloadN W2 d11_35 rfl (pc' := 36) rfl ?_
  refine gStatic W2 (w_68 hw) (w_69 hw) (w_70 hw) (w_71 hw) (by decide) pd_4 (ct_cmp3g hw hEL [] b kb z cs h0 hz hlen hcs Vb SAD SHI SLO) (by simp) d11_36 (pc' := 39) rfl rfl (argsL := [(.ref b), (.int (0 : Int32)), (.int z)]) rfl rfl (rest := []) rfl (wt := 0) (Nat.le_of_eq rfl) (by decide) (by decide) (by decide) (by decide) ?_
  rintro v3 T3 h3 W3 z3 ⟨d, kd, zz, rfl, K3, g3, hzz, hLz, V3⟩
  have lt_d := natlt V3.lt
  have gd := natle g3
  show Go p e below _ T3 (mkF m 39 #[.val (.ref a), .val (.ref b), .val (.int (0 : Int32)), .val (.int z), .val .null, .unset] [(.ref d)])
  refine s_astore W3 d11_39 rfl (l' := #[.val (.ref a), .val (.ref b), .val (.int (0 : Int32)), .val (.int z), .val .null, .val (.ref d)]) rfl (pc' := 41) rfl ?_
  refine s_aloadN W3 d11_41 rfl rfl (pc' := 42) rfl ?_
  refine s_aload W3 d11_42 rfl rfl (pc' := 44) rfl ?_
  refine s_iloadN W3 d11_44 rfl (pc' := 45) rfl ?_
  refine gStatic W3 (w_75 hw) (w_76 hw) (w_70 hw) (w_77 hw) (by decide) pd_6 (ct_coder hw hEL [] d kd z zz _ h3 V3) (by simp) d11_45 (pc' := 48) rfl rfl (argsL := [(.ref d), (.int z)]) rfl rfl (rest := [(.ref a)]) rfl (wt := 1) (Nat.le_of_eq rfl) (by decide) (by decide) (by decide) (by decide) ?_
  rintro v4 T4 h4 W4 z4 ⟨rfl, rfl⟩
  rw [coder_enc hz hzz hLz hne0 (by omega)]
  show Go p e below _ T4 (mkF m 48 #[.val (.ref a), .val (.ref b), .val (.int (0 : Int32)), .val (.int z), .val .null, .val (.ref d)] [(.int (encC cs)), (.ref a)])
  have fx6 := (Fc.keep K3 nin0)
  have fx7 := (Ea.keep K3)
  refine gPutFN W4 n0_a (Or.inr (Or.inl rfl)) (w_25 hw) Via.refl fx6 fx7 (Or.inr ⟨(w_26 hw), rfl, hnm⟩) (w_11 hw) (ty := .byte) (v' := (.int (encC cs))) (by decide) (coder_nar (encC_01 cs)) (coder_fit (encC_01 cs)) d11_48 (pc' := 51) rfl ?_
  intro T5 h5 W5 Wr5
  have Fw5 := fx6.same Wr5
  have z5 : h3.size ≤ h5.size := Nat.le_of_eq Wr5.size.symm
  refine s_aloadN W5 d11_51 rfl rfl (pc' := 52) rfl ?_
  refine s_aload W5 d11_52 rfl rfl (pc' := 54) rfl ?_
  have fx9 := ((Fv.keep K3 nin0).other Wr5 (Or.inr (slot_ne (Or.inr (w_24 hw)) (Or.inr (w_26 hw)) (by decide) (t := (.array .byte)) (t' := .byte) (by decide) (by decide))))
  have fx10 := (fx7.wr Wr5)
  refine gPutF W5 n0_a (Or.inr (Or.inl rfl)) (host := "") (Or.inl (w_23 hw)) Via.refl fx9 fx10 (Or.inr ⟨(w_24 hw), rfl, hnm⟩) (w_11 hw) (ty := (.array .byte)) (by decide) rfl rfl d11_54 (pc' := 57) rfl ?_
  intro T8 h8 W8 Wr8
  have Fw8 := fx9.same Wr8
  have z8 : h5.size ≤ h8.size := Nat.le_of_eq Wr8.size.symm
  have fx11 := (fx10.wr Wr8)
  have fx12 := (Fw5.other Wr8 (Or.inr (slot_ne (Or.inr (w_26 hw)) (Or.inr (w_24 hw)) (by decide) (t := .byte) (t' := (.array .byte)) (by decide) (by decide))))
  have fx13 := ((V3.other Wr5 (ane (by omega))).other Wr8 (ane (by omega)))
  exact gRetV W8 hret d11_57 (by decide) (by decide) ⟨rfl, ((((Keep.refl h0 [a]).trans K3 all0).wr Wr5 (Or.inl (by simp))).wr Wr8 (Or.inl (by simp))), d, kd, zz, ⟨fx11, Fw8, fx12, fx13⟩, hzz, natle (by omega)⟩
def Q_str1g (Z : State) (n0 : Nat) (a b : Addr) (kb : ClassId) (z ccs : Int32) (cs : List Int32) (h0 : Heap) (v : Option Value) (h : Heap) : Prop := v = none ∧ Keep h0 h [a] ∧ ∃ d kd zz, Str Z h a d kd (encC cs) zz ((encB cs).map Value.int) ∧ zz.toInt = (encB cs).length ∧ h0.size ≤ d
set_option maxRecDepth 65536 in
set_option maxHeartbeats 40000000 in
theorem ct_str1g {l : Launch} {Z : State} {a0 : Array Value} (hw : ∀ d ∈ tables_1, d.before a0 Z = true) (hEL : EW Z a0 EL0) {n0 : Nat} (cds : List Jvm.Cond) (a b : Addr) (kb : ClassId) (z ccs : Int32) (cs : List Int32) (h0 : Heap) (hz : z.toInt = cs.length) (hlen : cs.length ≤ 2) (hcs : ∀ c ∈ cs, 0 ≤ c.toInt ∧ c.toInt < 65536) (Vb : Arv Z h0 b kb .char z (cs.map Value.int) (.int 0)) (Ea : Exa Z h0 a "java/lang/String") (Fv : Fld Z h0 a "java/lang/String" "value" "[B" .null) (Fc : Fld Z h0 a "java/lang/String" "coder" "B" (.int 0)) (n0_a : n0 ≤ a) (SCS : Sta Z Z.heap "java/lang/String" "COMPACT_STRINGS" "Z" (.int ccs)) (hccs : ¬ ccs = 0) (hne0 : cs ≠ []) (SAD : Sta Z Z.heap "java/lang/StringUTF16" "$assertionsDisabled" "Z" (.int 1)) (SHI : Sta Z Z.heap "java/lang/StringUTF16" "HI_BYTE_SHIFT" "I" (.int 0)) (SLO : Sta Z Z.heap "java/lang/StringUTF16" "LO_BYTE_SHIFT" "I" (.int 8)) :
    Ct l Z a0 EL0 n0 false true (⟨"java/lang/String", "<init>", "([C)V"⟩ : MethodName) jdk_42_method_3_code 2 (Option.none : Option Jvm.ClassFile.FieldType) cds ({ frames := 5, cells := 2, slots := 6, locals := 74 } : Room) [a] #[(.ref a), (.ref b)] h0 (Q_str1g Z n0 a b kb z ccs cs h0) := by
  refine Ct.of (plainFor_of_name pn_1) hEL ?_
  intro p e s m below meth c T0 W0 hret hnm hs0
  refine Go.cast (ef_RR_2 m a b) ?_
  show Go p e below _ T0 (mkF m 0 #[.val (.ref a), .val (.ref b)] [])
  refine s_aloadN W0 d10_0 rfl rfl (pc' := 1) rfl ?_
  refine s_aloadN W0 d10_1 rfl rfl (pc' := 2) rfl ?_
  refine s_iconst W0 d10_2 (v := (0 : Int32)) (by decide) (pc' := 3) rfl ?_
  refine s_aloadN W0 d10_3 rfl rfl (pc' := 4) rfl ?_
  refine gLen W0 Vb d10_4 (pc' := 5) rfl ?_
  refine s_aconst_null W0 d10_5 (pc' := 6) rfl ?_
  refine gSpecial W0 rfl (w_65 hw) (w_66 hw) (w_3 hw) (w_67 hw) (by decide) pd_7 (ct_str4g hw hEL [] a b kb z ccs cs h0 hz hlen hcs Vb Ea Fv Fc n0_a SCS hccs hne0 SAD SHI SLO) (fun x hx => hx) d10_6 (pc' := 9) rfl rfl (argsL := [(.ref b), (.int (0 : Int32)), (.int z), .null]) rfl rfl (rest := []) rfl (wt := 0) (Nat.le_of_eq rfl) (by decide) (by decide) (by decide) (by decide) ?_
  rintro v1 T1 h1 W1 z1 ⟨rfl, K, S⟩
  show Go p e below _ T1 (mkF m 9 #[.val (.ref a), .val (.ref b)] [])
  exact gRetV W1 hret d10_9 (by decide) (by decide) ⟨rfl, K, S⟩
def Q_cenc (Z : State) (n0 : Nat) (cc : Int32) (h0 : Heap) (v : Option Value) (h : Heap) : Prop := v = some (.int (if cc.toInt < 256 then 1 else 0)) ∧ h0 = h
set_option maxRecDepth 65536 in
set_option maxHeartbeats 40000000 in
theorem ct_cenc {l : Launch} {Z : State} {a0 : Array Value} (hw : ∀ d ∈ tables_1, d.before a0 Z = true) (hEL : EW Z a0 EL0) {n0 : Nat} (cds : List Jvm.Cond) (cc : Int32) (h0 : Heap)  :
    Ct l Z a0 EL0 n0 false true (⟨"java/lang/StringLatin1", "canEncode", "(C)Z"⟩ : MethodName) jdk_43_method_3_code 1 (Option.some Jvm.ClassFile.FieldType.boolean) cds ({ frames := 0, cells := 0, slots := 0, locals := 0 } : Room) [] #[(.int cc)] h0 (Q_cenc Z n0 cc h0) := by
  refine Ct.of (plainFor_of_name pn_2) hEL ?_
  intro p e s m below meth c T0 W0 hret hnm hs0
  refine Go.cast (ef_I_1 m cc) ?_
  show Go p e below _ T0 (mkF m 0 #[.val (.int cc)] [])
  refine s_iloadN W0 d2_0 rfl (pc' := 1) rfl ?_
  refine s_sipush W0 d2_1 (v := (255 : Int32)) (by decide) (pc' := 4) rfl ?_
  refine s_icmpgt W0 d2_4 (by decide) (pc1 := 11) (by decide) (pc2 := 7) rfl ?_ ?_
  · intro q4
    have qb : ¬ cc.toInt < 256 := by have := Int32.lt_iff_toInt_lt.mp q4; rw [show (255 : Int32).toInt = 255 from by decide] at this; omega
    refine s_iconst W0 d2_11 (v := (0 : Int32)) (by decide) (pc' := 12) rfl ?_
    exact gRetN W0 hret (by simp) d2_12 (by decide) (by decide) ⟨by rw [if_neg qb]; rfl, rfl⟩
  · intro q4
    have qb : cc.toInt < 256 := Classical.byContradiction fun r => q4 (lt32 (by rw [show (255 : Int32).toInt = 255 from by decide]; omega))
    refine s_iconst W0 d2_7 (v := (1 : Int32)) (by decide) (pc' := 8) rfl ?_
    refine s_goto W0 d2_8 (by decide) (pc' := 12) (by decide) ?_
    exact gRetN W0 hret (by simp) d2_12 (by decide) (by decide) ⟨by rw [if_pos qb]; rfl, rfl⟩
def Q_lbc (Z : State) (n0 : Nat) (cc : Int32) (h0 : Heap) (v : Option Value) (h : Heap) : Prop := ∃ d kd, v = some (.ref d) ∧ Keep h0 h [] ∧ h0.size ≤ d ∧ Arv Z h d kd .byte 1 [.int cc.toInt8.toInt32] (.int 0)
set_option maxRecDepth 65536 in
set_option maxHeartbeats 40000000 in
theorem ct_lbc {l : Launch} {Z : State} {a0 : Array Value} (hw : ∀ d ∈ tables_1, d.before a0 Z = true) (hEL : EW Z a0 EL0) {n0 : Nat} (cds : List Jvm.Cond) (cc : Int32) (h0 : Heap)  :
    Ct l Z a0 EL0 n0 false true (⟨"java/lang/StringLatin1", "toBytes", "(C)[B"⟩ : MethodName) jdk_43_method_46_code 1 (Option.some (Jvm.ClassFile.FieldType.array Jvm.ClassFile.FieldType.byte)) cds ({ frames := 0, cells := 1, slots := 1, locals := 0 } : Room) [] #[(.int cc)] h0 (Q_lbc Z n0 cc h0) := by
  refine Ct.of (plainFor_of_name pn_2) hEL ?_
  intro p e s m below meth c T0 W0 hret hnm hs0
  refine Go.cast (ef_I_1 m cc) ?_
  show Go p e below _ T0 (mkF m 0 #[.val (.int cc)] [])
  refine s_iconst W0 d3_0 (v := (1 : Int32)) (by decide) (pc' := 1) rfl ?_
  refine gNewP (aty := .byte) W0 (w_15 hw) (ad := "[B") (by decide +kernel) d3_1 (pc' := 3) rfl (by decide) (cap := 1) (by decide) (by decide) (by decide) (by decide) ?_
  intro T1 h1 b1 g1 W1 E1 ⟨k1, V1, A1⟩
  have z1 : h0.size ≤ h1.size := E1.1
  have lt_b1 := natlt A1.lt
  have gg1 := nateq g1
  have n0_b1 : n0 ≤ b1 := by have := W0.n0le; omega
  have Vp1 : Arv Z h1 b1 k1 .byte (1 : Int32) [(.int (0 : Int32))] (.int (0 : Int32)) := Arv.pad V1 (pad_rep [] (.int (0 : Int32)) 1)
  refine s_dup W1 d3_3 rfl (pc' := 4) rfl ?_
  refine s_iconst W1 d3_4 (v := (0 : Int32)) (by decide) (pc' := 5) rfl ?_
  refine s_iloadN W1 d3_5 rfl (pc' := 6) rfl ?_
  refine s_i2b W1 d3_6 (pc' := 7) rfl ?_
  refine gStB W1 n0_b1 (List.mem_of_getElem? (i := 0) rfl) Vp1 ⟨by decide, by decide⟩ (i := 0) (by decide) (show 0 < 1 by decide) d3_7 (pc' := 8) rfl ?_
  intro T2 h2 W2 K2 V2
  replace V2 : Arv Z h2 b1 k1 .byte (1 : Int32) [(.int cc.toInt8.toInt32.toInt8.toInt32)] (.int (0 : Int32)) := V2
  have z2 : h1.size ≤ h2.size := K2.1
  exact gRetA W2 hret rfl rfl d3_8 (by decide) (by decide) ⟨_, _, rfl, (((Keep.refl h0 []).ext E1).trans K2 (allS (Or.inr (natle (by omega))) all0)), natle (by omega), by rw [← bb8]; exact V2⟩
def Q_ubc (Z : State) (n0 : Nat) (cc : Int32) (h0 : Heap) (v : Option Value) (h : Heap) : Prop := ∃ d kd, v = some (.ref d) ∧ Keep h0 h [] ∧ h0.size ≤ d ∧ Arv Z h d kd .byte 2 [.int (b0 cc), .int (b1 cc)] (.int 0)
set_option maxRecDepth 65536 in
set_option maxHeartbeats 40000000 in
theorem ct_ubc {l : Launch} {Z : State} {a0 : Array Value} (hw : ∀ d ∈ tables_1, d.before a0 Z = true) (hEL : EW Z a0 EL0) {n0 : Nat} (cds : List Jvm.Cond) (cc : Int32) (h0 : Heap) (SAD : Sta Z Z.heap "java/lang/StringUTF16" "$assertionsDisabled" "Z" (.int 1)) (SHI : Sta Z Z.heap "java/lang/StringUTF16" "HI_BYTE_SHIFT" "I" (.int 0)) (SLO : Sta Z Z.heap "java/lang/StringUTF16" "LO_BYTE_SHIFT" "I" (.int 8)) :
    Ct l Z a0 EL0 n0 false true (⟨"java/lang/StringUTF16", "toBytes", "(C)[B"⟩ : MethodName) jdk_52_method_24_code 2 (Option.some (Jvm.ClassFile.FieldType.array Jvm.ClassFile.FieldType.byte)) cds ({ frames := 1, cells := 1, slots := 2, locals := 14 } : Room) [] #[(.int cc)] h0 (Q_ubc Z n0 cc h0) := by
  refine Ct.of (plainFor_of_name pn_0) hEL ?_
  intro p e s m below meth c T0 W0 hret hnm hs0
  refine Go.cast (ef_I_2 m cc) ?_
  show Go p e below _ T0 (mkF m 0 #[.val (.int cc), .unset] [])
  refine s_iconst W0 d20_0 (v := (2 : Int32)) (by decide) (pc' := 1) rfl ?_
  refine gNewP (aty := .byte) W0 (w_15 hw) (ad := "[B") (by decide +kernel) d20_1 (pc' := 3) rfl (by decide) (cap := 2) (by decide) (by decide) (by decide) (by decide) ?_
  intro T1 h1 b1 g1 W1 E1 ⟨k1, V1, A1⟩
  have z1 : h0.size ≤ h1.size := E1.1
  have lt_b1 := natlt A1.lt
  have gg1 := nateq g1
  have n0_b1 : n0 ≤ b1 := by have := W0.n0le; omega
  have Vp1 : Arv Z h1 b1 k1 .byte (2 : Int32) [(.int (0 : Int32)), (.int (0 : Int32))] (.int (0 : Int32)) := Arv.pad V1 (pad_rep [] (.int (0 : Int32)) 2)
  refine s_astoreN W1 d20_3 rfl (l' := #[.val (.int cc), .val (.ref b1)]) rfl (pc' := 4) rfl ?_
  refine s_aloadN W1 d20_4 rfl rfl (pc' := 5) rfl ?_
  refine s_iconst W1 d20_5 (v := (0 : Int32)) (by decide) (pc' := 6) rfl ?_
  refine s_iloadN W1 d20_6 rfl (pc' := 7) rfl ?_
  refine gStatic W1 (w_88 hw) (w_89 hw) (w_70 hw) (w_90 hw) (by decide) pd_2 (ct_pch hw hEL [] b1 k1 0 cc 2 0 [.int 0, .int 0] h1 Vp1 (by decide) (by decide) (by decide) n0_b1 SAD SHI SLO) (fun x hx => hx) d20_7 (pc' := 10) rfl rfl (argsL := [(.ref b1), (.int (0 : Int32)), (.int cc)]) rfl rfl (rest := []) rfl (wt := 0) (Nat.le_of_eq rfl) (by decide) (by decide) (by decide) (by decide) ?_
  rintro v2 T2 h2 W2 z2 ⟨rfl, Kp, Vp⟩
  show Go p e below _ T2 (mkF m 10 #[.val (.int cc), .val (.ref b1)] [])
  refine s_aloadN W2 d20_10 rfl rfl (pc' := 11) rfl ?_
  exact gRetA W2 hret rfl rfl d20_11 (by decide) (by decide) ⟨_, _, rfl, (((Keep.refl h0 []).ext E1).trans Kp (allS (Or.inr (natle (by omega))) all0)), natle (by omega), Vp⟩
def Q_ini3 (Z : State) (n0 : Nat) (a d : Addr) (kd : ClassId) (cd zz : Int32) (vs : List Value) (h0 : Heap) (v : Option Value) (h : Heap) : Prop := v = none ∧ Keep h0 h [a] ∧ Str Z h a d kd cd zz vs
set_option maxRecDepth 65536 in
set_option maxHeartbeats 40000000 in
theorem ct_ini3 {l : Launch} {Z : State} {a0 : Array Value} (hw : ∀ d ∈ tables_1, d.before a0 Z = true) (hEL : EW Z a0 EL0) {n0 : Nat} (cds : List Jvm.Cond) (a d : Addr) (kd : ClassId) (cd zz : Int32) (vs : List Value) (h0 : Heap) (Vd : Arv Z h0 d kd .byte zz vs (.int 0)) (hcd : cd = 0 ∨ cd = 1) (Ea : Exa Z h0 a "java/lang/String") (Fv : Fld Z h0 a "java/lang/String" "value" "[B" .null) (Fc : Fld Z h0 a "java/lang/String" "coder" "B" (.int 0)) (n0_a : n0 ≤ a) :
    Ct l Z a0 EL0 n0 false true (⟨"java/lang/String", "<init>", "([BB)V"⟩ : MethodName) jdk_42_method_151_code 3 (Option.none : Option Jvm.ClassFile.FieldType) cds ({ frames := 1, cells := 0, slots := 0, locals := 12 } : Room) [a] #[(.ref a), (.ref d), (.int cd)] h0 (Q_ini3 Z n0 a d kd cd zz vs h0) := by
  refine Ct.of (plainFor_of_name pn_1) hEL ?_
  intro p e s m below meth c T0 W0 hret hnm hs0
  refine Go.cast (ef_RRI_3 m a d cd) ?_
  show Go p e below _ T0 (mkF m 0 #[.val (.ref a), .val (.ref d), .val (.int cd)] [])
  have lt_a := natlt Ea.lt
  have ne_ad := Ea.neArv Vd (w_11 hw)
  refine s_aloadN W0 d4_0 rfl rfl (pc' := 1) rfl ?_
  refine gInitO W0 (w_20 hw) (w_21 hw) (w_22 hw) d4_1 (pc' := 4) rfl rfl (by decide) (wt := 0) (Nat.le_of_eq rfl) (by decide) ?_
  intro T1 W1
  refine s_aloadN W1 d4_4 rfl rfl (pc' := 5) rfl ?_
  refine s_aloadN W1 d4_5 rfl rfl (pc' := 6) rfl ?_
  refine gPutF W1 n0_a (Or.inr (Or.inl rfl)) (host := "") (Or.inl (w_23 hw)) Via.refl Fv Ea (Or.inr ⟨(w_24 hw), rfl, hnm⟩) (w_11 hw) (ty := (.array .byte)) (by decide) rfl rfl d4_6 (pc' := 9) rfl ?_
  intro T2 h2 W2 Wr2
  have Fw2 := Fv.same Wr2
  have z2 : h0.size ≤ h2.size := Nat.le_of_eq Wr2.size.symm
  refine s_aloadN W2 d4_9 rfl rfl (pc' := 10) rfl ?_
  refine s_iloadN W2 d4_10 rfl (pc' := 11) rfl ?_
  have fx4 := (Fc.other Wr2 (Or.inr (slot_ne (Or.inr (w_26 hw)) (Or.inr (w_24 hw)) (by decide) (t := .byte) (t' := (.array .byte)) (by decide) (by decide))))
  have fx5 := (Ea.wr Wr2)
  refine gPutFN W2 n0_a (Or.inr (Or.inl rfl)) (w_25 hw) Via.refl fx4 fx5 (Or.inr ⟨(w_26 hw), rfl, hnm⟩) (w_11 hw) (ty := .byte) (v' := (.int cd)) (by decide) (coder_nar hcd) (coder_fit hcd) d4_11 (pc' := 14) rfl ?_
  intro T3 h3 W3 Wr3
  have Fw3 := fx4.same Wr3
  have z3 : h2.size ≤ h3.size := Nat.le_of_eq Wr3.size.symm
  have fx6 := (fx5.wr Wr3)
  have fx7 := (Fw2.other Wr3 (Or.inr (slot_ne (Or.inr (w_24 hw)) (Or.inr (w_26 hw)) (by decide) (t := (.array .byte)) (t' := .byte) (by decide) (by decide))))
  have fx8 := ((Vd.other Wr2 (Ne.symm ne_ad)).other Wr3 (Ne.symm ne_ad))
  exact gRetV W3 hret d4_14 (by decide) (by decide) ⟨rfl, (((Keep.refl h0 [a]).wr Wr2 (Or.inl (by simp))).wr Wr3 (Or.inl (by simp))), fx6, fx7, Fw3, fx8⟩
def Q_vofc (Z : State) (n0 : Nat) (cc ccs : Int32) (h0 : Heap) (v : Option Value) (h : Heap) : Prop := ∃ a d kd zz, v = some (.ref a) ∧ Keep h0 h [] ∧ h0.size ≤ a ∧ Str Z h a d kd (encC [cc]) zz ((encB [cc]).map Value.int) ∧ zz.toInt = (encB [cc]).length ∧ h0.size ≤ d
set_option maxRecDepth 65536 in
set_option maxHeartbeats 40000000 in
theorem ct_vofc {l : Launch} {Z : State} {a0 : Array Value} (hw : ∀ d ∈ tables_1, d.before a0 Z = true) (hEL : EW Z a0 EL0) {n0 : Nat} (cds : List Jvm.Cond) (cc ccs : Int32) (h0 : Heap) (SCS : Sta Z Z.heap "java/lang/String" "COMPACT_STRINGS" "Z" (.int ccs)) (hccs : ¬ ccs = 0) (SAD : Sta Z Z.heap "java/lang/StringUTF16" "$assertionsDisabled" "Z" (.int 1)) (SHI : Sta Z Z.heap "java/lang/StringUTF16" "HI_BYTE_SHIFT" "I" (.int 0)) (SLO : Sta Z Z.heap "java/lang/StringUTF16" "LO_BYTE_SHIFT" "I" (.int 8)) :
    Ct l Z a0 EL0 n0 false true (⟨"java/lang/String", "valueOf", "(C)Ljava/lang/String;"⟩ : MethodName) jdk_42_method_139_code 1 (Option.some (Jvm.ClassFile.FieldType.object "java/lang/String")) cds ({ frames := 2, cells := 2, slots := 6, locals := 29 } : Room) [] #[(.int cc)] h0 (Q_vofc Z n0 cc ccs h0) := by
  refine Ct.of (plainFor_of_name pn_1) hEL ?_
  intro p e s m below meth c T0 W0 hret hnm hs0
  refine Go.cast (ef_I_1 m cc) ?_
  show Go p e below _ T0 (mkF m 0 #[.val (.int cc)] [])
  refine gGetS W0 (host := "") (Or.inl (w_5 hw)) Via.refl (SCS.ext W0.old.2) d1_0 (pc' := 3) rfl ?_
  intro T1 W1
  refine s_ifeq W1 d1_3 (by decide) (pc1 := 26) (by decide) (pc2 := 6) rfl (fun q => absurd q hccs) ?_
  intro q3
  refine s_iloadN W1 d1_6 rfl (pc' := 7) rfl ?_
  refine gStatic W1 (w_6 hw) (w_7 hw) (w_8 hw) (w_9 hw) (by decide) pd_8 (ct_cenc hw hEL [] cc h0) (by simp) d1_7 (pc' := 10) rfl rfl (argsL := [(.int cc)]) rfl rfl (rest := []) rfl (wt := 0) (Nat.le_of_eq rfl) (by decide) (by decide) (by decide) (by decide) ?_
  rintro v2 T2 h2 W2 z2 ⟨rfl, rfl⟩
  show Go p e below _ T2 (mkF m 10 #[.val (.int cc)] [(.int (if cc.toInt < 256 then 1 else 0))])
  refine s_ifeq W2 d1_10 (by decide) (pc1 := 26) (by decide) (pc2 := 13) rfl ?_ ?_
  · intro q10
    have hL : ¬ Lat [cc] := fun q => by rw [if_pos (q cc (by simp))] at q10; exact absurd q10 (by decide)
    refine gNew W2 (w_10 hw) (w_11 hw) (w_3 hw) d1_26 (pc' := 29) rfl (by decide) (by decide) ?_
    intro T3 h3 b3 g3 W3 E3 ⟨A3, D3, U3⟩
    have z3 : h0.size ≤ h3.size := E3.1
    have lt_b3 := natlt A3.lt
    have gg3 := nateq g3
    have n0_b3 : n0 ≤ b3 := by have := W2.n0le; omega
    have F3_value : Fld Z h3 b3 "java/lang/String" "value" "[B" .null := D3 (Or.inr (w_24 hw)) (ty := (.array .byte)) (by decide)
    have F3_coder : Fld Z h3 b3 "java/lang/String" "coder" "B" (.int (0 : Int32)) := D3 (Or.inr (w_26 hw)) (ty := .byte) (by decide)
    refine s_dup W3 d1_29 rfl (pc' := 30) rfl ?_
    refine s_iloadN W3 d1_30 rfl (pc' := 31) rfl ?_
    refine gStatic W3 (w_97 hw) (w_98 hw) (w_70 hw) (w_99 hw) (by decide) pd_9 (ct_ubc hw hEL [] cc h3 SAD SHI SLO) (by simp) d1_31 (pc' := 34) rfl rfl (argsL := [(.int cc)]) rfl rfl (rest := [(.ref b3), (.ref b3)]) rfl (wt := 2) (Nat.le_of_eq rfl) (by decide) (by decide) (by decide) (by decide) ?_
    rintro v4 T4 h4 W4 z4 ⟨d, kd, rfl, Kd, gd1, Vd⟩
    have gd := natle (Nat.le_trans (show h0.size ≤ h3.size by omega) gd1)
    have lt_d := natlt Vd.lt
    show Go p e below _ T4 (mkF m 34 #[.val (.int cc)] [(.ref d), (.ref b3), (.ref b3)])
    refine s_iconst W4 d1_34 (v := (1 : Int32)) (by decide) (pc' := 35) rfl ?_
    have fx5 := (A3.keep Kd)
    have fx6 := (F3_value.keep Kd nin0)
    have fx7 := (F3_coder.keep Kd nin0)
    refine gSpecial W4 rfl (w_16 hw) (w_17 hw) (w_3 hw) (w_19 hw) (by decide) pd_10 (ct_ini3 hw hEL [] b3 d kd 1 2 [.int (b0 cc), .int (b1 cc)] h4 Vd (by decide) fx5 fx6 fx7 n0_b3) (fun x hx => hx) d1_35 (pc' := 38) rfl rfl (argsL := [(.ref d), (.int (1 : Int32))]) rfl rfl (rest := [(.ref b3)]) rfl (wt := 1) (Nat.le_of_eq rfl) (by decide) (by decide) (by decide) (by decide) ?_
    rintro v8 T8 h8 W8 z8 ⟨rfl, Ki, Sx⟩
    show Go p e below _ T8 (mkF m 38 #[.val (.int cc)] [(.ref b3)])
    exact gRetA W8 hret rfl rfl d1_38 (by decide) (by decide) ⟨b3, d, kd, 2, rfl, ((((Keep.refl h0 []).ext E3).trans Kd all0).trans Ki (allS (Or.inr (natle (by omega))) all0)), natle (by omega), by rw [show encC [cc] = _ from if_neg hL, show encB [cc] = _ from if_neg hL]; exact Sx, by rw [show encB [cc] = _ from if_neg hL]; rfl, gd⟩
  · intro q10
    have hL : Lat [cc] := fun x hx => by rcases List.mem_singleton.mp hx with rfl; exact Classical.byContradiction fun r => by rw [if_neg r] at q10; exact q10 rfl
    refine gNew W2 (w_10 hw) (w_11 hw) (w_3 hw) d1_13 (pc' := 16) rfl (by decide) (by decide) ?_
    intro T9 h9 b9 g9 W9 E9 ⟨A9, D9, U9⟩
    have z9 : h0.size ≤ h9.size := E9.1
    have lt_b9 := natlt A9.lt
    have gg9 := nateq g9
    have n0_b9 : n0 ≤ b9 := by have := W2.n0le; omega
    have F9_value : Fld Z h9 b9 "java/lang/String" "value" "[B" .null := D9 (Or.inr (w_24 hw)) (ty := (.array .byte)) (by decide)
    have F9_coder : Fld Z h9 b9 "java/lang/String" "coder" "B" (.int (0 : Int32)) := D9 (Or.inr (w_26 hw)) (ty := .byte) (by decide)
    refine s_dup W9 d1_16 rfl (pc' := 17) rfl ?_
    refine s_iloadN W9 d1_17 rfl (pc' := 18) rfl ?_
    refine gStatic W9 (w_12 hw) (w_13 hw) (w_8 hw) (w_14 hw) (by decide) pd_9 (ct_lbc hw hEL [] cc h9) (by simp) d1_18 (pc' := 21) rfl rfl (argsL := [(.int cc)]) rfl rfl (rest := [(.ref b9), (.ref b9)]) rfl (wt := 2) (Nat.le_of_eq rfl) (by decide) (by decide) (by decide) (by decide) ?_
    rintro v10 T10 h10 W10 z10 ⟨d, kd, rfl, Kd, gd1, Vd⟩
    have gd := natle (Nat.le_trans (show h0.size ≤ h9.size by omega) gd1)
    have lt_d := natlt Vd.lt
    show Go p e below _ T10 (mkF m 21 #[.val (.int cc)] [(.ref d), (.ref b9), (.ref b9)])
    refine s_iconst W10 d1_21 (v := (0 : Int32)) (by decide) (pc' := 22) rfl ?_
    have fx11 := (A9.keep Kd)
    have fx12 := (F9_value.keep Kd nin0)
    have fx13 := (F9_coder.keep Kd nin0)
    refine gSpecial W10 rfl (w_16 hw) (w_17 hw) (w_3 hw) (w_19 hw) (by decide) pd_10 (ct_ini3 hw hEL [] b9 d kd 0 1 [.int cc.toInt8.toInt32] h10 Vd (by decide) fx11 fx12 fx13 n0_b9) (fun x hx => hx) d1_22 (pc' := 25) rfl rfl (argsL := [(.ref d), (.int (0 : Int32))]) rfl rfl (rest := [(.ref b9)]) rfl (wt := 1) (Nat.le_of_eq rfl) (by decide) (by decide) (by decide) (by decide) ?_
    rintro v14 T14 h14 W14 z14 ⟨rfl, Ki, Sx⟩
    show Go p e below _ T14 (mkF m 25 #[.val (.int cc)] [(.ref b9)])
    exact gRetA W14 hret rfl rfl d1_25 (by decide) (by decide) ⟨b9, d, kd, 1, rfl, ((((Keep.refl h0 []).ext E9).trans Kd all0).trans Ki (allS (Or.inr (natle (by omega))) all0)), natle (by omega), by rw [show encC [cc] = _ from if_pos hL, show encB [cc] = _ from if_pos hL]; exact Sx, by rw [show encB [cc] = _ from if_pos hL]; rfl, gd⟩
def Q_leq (Z : State) (n0 : Nat) (d1 d2 : Addr) (k1 k2 : ClassId) (z1 z2 : Int32) (xs1 xs2 : List Int32) (h0 : Heap) (v : Option Value) (h : Heap) : Prop := v = some (.int (if xs1 = xs2 then 1 else 0)) ∧ h0 = h
set_option maxRecDepth 65536 in
set_option maxHeartbeats 40000000 in
theorem ct_leq {l : Launch} {Z : State} {a0 : Array Value} (hw : ∀ d ∈ tables_1, d.before a0 Z = true) (hEL : EW Z a0 EL0) {n0 : Nat} (cds : List Jvm.Cond) (d1 d2 : Addr) (k1 k2 : ClassId) (z1 z2 : Int32) (xs1 xs2 : List Int32) (h0 : Heap) (l1 : z1.toInt = xs1.length) (l2 : z2.toInt = xs2.length) (V1 : Arv Z h0 d1 k1 .byte z1 (xs1.map Value.int) (.int 0)) (V2 : Arv Z h0 d2 k2 .byte z2 (xs2.map Value.int) (.int 0)) :
    Ct l Z a0 EL0 n0 false true (⟨"java/lang/StringLatin1", "equals", "([B[B)Z"⟩ : MethodName) jdk_43_method_13_code 3 (Option.some Jvm.ClassFile.FieldType.boolean) cds ({ frames := 0, cells := 0, slots := 0, locals := 0 } : Room) [] #[(.ref d1), (.ref d2)] h0 (Q_leq Z n0 d1 d2 k1 k2 z1 z2 xs1 xs2 h0) := by
  refine Ct.of (plainFor_of_name pn_2) hEL ?_
  intro p e s m below meth c T0 W0 hret hnm hs0
  refine Go.cast (ef_RR_3 m d1 d2) ?_
  show Go p e below _ T0 (mkF m 0 #[.val (.ref d1), .val (.ref d2), .unset] [])
  have b1 := z1.toInt_lt
  have b2 := z2.toInt_lt
  refine s_aloadN W0 d22_0 rfl rfl (pc' := 1) rfl ?_
  refine gLen W0 V1 d22_1 (pc' := 2) rfl ?_
  refine s_aloadN W0 d22_2 rfl rfl (pc' := 3) rfl ?_
  refine gLen W0 V2 d22_3 (pc' := 4) rfl ?_
  refine s_icmpne W0 d22_4 (by decide) (pc1 := 34) (by decide) (pc2 := 7) rfl ?_ ?_
  · intro q4
    refine s_iconst W0 d22_34 (v := (0 : Int32)) (by decide) (pc' := 35) rfl ?_
    exact gRetN W0 hret (by simp) d22_35 (by decide) (by decide) ⟨by rw [if_neg (fun e => q4 (eq32 (by rw [l1, l2, e])))]; rfl, rfl⟩
  · intro q4
    have hl : xs1.length = xs2.length := by have := congrArg Int32.toInt q4; omega
    refine s_iconst W0 d22_7 (v := (0 : Int32)) (by decide) (pc' := 8) rfl ?_
    refine s_istoreN W0 d22_8 (l' := #[.val (.ref d1), .val (.ref d2), .val (.int (0 : Int32))]) rfl (pc' := 9) rfl ?_
    suffices loop : ∀ (r j : Nat), j + r = xs1.length → ∀ (T : State) (W : Wk p l e _ s m _ below meth c Z a0 EL0 n0 false true _ _ _ [] T h0 0 0), xs1.take j = xs2.take j → Go p e below (Po s Z EL0 n0 true _ _ (Q_leq Z n0 d1 d2 k1 k2 z1 z2 xs1 xs2 h0)) T (mkF m 9 #[.val (.ref d1), .val (.ref d2), .val (.int j.toInt32)] []) from
      loop xs1.length 0 (Nat.zero_add _) T0 W0 rfl
    intro r
    induction r with
    | zero =>
      intro j hj T1 W1 ht
      have ej : j.toInt32.toInt = j := n32 (by omega)
      refine s_iloadN W1 d22_9 rfl (pc' := 10) rfl ?_
      refine s_aloadN W1 d22_10 rfl rfl (pc' := 11) rfl ?_
      refine gLen W1 V1 d22_11 (pc' := 12) rfl ?_
      refine s_icmpge W1 d22_12 (by decide) (pc1 := 32) (by decide) (pc2 := 15) rfl ?_ (fun q => absurd q (nlt32 (by omega)))
      intro q12
      refine s_iconst W1 d22_32 (v := (1 : Int32)) (by decide) (pc' := 33) rfl ?_
      exact gRetN W1 hret (by simp) d22_33 (by decide) (by decide) ⟨by rw [if_pos (by rw [List.take_of_length_le (by omega), List.take_of_length_le (by omega)] at ht; exact ht)]; rfl, rfl⟩
    | succ r ih =>
      intro j hj T1 W1 ht
      have ej : j.toInt32.toInt = j := n32 (by omega)
      have j1 : j < xs1.length := by omega
      have j2 : j < xs2.length := by omega
      refine s_iloadN W1 d22_9 rfl (pc' := 10) rfl ?_
      refine s_aloadN W1 d22_10 rfl rfl (pc' := 11) rfl ?_
      refine gLen W1 V1 d22_11 (pc' := 12) rfl ?_
      refine s_icmpge W1 d22_12 (by decide) (pc1 := 32) (by decide) (pc2 := 15) rfl (fun q => absurd q (fun q' => q' (lt32 (by omega)))) ?_
      intro q12
      refine s_aloadN W1 d22_15 rfl rfl (pc' := 16) rfl ?_
      refine s_iloadN W1 d22_16 rfl (pc' := 17) rfl ?_
      refine gLdB W1 V1 ⟨nlt32 (by rw [zero32]; omega), lt32 (by omega)⟩ (v := .int xs1[j]) (by rw [n32c (by omega)]; exact getD_map' _ _ _ j1) d22_17 (pc' := 18) rfl ?_
      refine s_aloadN W1 d22_18 rfl rfl (pc' := 19) rfl ?_
      refine s_iloadN W1 d22_19 rfl (pc' := 20) rfl ?_
      refine gLdB W1 V2 ⟨nlt32 (by rw [zero32]; omega), lt32 (by omega)⟩ (v := .int xs2[j]) (by rw [n32c (by omega)]; exact getD_map' _ _ _ j2) d22_20 (pc' := 21) rfl ?_
      refine s_icmpeq W1 d22_21 (by decide) (pc1 := 26) (by decide) (pc2 := 24) rfl ?_ ?_
      · intro q21
        refine s_iinc W1 d22_26 (v := (1 : Int32)) (by decide) rfl (l' := #[.val (.ref d1), .val (.ref d2), .val (.int (j.toInt32 + (1 : Int32)))]) rfl (pc' := 29) rfl ?_
        refine s_goto W1 d22_29 (by decide) (pc' := 9) (by decide) ?_
        rw [n32s]
        exact ih (j + 1) (by omega) T1 W1 (by rw [List.take_succ_eq_append_getElem j1, List.take_succ_eq_append_getElem j2, ht, q21])
      · intro q21
        refine s_iconst W1 d22_24 (v := (0 : Int32)) (by decide) (pc' := 25) rfl ?_
        exact gRetN W1 hret (by simp) d22_25 (by decide) (by decide) ⟨by rw [if_neg (fun e => q21 (by subst e; rfl))]; rfl, rfl⟩
def Q_seq (Z : State) (n0 : Nat) (a1 d1 a2 d2 : Addr) (k1 k2 : ClassId) (cd1 cd2 z1 z2 ccs : Int32) (xs1 xs2 : List Int32) (h0 : Heap) (v : Option Value) (h : Heap) : Prop := v = some (.int (if cd1 = cd2 ∧ xs1 = xs2 then 1 else 0)) ∧ h0 = h
set_option maxRecDepth 65536 in
set_option maxHeartbeats 40000000 in
theorem ct_seq {l : Launch} {Z : State} {a0 : Array Value} (hw : ∀ d ∈ tables_1, d.before a0 Z = true) (hEL : EW Z a0 EL0) {n0 : Nat} (cds : List Jvm.Cond) (a1 d1 a2 d2 : Addr) (k1 k2 : ClassId) (cd1 cd2 z1 z2 ccs : Int32) (xs1 xs2 : List Int32) (h0 : Heap) (l1 : z1.toInt = xs1.length) (l2 : z2.toInt = xs2.length) (S1 : Str Z h0 a1 d1 k1 cd1 z1 (xs1.map Value.int)) (S2 : Str Z h0 a2 d2 k2 cd2 z2 (xs2.map Value.int)) (SCS : Sta Z Z.heap "java/lang/String" "COMPACT_STRINGS" "Z" (.int ccs)) (hccs : ¬ ccs = 0) :
    Ct l Z a0 EL0 n0 false true (⟨"java/lang/String", "equals", "(Ljava/lang/Object;)Z"⟩ : MethodName) jdk_42_method_66_code 3 (Option.some Jvm.ClassFile.FieldType.boolean) cds ({ frames := 1, cells := 0, slots := 0, locals := 14 } : Room) [] #[(.ref a1), (.ref a2)] h0 (Q_seq Z n0 a1 d1 a2 d2 k1 k2 cd1 cd2 z1 z2 ccs xs1 xs2 h0) := by
  refine Ct.of (plainFor_of_name pn_1) hEL ?_
  intro p e s m below meth c T0 W0 hret hnm hs0
  refine Go.cast (ef_RR_3 m a1 a2) ?_
  show Go p e below _ T0 (mkF m 0 #[.val (.ref a1), .val (.ref a2), .unset] [])
  obtain ⟨E1, F1, C1, V1⟩ := id S1
  obtain ⟨E2, F2, C2, V2⟩ := id S2
  refine s_aloadN W0 d21_0 rfl rfl (pc' := 1) rfl ?_
  refine s_aloadN W0 d21_1 rfl rfl (pc' := 2) rfl ?_
  refine s_acmpne W0 d21_2 rfl rfl (by decide) (pc1 := 7) (by decide) (pc2 := 5) rfl ?_ ?_
  · intro q2
    refine s_aloadN W0 d21_7 rfl rfl (pc' := 8) rfl ?_
    refine gInsY W0 (w_10 hw) (Ins.self E2) d21_8 (pc' := 11) rfl ?_
    intro T1 W1
    refine s_ifeq W1 d21_11 (by decide) (pc1 := 54) (by decide) (pc2 := 14) rfl (fun q => absurd q (by decide)) ?_
    intro q11
    refine s_aloadN W1 d21_14 rfl rfl (pc' := 15) rfl ?_
    refine gCast W1 (w_10 hw) (Ins.self E2) d21_15 (pc' := 18) rfl ?_
    intro T2 W2
    refine s_astoreN W2 d21_18 rfl (l' := #[.val (.ref a1), .val (.ref a2), .val (.ref a2)]) rfl (pc' := 19) rfl ?_
    refine gGetS W2 (host := "") (Or.inl (w_5 hw)) Via.refl (SCS.ext W2.old.2) d21_19 (pc' := 22) rfl ?_
    intro T3 W3
    refine s_ifeq W3 d21_22 (by decide) (pc1 := 36) (by decide) (pc2 := 25) rfl (fun q => absurd q hccs) ?_
    intro q22
    refine s_aloadN W3 d21_25 rfl rfl (pc' := 26) rfl ?_
    refine gGetF W3 (host := "") (Or.inl (w_25 hw)) Via.refl C1 d21_26 (pc' := 29) rfl ?_
    intro T4 W4
    refine s_aloadN W4 d21_29 rfl rfl (pc' := 30) rfl ?_
    refine gGetF W4 (host := "") (Or.inl (w_25 hw)) Via.refl C2 d21_30 (pc' := 33) rfl ?_
    intro T5 W5
    refine s_icmpne W5 d21_33 (by decide) (pc1 := 54) (by decide) (pc2 := 36) rfl ?_ ?_
    · intro q33
      refine s_iconst W5 d21_54 (v := (0 : Int32)) (by decide) (pc' := 55) rfl ?_
      exact gRetN W5 hret (by simp) d21_55 (by decide) (by decide) ⟨by rw [if_neg (fun e => q33 e.1)]; rfl, rfl⟩
    · intro q33
      refine s_aloadN W5 d21_36 rfl rfl (pc' := 37) rfl ?_
      refine gGetF W5 (host := "") (Or.inl (w_23 hw)) Via.refl F1 d21_37 (pc' := 40) rfl ?_
      intro T6 W6
      refine s_aloadN W6 d21_40 rfl rfl (pc' := 41) rfl ?_
      refine gGetF W6 (host := "") (Or.inl (w_23 hw)) Via.refl F2 d21_41 (pc' := 44) rfl ?_
      intro T7 W7
      refine gStatic W7 (w_105 hw) (w_106 hw) (w_8 hw) (w_107 hw) (by decide) pd_11 (ct_leq hw hEL [] d1 d2 k1 k2 z1 z2 xs1 xs2 h0 l1 l2 V1 V2) (by simp) d21_44 (pc' := 47) rfl rfl (argsL := [(.ref d1), (.ref d2)]) rfl rfl (rest := []) rfl (wt := 0) (Nat.le_of_eq rfl) (by decide) (by decide) (by decide) (by decide) ?_
      rintro v8 T8 h8 W8 z8 ⟨rfl, rfl⟩
      show Go p e below _ T8 (mkF m 47 #[.val (.ref a1), .val (.ref a2), .val (.ref a2)] [(.int (if xs1 = xs2 then 1 else 0))])
      refine s_ifeq W8 d21_47 (by decide) (pc1 := 54) (by decide) (pc2 := 50) rfl ?_ ?_
      · intro q47
        have hx : ¬ xs1 = xs2 := fun e => by rw [if_pos e] at q47; exact absurd q47 (by decide)
        refine s_iconst W8 d21_54 (v := (0 : Int32)) (by decide) (pc' := 55) rfl ?_
        exact gRetN W8 hret (by simp) d21_55 (by decide) (by decide) ⟨by rw [if_neg (fun e => hx e.2)]; rfl, rfl⟩
      · intro q47
        have hx : xs1 = xs2 := Classical.byContradiction fun e => by rw [if_neg e] at q47; exact q47 rfl
        refine s_iconst W8 d21_50 (v := (1 : Int32)) (by decide) (pc' := 51) rfl ?_
        refine s_goto W8 d21_51 (by decide) (pc' := 55) (by decide) ?_
        exact gRetN W8 hret (by simp) d21_55 (by decide) (by decide) ⟨by rw [if_pos ⟨q33, hx⟩]; rfl, rfl⟩
  · intro q2
    obtain rfl := Value.ref.inj q2
    refine s_iconst W0 d21_5 (v := (1 : Int32)) (by decide) (pc' := 6) rfl ?_
    exact gRetN W0 hret (by simp) d21_6 (by decide) (by decide) ⟨by rw [if_pos (S1.uniq S2 l1 l2)]; rfl, rfl⟩
def Q_rnn (Z : State) (n0 : Nat) (a b : Addr) (h0 : Heap) (v : Option Value) (h : Heap) : Prop := v = some (.ref a) ∧ h0 = h
set_option maxRecDepth 65536 in
set_option maxHeartbeats 40000000 in
theorem ct_rnn {l : Launch} {Z : State} {a0 : Array Value} (hw : ∀ d ∈ tables_1, d.before a0 Z = true) (hEL : EW Z a0 EL0) {n0 : Nat} (cds : List Jvm.Cond) (a b : Addr) (h0 : Heap)  :
    Ct l Z a0 EL0 n0 false true (⟨"java/util/Objects", "requireNonNull", "(Ljava/lang/Object;Ljava/lang/String;)Ljava/lang/Object;"⟩ : MethodName) jdk_31_method_11_code 2 (Option.some (Jvm.ClassFile.FieldType.object "java/lang/Object")) cds ({ frames := 0, cells := 0, slots := 0, locals := 0 } : Room) [] #[(.ref a), (.ref b)] h0 (Q_rnn Z n0 a b h0) := by
  refine Ct.of (plainFor_of_name pn_3) hEL ?_
  intro p e s m below meth c T0 W0 hret hnm hs0
  refine Go.cast (ef_RR_2 m a b) ?_
  show Go p e below _ T0 (mkF m 0 #[.val (.ref a), .val (.ref b)] [])
  refine s_aloadN W0 d7_0 rfl rfl (pc' := 1) rfl ?_
  refine s_ifnonnull W0 d7_1 rfl (by decide) (pc1 := 13) (by decide) (pc2 := 4) rfl ?_ (fun q => absurd q (nofun : ¬ (Value.ref a = .null)))
  intro q1
  refine s_aloadN W0 d7_13 rfl rfl (pc' := 14) rfl ?_
  exact gRetA W0 hret rfl rfl d7_14 (by decide) (by decide) ⟨rfl, rfl⟩
def Q_isE (Z : State) (n0 : Nat) (a d : Addr) (kd : ClassId) (cd zz : Int32) (vs : List Value) (h0 : Heap) (v : Option Value) (h : Heap) : Prop := v = some (.int 0) ∧ h0 = h
set_option maxRecDepth 65536 in
set_option maxHeartbeats 40000000 in
theorem ct_isE {l : Launch} {Z : State} {a0 : Array Value} (hw : ∀ d ∈ tables_1, d.before a0 Z = true) (hEL : EW Z a0 EL0) {n0 : Nat} (cds : List Jvm.Cond) (a d : Addr) (kd : ClassId) (cd zz : Int32) (vs : List Value) (h0 : Heap) (Sa : Str Z h0 a d kd cd zz vs) (hzz : ¬ zz = 0) :
    Ct l Z a0 EL0 n0 false true (⟨"java/lang/String", "isEmpty", "()Z"⟩ : MethodName) jdk_42_method_55_code 1 (Option.some Jvm.ClassFile.FieldType.boolean) cds ({ frames := 0, cells := 0, slots := 0, locals := 0 } : Room) [] #[(.ref a)] h0 (Q_isE Z n0 a d kd cd zz vs h0) := by
  refine Ct.of (plainFor_of_name pn_1) hEL ?_
  intro p e s m below meth c T0 W0 hret hnm hs0
  refine Go.cast (ef_R_1 m a) ?_
  show Go p e below _ T0 (mkF m 0 #[.val (.ref a)] [])
  obtain ⟨Ea, Fv, Fc, Vd⟩ := Sa
  refine s_aloadN W0 d8_0 rfl rfl (pc' := 1) rfl ?_
  refine gGetF W0 (host := "") (Or.inl (w_23 hw)) Via.refl Fv d8_1 (pc' := 4) rfl ?_
  intro T1 W1
  refine gLen W1 Vd d8_4 (pc' := 5) rfl ?_
  refine s_ifne W1 d8_5 (by decide) (pc1 := 12) (by decide) (pc2 := 8) rfl ?_ (fun q => absurd q hzz)
  intro q5
  refine s_iconst W1 d8_12 (v := (0 : Int32)) (by decide) (pc' := 13) rfl ?_
  exact gRetN W1 hret (by simp) d8_13 (by decide) (by decide) ⟨rfl, rfl⟩
def Q_pinit (Z : State) (n0 : Nat) (a sx d : Addr) (kd : ClassId) (cd zz r : Int32) (vs : List Value) (h0 : Heap) (v : Option Value) (h : Heap) : Prop := v = none ∧ Keep h0 h [a] ∧ Exa Z h a "com/example/tame_chase/tamechase/Predicate" ∧ Fld Z h a "com/example/tame_chase/tamechase/Predicate" "name" "Ljava/lang/String;" (.ref sx) ∧ Fld Z h a "com/example/tame_chase/tamechase/Predicate" "arity" "I" (.int r)
set_option maxRecDepth 65536 in
set_option maxHeartbeats 40000000 in
theorem ct_pinit {l : Launch} {Z : State} {a0 : Array Value} (hw : ∀ d ∈ tables_1, d.before a0 Z = true) (hEL : EW Z a0 EL0) {n0 : Nat} (cds : List Jvm.Cond) (a sx d : Addr) (kd : ClassId) (cd zz r : Int32) (vs : List Value) (h0 : Heap) (Sx : Str Z h0 sx d kd cd zz vs) (hzz : ¬ zz = 0) (hr : 0 ≤ r.toInt) (Ea : Exa Z h0 a "com/example/tame_chase/tamechase/Predicate") (Fname : Fld Z h0 a "com/example/tame_chase/tamechase/Predicate" "name" "Ljava/lang/String;" .null) (Farity : Fld Z h0 a "com/example/tame_chase/tamechase/Predicate" "arity" "I" (.int 0)) (n0_a : n0 ≤ a) :
    Ct l Z a0 EL0 n0 false true (⟨"com/example/tame_chase/tamechase/Predicate", "<init>", "(Ljava/lang/String;I)V"⟩ : MethodName) prog_52_method_1_code 3 (Option.none : Option Jvm.ClassFile.FieldType) cds ({ frames := 1, cells := 2, slots := 20, locals := 13 } : Room) [a] #[(.ref a), (.ref sx), (.int r)] h0 (Q_pinit Z n0 a sx d kd cd zz r vs h0) := by
  refine Ct.of (plainFor_of_name pn_4) hEL ?_
  intro p e s m below meth c T0 W0 hret hnm hs0
  refine Go.cast (ef_RRI_3 m a sx r) ?_
  show Go p e below _ T0 (mkF m 0 #[.val (.ref a), .val (.ref sx), .val (.int r)] [])
  have lt_a := natlt Ea.lt
  have ne_as := ne_exa Ea Sx.1 (by decide)
  have ne_ad := Ea.neArv Sx.2.2.2 (w_29 hw)
  refine s_aloadN W0 d6_0 rfl rfl (pc' := 1) rfl ?_
  refine gInitO W0 (w_34 hw) (w_21 hw) (w_22 hw) d6_1 (pc' := 4) rfl rfl (by decide) (wt := 0) (Nat.le_of_eq rfl) (by decide) ?_
  intro T1 W1
  refine s_aloadN W1 d6_4 rfl rfl (pc' := 5) rfl ?_
  refine gLdcO W1 (w_35 hw) (wS hw) d6_5 (pc' := 7) rfl (nn := 16) (by decide) (by decide) (by decide) (by decide) ?_
  intro T2 h2 s2 W2 E2
  have z2 : h0.size ≤ h2.size := E2.1
  refine gStatic W2 (w_38 hw) (w_39 hw) (w_40 hw) (w_41 hw) (by decide) pd_12 (ct_rnn hw hEL [] sx s2 h2) (by simp) d6_7 (pc' := 10) rfl rfl (argsL := [(.ref sx), (.ref s2)]) rfl rfl (rest := []) rfl (wt := 0) (Nat.le_of_eq rfl) (by decide) (by decide) (by decide) (by decide) ?_
  rintro v3 T3 h3 W3 z3 ⟨rfl, rfl⟩
  show Go p e below _ T3 (mkF m 10 #[.val (.ref a), .val (.ref sx), .val (.int r)] [(.ref sx)])
  have fx4 := (Sx.ext E2)
  refine gCast W3 (w_42 hw) (Ins.self fx4.1) d6_10 (pc' := 13) rfl ?_
  intro T5 W5
  refine gVirtual W5 fx4.1 (w_43 hw) (w_44 hw) (fun s hZ => notFace_of_selects (args := #[]) (mv hZ (w_46 hw))) (w_46 hw) (w_45 hw) (w_3 hw) (w_47 hw) (by decide) pd_13 (ct_isE hw hEL [] sx d kd cd zz vs h2 fx4 hzz) (by simp) d6_13 (pc' := 16) rfl rfl (argsL := []) rfl rfl (rest := []) rfl (wt := 0) (Nat.le_of_eq rfl) (by decide) (by decide) (by decide) (by decide) ?_
  rintro v6 T6 h6 W6 z6 ⟨rfl, rfl⟩
  show Go p e below _ T6 (mkF m 16 #[.val (.ref a), .val (.ref sx), .val (.int r)] [(.int (0 : Int32))])
  refine s_ifeq W6 d6_16 (by decide) (pc1 := 29) (by decide) (pc2 := 19) rfl ?_ (fun q => absurd q (by decide))
  intro q16
  refine s_iloadN W6 d6_29 rfl (pc' := 30) rfl ?_
  refine s_ifge W6 d6_30 (by decide) (pc1 := 47) (by decide) (pc2 := 33) rfl ?_ (fun q => absurd q (nlt32 (by rw [zero32]; omega)))
  intro q30
  refine s_aloadN W6 d6_47 rfl rfl (pc' := 48) rfl ?_
  refine s_aloadN W6 d6_48 rfl rfl (pc' := 49) rfl ?_
  have fx8 := (Fname.ext E2)
  have fx9 := (Ea.ext E2)
  refine gPutF W6 n0_a (Or.inr (Or.inl rfl)) (host := "") (Or.inl (w_48 hw)) Via.refl fx8 fx9 (Or.inr ⟨(w_49 hw), rfl, hnm⟩) (w_29 hw) (ty := (.object "java/lang/String")) (by decide) rfl rfl d6_49 (pc' := 52) rfl ?_
  intro T7 h7 W7 Wr7
  have Fw7 := fx8.same Wr7
  have z7 : h2.size ≤ h7.size := Nat.le_of_eq Wr7.size.symm
  refine s_aloadN W7 d6_52 rfl rfl (pc' := 53) rfl ?_
  refine s_iloadN W7 d6_53 rfl (pc' := 54) rfl ?_
  have fx11 := ((Farity.ext E2).other Wr7 (Or.inr (slot_ne (Or.inr (w_51 hw)) (Or.inr (w_49 hw)) (by decide) (t := .int) (t' := (.object "java/lang/String")) (by decide) (by decide))))
  have fx12 := (fx9.wr Wr7)
  refine gPutF W7 n0_a (Or.inr (Or.inl rfl)) (host := "") (Or.inl (w_50 hw)) Via.refl fx11 fx12 (Or.inr ⟨(w_51 hw), rfl, hnm⟩) (w_29 hw) (ty := .int) (by decide) rfl rfl d6_54 (pc' := 57) rfl ?_
  intro T10 h10 W10 Wr10
  have Fw10 := fx11.same Wr10
  have z10 : h7.size ≤ h10.size := Nat.le_of_eq Wr10.size.symm
  have fx13 := (fx12.wr Wr10)
  have fx14 := (Fw7.other Wr10 (Or.inr (slot_ne (Or.inr (w_49 hw)) (Or.inr (w_51 hw)) (by decide) (t := (.object "java/lang/String")) (t' := .int) (by decide) (by decide))))
  exact gRetV W10 hret d6_57 (by decide) (by decide) ⟨rfl, ((((Keep.refl h0 [a]).ext E2).wr Wr7 (Or.inl (by simp))).wr Wr10 (Or.inl (by simp))), fx13, fx14, Fw10⟩
def Q_peqI (Z : State) (n0 : Nat) (a : Addr) (h0 : Heap) (v : Option Value) (h : Heap) : Prop := v = some (.int 1) ∧ h0 = h
set_option maxRecDepth 65536 in
set_option maxHeartbeats 40000000 in
theorem ct_peqI {l : Launch} {Z : State} {a0 : Array Value} (hw : ∀ d ∈ tables_1, d.before a0 Z = true) (hEL : EW Z a0 EL0) {n0 : Nat} (cds : List Jvm.Cond) (a : Addr) (h0 : Heap)  :
    Ct l Z a0 EL0 n0 false true (⟨"com/example/tame_chase/tamechase/Predicate", "equals", "(Ljava/lang/Object;)Z"⟩ : MethodName) prog_52_method_4_code 3 (Option.some Jvm.ClassFile.FieldType.boolean) cds ({ frames := 0, cells := 0, slots := 0, locals := 0 } : Room) [] #[(.ref a), (.ref a)] h0 (Q_peqI Z n0 a h0) := by
  refine Ct.of (plainFor_of_name pn_4) hEL ?_
  intro p e s m below meth c T0 W0 hret hnm hs0
  refine Go.cast (ef_RR_3 m a a) ?_
  show Go p e below _ T0 (mkF m 0 #[.val (.ref a), .val (.ref a), .unset] [])
  refine s_aloadN W0 d9_0 rfl rfl (pc' := 1) rfl ?_
  refine s_aloadN W0 d9_1 rfl rfl (pc' := 2) rfl ?_
  refine s_acmpne W0 d9_2 rfl rfl (by decide) (pc1 := 7) (by decide) (pc2 := 5) rfl (fun q => (q rfl).elim) ?_
  intro q2
  refine s_iconst W0 d9_5 (v := (1 : Int32)) (by decide) (pc' := 6) rfl ?_
  exact gRetN W0 hret (by simp) d9_6 (by decide) (by decide) ⟨rfl, rfl⟩
def Q_peqN (Z : State) (n0 : Nat) (a : Addr) (h0 : Heap) (v : Option Value) (h : Heap) : Prop := v = some (.int 0) ∧ h0 = h
set_option maxRecDepth 65536 in
set_option maxHeartbeats 40000000 in
theorem ct_peqN {l : Launch} {Z : State} {a0 : Array Value} (hw : ∀ d ∈ tables_1, d.before a0 Z = true) (hEL : EW Z a0 EL0) {n0 : Nat} (cds : List Jvm.Cond) (a : Addr) (h0 : Heap)  :
    Ct l Z a0 EL0 n0 false true (⟨"com/example/tame_chase/tamechase/Predicate", "equals", "(Ljava/lang/Object;)Z"⟩ : MethodName) prog_52_method_4_code 3 (Option.some Jvm.ClassFile.FieldType.boolean) cds ({ frames := 0, cells := 0, slots := 0, locals := 0 } : Room) [] #[(.ref a), .null] h0 (Q_peqN Z n0 a h0) := by
  refine Ct.of (plainFor_of_name pn_4) hEL ?_
  intro p e s m below meth c T0 W0 hret hnm hs0
  refine Go.cast (ef_RN_3 m a) ?_
  show Go p e below _ T0 (mkF m 0 #[.val (.ref a), .val .null, .unset] [])
  refine s_aloadN W0 d9_0 rfl rfl (pc' := 1) rfl ?_
  refine s_aloadN W0 d9_1 rfl rfl (pc' := 2) rfl ?_
  refine s_acmpne W0 d9_2 rfl rfl (by decide) (pc1 := 7) (by decide) (pc2 := 5) rfl ?_ (fun q => absurd q (nofun : ¬ (Value.ref a = .null)))
  intro q2
  refine s_aloadN W0 d9_7 rfl rfl (pc' := 8) rfl ?_
  refine s_instNull W0 d9_8 (pc' := 11) rfl ?_
  refine s_ifne W0 d9_11 (by decide) (pc1 := 16) (by decide) (pc2 := 14) rfl (fun q => absurd q (by decide)) ?_
  intro q11
  refine s_iconst W0 d9_14 (v := (0 : Int32)) (by decide) (pc' := 15) rfl ?_
  exact gRetN W0 hret (by simp) d9_15 (by decide) (by decide) ⟨rfl, rfl⟩
def Q_peqS (Z : State) (n0 : Nat) (a b : Addr) (h0 : Heap) (v : Option Value) (h : Heap) : Prop := v = some (.int 0) ∧ h0 = h
set_option maxRecDepth 65536 in
set_option maxHeartbeats 40000000 in
theorem ct_peqS {l : Launch} {Z : State} {a0 : Array Value} (hw : ∀ d ∈ tables_1, d.before a0 Z = true) (hEL : EW Z a0 EL0) {n0 : Nat} (cds : List Jvm.Cond) (a b : Addr) (h0 : Heap) (Eb : Exa Z h0 b "java/lang/String") (hne : a ≠ b) :
    Ct l Z a0 EL0 n0 false true (⟨"com/example/tame_chase/tamechase/Predicate", "equals", "(Ljava/lang/Object;)Z"⟩ : MethodName) prog_52_method_4_code 3 (Option.some Jvm.ClassFile.FieldType.boolean) cds ({ frames := 0, cells := 0, slots := 0, locals := 0 } : Room) [] #[(.ref a), (.ref b)] h0 (Q_peqS Z n0 a b h0) := by
  refine Ct.of (plainFor_of_name pn_4) hEL ?_
  intro p e s m below meth c T0 W0 hret hnm hs0
  refine Go.cast (ef_RR_3 m a b) ?_
  show Go p e below _ T0 (mkF m 0 #[.val (.ref a), .val (.ref b), .unset] [])
  refine s_aloadN W0 d9_0 rfl rfl (pc' := 1) rfl ?_
  refine s_aloadN W0 d9_1 rfl rfl (pc' := 2) rfl ?_
  refine s_acmpne W0 d9_2 rfl rfl (by decide) (pc1 := 7) (by decide) (pc2 := 5) rfl ?_ (fun q => absurd q (fun q' => hne (Value.ref.inj q')))
  intro q2
  refine s_aloadN W0 d9_7 rfl rfl (pc' := 8) rfl ?_
  refine gInsN W0 (w_57 hw) Eb (noSub (w_59 hw) (w_60 hw) (w_29 hw) (by decide) (by decide)) d9_8 (pc' := 11) rfl ?_
  intro T1 W1
  refine s_ifne W1 d9_11 (by decide) (pc1 := 16) (by decide) (pc2 := 14) rfl (fun q => absurd q (by decide)) ?_
  intro q11
  refine s_iconst W1 d9_14 (v := (0 : Int32)) (by decide) (pc' := 15) rfl ?_
  exact gRetN W1 hret (by simp) d9_15 (by decide) (by decide) ⟨rfl, rfl⟩
def Q_peqX (Z : State) (n0 : Nat) (a b sa sb da db : Addr) (ka kb : ClassId) (za zb ra rb ccs : Int32) (ca cb : List Int32) (h0 : Heap) (v : Option Value) (h : Heap) : Prop := v = some (.int (if ra = rb ∧ ca = cb then 1 else 0)) ∧ h0 = h
set_option maxRecDepth 65536 in
set_option maxHeartbeats 40000000 in
theorem ct_peqX {l : Launch} {Z : State} {a0 : Array Value} (hw : ∀ d ∈ tables_1, d.before a0 Z = true) (hEL : EW Z a0 EL0) {n0 : Nat} (cds : List Jvm.Cond) (a b sa sb da db : Addr) (ka kb : ClassId) (za zb ra rb ccs : Int32) (ca cb : List Int32) (h0 : Heap) (hne : a ≠ b) (Eb : Exa Z h0 b "com/example/tame_chase/tamechase/Predicate") (Fan : Fld Z h0 a "com/example/tame_chase/tamechase/Predicate" "name" "Ljava/lang/String;" (.ref sa)) (Faa : Fld Z h0 a "com/example/tame_chase/tamechase/Predicate" "arity" "I" (.int ra)) (la : za.toInt = (encB ca).length) (Sa : Str Z h0 sa da ka (encC ca) za ((encB ca).map Value.int)) (wa : ∀ c ∈ ca, 0 ≤ c.toInt ∧ c.toInt < 65536) (Fbn : Fld Z h0 b "com/example/tame_chase/tamechase/Predicate" "name" "Ljava/lang/String;" (.ref sb)) (Fba : Fld Z h0 b "com/example/tame_chase/tamechase/Predicate" "arity" "I" (.int rb)) (lb : zb.toInt = (encB cb).length) (Sb : Str Z h0 sb db kb (encC cb) zb ((encB cb).map Value.int)) (wb : ∀ c ∈ cb, 0 ≤ c.toInt ∧ c.toInt < 65536) (SCS : Sta Z Z.heap "java/lang/String" "COMPACT_STRINGS" "Z" (.int ccs)) (hccs : ¬ ccs = 0) :
    Ct l Z a0 EL0 n0 false true (⟨"com/example/tame_chase/tamechase/Predicate", "equals", "(Ljava/lang/Object;)Z"⟩ : MethodName) prog_52_method_4_code 3 (Option.some Jvm.ClassFile.FieldType.boolean) cds ({ frames := 2, cells := 0, slots := 0, locals := 28 } : Room) [] #[(.ref a), (.ref b)] h0 (Q_peqX Z n0 a b sa sb da db ka kb za zb ra rb ccs ca cb h0) := by
  refine Ct.of (plainFor_of_name pn_4) hEL ?_
  intro p e s m below meth c T0 W0 hret hnm hs0
  refine Go.cast (ef_RR_3 m a b) ?_
  show Go p e below _ T0 (mkF m 0 #[.val (.ref a), .val (.ref b), .unset] [])
  refine s_aloadN W0 d9_0 rfl rfl (pc' := 1) rfl ?_
  refine s_aloadN W0 d9_1 rfl rfl (pc' := 2) rfl ?_
  refine s_acmpne W0 d9_2 rfl rfl (by decide) (pc1 := 7) (by decide) (pc2 := 5) rfl ?_ (fun q => absurd q (fun q' => hne (Value.ref.inj q')))
  intro q2
  refine s_aloadN W0 d9_7 rfl rfl (pc' := 8) rfl ?_
  refine gInsY W0 (w_57 hw) (Ins.self Eb) d9_8 (pc' := 11) rfl ?_
  intro T1 W1
  refine s_ifne W1 d9_11 (by decide) (pc1 := 16) (by decide) (pc2 := 14) rfl ?_ (fun q => absurd q (by decide))
  intro q11
  refine s_aloadN W1 d9_16 rfl rfl (pc' := 17) rfl ?_
  refine gCast W1 (w_57 hw) (Ins.self Eb) d9_17 (pc' := 20) rfl ?_
  intro T2 W2
  refine s_astoreN W2 d9_20 rfl (l' := #[.val (.ref a), .val (.ref b), .val (.ref b)]) rfl (pc' := 21) rfl ?_
  refine s_aloadN W2 d9_21 rfl rfl (pc' := 22) rfl ?_
  refine gGetF W2 (host := "") (Or.inl (w_50 hw)) Via.refl Faa d9_22 (pc' := 25) rfl ?_
  intro T3 W3
  refine s_aloadN W3 d9_25 rfl rfl (pc' := 26) rfl ?_
  refine gGetF W3 (host := "") (Or.inl (w_50 hw)) Via.refl Fba d9_26 (pc' := 29) rfl ?_
  intro T4 W4
  refine s_icmpne W4 d9_29 (by decide) (pc1 := 50) (by decide) (pc2 := 32) rfl ?_ ?_
  · intro q29
    refine s_iconst W4 d9_50 (v := (0 : Int32)) (by decide) (pc' := 51) rfl ?_
    exact gRetN W4 hret (by simp) d9_51 (by decide) (by decide) ⟨by rw [if_neg (fun e => q29 e.1)]; rfl, rfl⟩
  · intro q29
    refine s_aloadN W4 d9_32 rfl rfl (pc' := 33) rfl ?_
    refine gGetF W4 (host := "") (Or.inl (w_48 hw)) Via.refl Fan d9_33 (pc' := 36) rfl ?_
    intro T5 W5
    refine s_aloadN W5 d9_36 rfl rfl (pc' := 37) rfl ?_
    refine gGetF W5 (host := "") (Or.inl (w_48 hw)) Via.refl Fbn d9_37 (pc' := 40) rfl ?_
    intro T6 W6
    refine gVirtual W6 Sa.1 (w_100 hw) (w_101 hw) (fun s hZ => notFace_of_selects (args := #[]) (mv hZ (w_103 hw))) (w_103 hw) (w_102 hw) (w_3 hw) (w_104 hw) (by decide) pd_14 (ct_seq hw hEL [] sa da sb db ka kb (encC ca) (encC cb) za zb ccs (encB ca) (encB cb) h0 la lb Sa Sb SCS hccs) (by simp) d9_40 (pc' := 43) rfl rfl (argsL := [(.ref sb)]) rfl rfl (rest := []) rfl (wt := 0) (Nat.le_of_eq rfl) (by decide) (by decide) (by decide) (by decide) ?_
    rintro v7 T7 h7 W7 z7 ⟨rfl, rfl⟩
    rw [show (if encC ca = encC cb ∧ encB ca = encB cb then (1 : Int32) else 0) = (if ca = cb then 1 else 0) from by simp only [enc_iff wa wb]]
    show Go p e below _ T7 (mkF m 43 #[.val (.ref a), .val (.ref b), .val (.ref b)] [(.int (if ca = cb then 1 else 0))])
    refine s_ifeq W7 d9_43 (by decide) (pc1 := 50) (by decide) (pc2 := 46) rfl ?_ ?_
    · intro q43
      have hx : ¬ ca = cb := fun e => by rw [if_pos e] at q43; exact absurd q43 (by decide)
      refine s_iconst W7 d9_50 (v := (0 : Int32)) (by decide) (pc' := 51) rfl ?_
      exact gRetN W7 hret (by simp) d9_51 (by decide) (by decide) ⟨by rw [if_neg (fun e => hx e.2)]; rfl, rfl⟩
    · intro q43
      have hx : ca = cb := Classical.byContradiction fun e => by rw [if_neg e] at q43; exact q43 rfl
      refine s_iconst W7 d9_46 (v := (1 : Int32)) (by decide) (pc' := 47) rfl ?_
      refine s_goto W7 d9_47 (by decide) (pc' := 51) (by decide) ?_
      exact gRetN W7 hret (by simp) d9_51 (by decide) (by decide) ⟨by rw [if_pos ⟨q29, hx⟩]; rfl, rfl⟩
def Q_law (Z : State) (n0 : Nat) (pa pb px pd pe ccs : Int32) (h0 : Heap) (v : Option Value) (h : Heap) : Prop := v = some (.int 1)
set_option maxRecDepth 65536 in
set_option maxHeartbeats 40000000 in
theorem ct_law {l : Launch} {Z : State} {a0 : Array Value} (hw : ∀ d ∈ tables_1, d.before a0 Z = true) (hEL : EW Z a0 EL0) {n0 : Nat} (cds : List Jvm.Cond) (pa pb px pd pe ccs : Int32) (h0 : Heap) (SCS : Sta Z Z.heap "java/lang/String" "COMPACT_STRINGS" "Z" (.int ccs)) (hccs : ¬ ccs = 0) (SAD : Sta Z Z.heap "java/lang/StringUTF16" "$assertionsDisabled" "Z" (.int 1)) (SHI : Sta Z Z.heap "java/lang/StringUTF16" "HI_BYTE_SHIFT" "I" (.int 0)) (SLO : Sta Z Z.heap "java/lang/StringUTF16" "LO_BYTE_SHIFT" "I" (.int 8)) :
    Ct l Z a0 EL0 n0 false true x code maxLocals ret cds room_1 [] #[(.int pa), (.int pb), (.int px), (.int pd), (.int pe)] h0 (Q_law Z n0 pa pb px pd pe ccs h0) := by
  refine Ct.of (plainFor_of_name pn_5) hEL ?_
  intro p e s m below meth c T0 W0 hret hnm hs0
  refine Go.cast (ef_IIIII_20 m pa pb px pd pe) ?_
  show Go p e below _ T0 (mkF m 0 #[.val (.int pa), .val (.int pb), .val (.int px), .val (.int pd), .val (.int pe), .unset, .unset, .unset, .unset, .unset, .unset, .unset, .unset, .unset, .unset, .unset, .unset, .unset, .unset, .unset] [])
  refine s_iconst W0 at_0 (v := (2 : Int32)) (by decide) (pc' := 1) rfl ?_
  refine gNewP (aty := .char) W0 (w_0 hw) (ad := "[C") (by decide +kernel) at_1 (pc' := 3) rfl (by decide) (cap := 2) (by decide) (by decide) (by decide) (by decide) ?_
  intro T1 h1 b1 g1 W1 E1 ⟨k1, V1, A1⟩
  have z1 : h0.size ≤ h1.size := E1.1
  have lt_b1 := natlt A1.lt
  have gg1 := nateq g1
  have n0_b1 : n0 ≤ b1 := by have := W0.n0le; omega
  have Vp1 : Arv Z h1 b1 k1 .char (2 : Int32) [(.int (0 : Int32)), (.int (0 : Int32))] (.int (0 : Int32)) := Arv.pad V1 (pad_rep [] (.int (0 : Int32)) 2)
  refine s_astore W1 at_3 rfl (l' := #[.val (.int pa), .val (.int pb), .val (.int px), .val (.int pd), .val (.int pe), .val (.ref b1), .unset, .unset, .unset, .unset, .unset, .unset, .unset, .unset, .unset, .unset, .unset, .unset, .unset, .unset]) rfl (pc' := 5) rfl ?_
  refine s_aload W1 at_5 rfl rfl (pc' := 7) rfl ?_
  refine s_iconst W1 at_7 (v := (0 : Int32)) (by decide) (pc' := 8) rfl ?_
  refine s_iloadN W1 at_8 rfl (pc' := 9) rfl ?_
  refine s_i2c W1 at_9 (pc' := 10) rfl ?_
  refine gStC W1 n0_b1 Vp1 ⟨by decide, by decide⟩ (i := 0) (by decide) (show 0 < 2 by decide) at_10 (pc' := 11) rfl ?_
  intro T2 h2 W2 K2 V2
  replace V2 : Arv Z h2 b1 k1 .char (2 : Int32) [(.int (nar .char pa.toUInt32.toUInt16.toUInt32.toInt32)), (.int (0 : Int32))] (.int (0 : Int32)) := V2
  have z2 : h1.size ≤ h2.size := K2.1
  refine s_aload W2 at_11 rfl rfl (pc' := 13) rfl ?_
  refine s_iconst W2 at_13 (v := (1 : Int32)) (by decide) (pc' := 14) rfl ?_
  refine s_iloadN W2 at_14 rfl (pc' := 15) rfl ?_
  refine s_bipush W2 at_15 (v := (16 : Int32)) (by decide) (pc' := 17) rfl ?_
  refine s_iushr W2 at_17 (pc' := 18) rfl ?_
  refine s_i2c W2 at_18 (pc' := 19) rfl ?_
  refine gStC W2 n0_b1 V2 ⟨by decide, by decide⟩ (i := 1) (by decide) (show 1 < 2 by decide) at_19 (pc' := 20) rfl ?_
  intro T3 h3 W3 K3 V3
  replace V3 : Arv Z h3 b1 k1 .char (2 : Int32) [(.int (nar .char pa.toUInt32.toUInt16.toUInt32.toInt32)), (.int (nar .char ((pa.toUInt32 >>> ((16 : Int32) &&& 31).toUInt32).toInt32).toUInt32.toUInt16.toUInt32.toInt32))] (.int (0 : Int32)) := V3
  have z3 : h2.size ≤ h3.size := K3.1
  refine s_iload W3 at_20 rfl (pc' := 22) rfl ?_
  refine s_iconst W3 at_22 (v := (2 : Int32)) (by decide) (pc' := 23) rfl ?_
  refine s_ishr W3 at_23 (pc' := 24) rfl ?_
  refine s_iconst W3 at_24 (v := (1 : Int32)) (by decide) (pc' := 25) rfl ?_
  refine s_iand W3 at_25 (pc' := 26) rfl ?_
  suffices t34 : ∀ cn : Int32, Go p e below (Po s Z EL0 n0 true room_1.cells room_1.slots (Q_law Z n0 pa pb px pd pe ccs h0)) T3 (mkF m 34 #[.val (.int pa), .val (.int pb), .val (.int px), .val (.int pd), .val (.int pe), .val (.ref b1), .unset, .unset, .unset, .unset, .unset, .unset, .unset, .unset, .unset, .unset, .unset, .unset, .unset, .unset] [(.int cn)]) by
    refine s_ifeq W3 at_26 (by decide) (pc1 := 33) (by decide) (pc2 := 29) rfl ?_ ?_
    · intro q26
      refine s_iconst W3 at_33 (v := (0 : Int32)) (by decide) (pc' := 34) rfl ?_
      exact t34 (0 : Int32)
    · intro q26
      refine s_iconst W3 at_29 (v := (1 : Int32)) (by decide) (pc' := 30) rfl ?_
      refine s_goto W3 at_30 (by decide) (pc' := 34) (by decide) ?_
      exact t34 (1 : Int32)
  intro cn
  refine s_istore W3 at_34 (l' := #[.val (.int pa), .val (.int pb), .val (.int px), .val (.int pd), .val (.int pe), .val (.ref b1), .val (.int cn), .unset, .unset, .unset, .unset, .unset, .unset, .unset, .unset, .unset, .unset, .unset, .unset, .unset]) rfl (pc' := 36) rfl ?_
  refine s_iload W3 at_36 rfl (pc' := 38) rfl ?_
  refine s_iconst W3 at_38 (v := (3 : Int32)) (by decide) (pc' := 39) rfl ?_
  refine s_ishr W3 at_39 (pc' := 40) rfl ?_
  refine s_iconst W3 at_40 (v := (1 : Int32)) (by decide) (pc' := 41) rfl ?_
  refine s_iand W3 at_41 (pc' := 42) rfl ?_
  suffices t50 : ∀ cp : Int32, Go p e below (Po s Z EL0 n0 true room_1.cells room_1.slots (Q_law Z n0 pa pb px pd pe ccs h0)) T3 (mkF m 50 #[.val (.int pa), .val (.int pb), .val (.int px), .val (.int pd), .val (.int pe), .val (.ref b1), .val (.int cn), .unset, .unset, .unset, .unset, .unset, .unset, .unset, .unset, .unset, .unset, .unset, .unset, .unset] [(.int cp)]) by
    refine s_ifeq W3 at_42 (by decide) (pc1 := 49) (by decide) (pc2 := 45) rfl ?_ ?_
    · intro q42
      refine s_iconst W3 at_49 (v := (0 : Int32)) (by decide) (pc' := 50) rfl ?_
      exact t50 (0 : Int32)
    · intro q42
      refine s_iconst W3 at_45 (v := (1 : Int32)) (by decide) (pc' := 46) rfl ?_
      refine s_goto W3 at_46 (by decide) (pc' := 50) (by decide) ?_
      exact t50 (1 : Int32)
  intro cp
  refine s_istore W3 at_50 (l' := #[.val (.int pa), .val (.int pb), .val (.int px), .val (.int pd), .val (.int pe), .val (.ref b1), .val (.int cn), .val (.int cp), .unset, .unset, .unset, .unset, .unset, .unset, .unset, .unset, .unset, .unset, .unset, .unset]) rfl (pc' := 52) rfl ?_
  refine s_iload W3 at_52 rfl (pc' := 54) rfl ?_
  refine s_iconst W3 at_54 (v := (4 : Int32)) (by decide) (pc' := 55) rfl ?_
  refine s_ishr W3 at_55 (pc' := 56) rfl ?_
  refine s_iconst W3 at_56 (v := (1 : Int32)) (by decide) (pc' := 57) rfl ?_
  refine s_iand W3 at_57 (pc' := 58) rfl ?_
  suffices t66 : ∀ ta : Int32, ta = 0 ∨ ta = 1 → Go p e below (Po s Z EL0 n0 true room_1.cells room_1.slots (Q_law Z n0 pa pb px pd pe ccs h0)) T3 (mkF m 66 #[.val (.int pa), .val (.int pb), .val (.int px), .val (.int pd), .val (.int pe), .val (.ref b1), .val (.int cn), .val (.int cp), .unset, .unset, .unset, .unset, .unset, .unset, .unset, .unset, .unset, .unset, .unset, .unset] [(.int ta)]) by
    refine s_ifeq W3 at_58 (by decide) (pc1 := 65) (by decide) (pc2 := 61) rfl ?_ ?_
    · intro q58
      refine s_iconst W3 at_65 (v := (0 : Int32)) (by decide) (pc' := 66) rfl ?_
      exact t66 (0 : Int32) (Or.inl rfl)
    · intro q58
      refine s_iconst W3 at_61 (v := (1 : Int32)) (by decide) (pc' := 62) rfl ?_
      refine s_goto W3 at_62 (by decide) (pc' := 66) (by decide) ?_
      exact t66 (1 : Int32) (Or.inr rfl)
  intro ta h_ta
  refine s_istore W3 at_66 (l' := #[.val (.int pa), .val (.int pb), .val (.int px), .val (.int pd), .val (.int pe), .val (.ref b1), .val (.int cn), .val (.int cp), .val (.int ta), .unset, .unset, .unset, .unset, .unset, .unset, .unset, .unset, .unset, .unset, .unset]) rfl (pc' := 68) rfl ?_
  refine s_iload W3 at_68 rfl (pc' := 70) rfl ?_
  suffices t92 : ∀ tb : Int32, tb = 0 ∨ tb = 1 → Go p e below (Po s Z EL0 n0 true room_1.cells room_1.slots (Q_law Z n0 pa pb px pd pe ccs h0)) T3 (mkF m 92 #[.val (.int pa), .val (.int pb), .val (.int px), .val (.int pd), .val (.int pe), .val (.ref b1), .val (.int cn), .val (.int cp), .val (.int ta), .unset, .unset, .unset, .unset, .unset, .unset, .unset, .unset, .unset, .unset, .unset] [(.int tb)]) by
    refine s_ifeq W3 at_70 (by decide) (pc1 := 78) (by decide) (pc2 := 73) rfl ?_ ?_
    · intro q70
      refine s_iload W3 at_78 rfl (pc' := 80) rfl ?_
      refine s_iconst W3 at_80 (v := (5 : Int32)) (by decide) (pc' := 81) rfl ?_
      refine s_ishr W3 at_81 (pc' := 82) rfl ?_
      refine s_iconst W3 at_82 (v := (1 : Int32)) (by decide) (pc' := 83) rfl ?_
      refine s_iand W3 at_83 (pc' := 84) rfl ?_
      refine s_ifeq W3 at_84 (by decide) (pc1 := 91) (by decide) (pc2 := 87) rfl ?_ ?_
      · intro q84
        refine s_iconst W3 at_91 (v := (0 : Int32)) (by decide) (pc' := 92) rfl ?_
        exact t92 (0 : Int32) (Or.inl rfl)
      · intro q84
        refine s_iconst W3 at_87 (v := (1 : Int32)) (by decide) (pc' := 88) rfl ?_
        refine s_goto W3 at_88 (by decide) (pc' := 92) (by decide) ?_
        exact t92 (1 : Int32) (Or.inr rfl)
    · intro q70
      refine s_iload W3 at_73 rfl (pc' := 75) rfl ?_
      refine s_goto W3 at_75 (by decide) (pc' := 92) (by decide) ?_
      exact t92 ta h_ta
  intro tb h_tb
  refine s_istore W3 at_92 (l' := #[.val (.int pa), .val (.int pb), .val (.int px), .val (.int pd), .val (.int pe), .val (.ref b1), .val (.int cn), .val (.int cp), .val (.int ta), .val (.int tb), .unset, .unset, .unset, .unset, .unset, .unset, .unset, .unset, .unset, .unset]) rfl (pc' := 94) rfl ?_
  refine s_iconst W3 at_94 (v := (2 : Int32)) (by decide) (pc' := 95) rfl ?_
  refine gNewP (aty := .char) W3 (w_0 hw) (ad := "[C") (by decide +kernel) at_95 (pc' := 97) rfl (by decide) (cap := 2) (by decide) (by decide) (by decide) (by decide) ?_
  intro T4 h4 b4 g4 W4 E4 ⟨k4, V4, A4⟩
  have z4 : h3.size ≤ h4.size := E4.1
  have lt_b4 := natlt A4.lt
  have gg4 := nateq g4
  have n0_b4 : n0 ≤ b4 := by have := W3.n0le; omega
  have Vp4 : Arv Z h4 b4 k4 .char (2 : Int32) [(.int (0 : Int32)), (.int (0 : Int32))] (.int (0 : Int32)) := Arv.pad V4 (pad_rep [] (.int (0 : Int32)) 2)
  refine s_astore W4 at_97 rfl (l' := #[.val (.int pa), .val (.int pb), .val (.int px), .val (.int pd), .val (.int pe), .val (.ref b1), .val (.int cn), .val (.int cp), .val (.int ta), .val (.int tb), .val (.ref b4), .unset, .unset, .unset, .unset, .unset, .unset, .unset, .unset, .unset]) rfl (pc' := 99) rfl ?_
  refine s_aload W4 at_99 rfl rfl (pc' := 101) rfl ?_
  refine s_iconst W4 at_101 (v := (0 : Int32)) (by decide) (pc' := 102) rfl ?_
  refine s_iload W4 at_102 rfl (pc' := 104) rfl ?_
  suffices t116 : ∀ x0 : Int32, Go p e below (Po s Z EL0 n0 true room_1.cells room_1.slots (Q_law Z n0 pa pb px pd pe ccs h0)) T4 (mkF m 116 #[.val (.int pa), .val (.int pb), .val (.int px), .val (.int pd), .val (.int pe), .val (.ref b1), .val (.int cn), .val (.int cp), .val (.int ta), .val (.int tb), .val (.ref b4), .unset, .unset, .unset, .unset, .unset, .unset, .unset, .unset, .unset] [(.int x0), (.int (0 : Int32)), (.ref b4)]) by
    refine s_ifeq W4 at_104 (by decide) (pc1 := 114) (by decide) (pc2 := 107) rfl ?_ ?_
    · intro q104
      refine s_iloadN W4 at_114 rfl (pc' := 115) rfl ?_
      refine s_i2c W4 at_115 (pc' := 116) rfl ?_
      exact t116 pb.toUInt32.toUInt16.toUInt32.toInt32
    · intro q104
      refine s_aload W4 at_107 rfl rfl (pc' := 109) rfl ?_
      refine s_iconst W4 at_109 (v := (0 : Int32)) (by decide) (pc' := 110) rfl ?_
      have fx5 := (V3.ext E4)
      refine gLdC W4 fx5 ⟨by decide, by decide⟩ (v := (.int (nar .char pa.toUInt32.toUInt16.toUInt32.toInt32))) rfl at_110 (pc' := 111) rfl ?_
      refine s_goto W4 at_111 (by decide) (pc' := 116) (by decide) ?_
      exact t116 (nar .char pa.toUInt32.toUInt16.toUInt32.toInt32)
  intro x0
  refine gStC W4 n0_b4 Vp4 ⟨by decide, by decide⟩ (i := 0) (by decide) (show 0 < 2 by decide) at_116 (pc' := 117) rfl ?_
  intro T6 h6 W6 K6 V6
  replace V6 : Arv Z h6 b4 k4 .char (2 : Int32) [(.int (nar .char x0)), (.int (0 : Int32))] (.int (0 : Int32)) := V6
  have z6 : h4.size ≤ h6.size := K6.1
  refine s_aload W6 at_117 rfl rfl (pc' := 119) rfl ?_
  refine s_iconst W6 at_119 (v := (1 : Int32)) (by decide) (pc' := 120) rfl ?_
  refine s_iload W6 at_120 rfl (pc' := 122) rfl ?_
  suffices t137 : ∀ x1 : Int32, Go p e below (Po s Z EL0 n0 true room_1.cells room_1.slots (Q_law Z n0 pa pb px pd pe ccs h0)) T6 (mkF m 137 #[.val (.int pa), .val (.int pb), .val (.int px), .val (.int pd), .val (.int pe), .val (.ref b1), .val (.int cn), .val (.int cp), .val (.int ta), .val (.int tb), .val (.ref b4), .unset, .unset, .unset, .unset, .unset, .unset, .unset, .unset, .unset] [(.int x1), (.int (1 : Int32)), (.ref b4)]) by
    refine s_ifeq W6 at_122 (by decide) (pc1 := 132) (by decide) (pc2 := 125) rfl ?_ ?_
    · intro q122
      refine s_iloadN W6 at_132 rfl (pc' := 133) rfl ?_
      refine s_bipush W6 at_133 (v := (16 : Int32)) (by decide) (pc' := 135) rfl ?_
      refine s_iushr W6 at_135 (pc' := 136) rfl ?_
      refine s_i2c W6 at_136 (pc' := 137) rfl ?_
      exact t137 ((pb.toUInt32 >>> ((16 : Int32) &&& 31).toUInt32).toInt32).toUInt32.toUInt16.toUInt32.toInt32
    · intro q122
      refine s_aload W6 at_125 rfl rfl (pc' := 127) rfl ?_
      refine s_iconst W6 at_127 (v := (1 : Int32)) (by decide) (pc' := 128) rfl ?_
      have fx7 := ((V3.ext E4).keep K6 (ninS (ane (by omega)) nin0))
      refine gLdC W6 fx7 ⟨by decide, by decide⟩ (v := (.int (nar .char ((pa.toUInt32 >>> ((16 : Int32) &&& 31).toUInt32).toInt32).toUInt32.toUInt16.toUInt32.toInt32))) rfl at_128 (pc' := 129) rfl ?_
      refine s_goto W6 at_129 (by decide) (pc' := 137) (by decide) ?_
      exact t137 (nar .char ((pa.toUInt32 >>> ((16 : Int32) &&& 31).toUInt32).toInt32).toUInt32.toUInt16.toUInt32.toInt32)
  intro x1
  refine gStC W6 n0_b4 V6 ⟨by decide, by decide⟩ (i := 1) (by decide) (show 1 < 2 by decide) at_137 (pc' := 138) rfl ?_
  intro T8 h8 W8 K8 V8
  replace V8 : Arv Z h8 b4 k4 .char (2 : Int32) [(.int (nar .char x0)), (.int (nar .char x1))] (.int (0 : Int32)) := V8
  have z8 : h6.size ≤ h8.size := K8.1
  rcases h_ta with rfl | rfl <;> rcases h_tb with rfl | rfl
  · show Go p e below _ T8 (mkF m 138 #[.val (.int pa), .val (.int pb), .val (.int px), .val (.int pd), .val (.int pe), .val (.ref b1), .val (.int cn), .val (.int cp), .val (.int (0 : Int32)), .val (.int (0 : Int32)), .val (.ref b4), .unset, .unset, .unset, .unset, .unset, .unset, .unset, .unset, .unset] [])
    refine s_iload W8 at_138 rfl (pc' := 140) rfl ?_
    refine s_ifeq W8 at_140 (by decide) (pc1 := 155) (by decide) (pc2 := 143) rfl ?_ (fun q => absurd q (by decide))
    intro q140
    refine s_aload W8 at_155 rfl rfl (pc' := 157) rfl ?_
    refine s_iconst W8 at_157 (v := (0 : Int32)) (by decide) (pc' := 158) rfl ?_
    have fx9 := (((V3.ext E4).keep K6 (ninS (ane (by omega)) nin0)).keep K8 (ninS (ane (by omega)) nin0))
    refine gLdC W8 fx9 ⟨by decide, by decide⟩ (v := (.int (nar .char pa.toUInt32.toUInt16.toUInt32.toInt32))) rfl at_158 (pc' := 159) rfl ?_
    refine gStatic W8 (w_1 hw) (w_2 hw) (w_3 hw) (w_4 hw) (by decide) pd_15 (ct_vofc hw hEL [] (nar .char pa.toUInt32.toUInt16.toUInt32.toInt32) ccs h8 SCS hccs SAD SHI SLO) (by simp) at_159 (pc' := 162) rfl rfl (argsL := [(.int (nar .char pa.toUInt32.toUInt16.toUInt32.toInt32))]) rfl rfl (rest := []) rfl (wt := 0) (Nat.le_of_eq rfl) (by decide) (by decide) (by decide) (by decide) ?_
    rintro v10 T10 h10 W10 z10 ⟨sA, dA, kA, zzA, rfl, KA, gsA, SA, lA, gA⟩
    have lt_dA := natlt SA.2.2.2.lt
    have lt_sA := natlt SA.1.lt
    have gd_A := natle gA
    have gs_A := natle gsA
    show Go p e below _ T10 (mkF m 162 #[.val (.int pa), .val (.int pb), .val (.int px), .val (.int pd), .val (.int pe), .val (.ref b1), .val (.int cn), .val (.int cp), .val (.int (0 : Int32)), .val (.int (0 : Int32)), .val (.ref b4), .unset, .unset, .unset, .unset, .unset, .unset, .unset, .unset, .unset] [(.ref sA)])
    refine s_astore W10 at_162 rfl (l' := #[.val (.int pa), .val (.int pb), .val (.int px), .val (.int pd), .val (.int pe), .val (.ref b1), .val (.int cn), .val (.int cp), .val (.int (0 : Int32)), .val (.int (0 : Int32)), .val (.ref b4), .val (.ref sA), .unset, .unset, .unset, .unset, .unset, .unset, .unset, .unset]) rfl (pc' := 164) rfl ?_
    refine s_iload W10 at_164 rfl (pc' := 166) rfl ?_
    refine s_ifeq W10 at_166 (by decide) (pc1 := 181) (by decide) (pc2 := 169) rfl ?_ (fun q => absurd q (by decide))
    intro q166
    refine s_aload W10 at_181 rfl rfl (pc' := 183) rfl ?_
    refine s_iconst W10 at_183 (v := (0 : Int32)) (by decide) (pc' := 184) rfl ?_
    have fx11 := (V8.keep KA nin0)
    refine gLdC W10 fx11 ⟨by decide, by decide⟩ (v := (.int (nar .char x0))) rfl at_184 (pc' := 185) rfl ?_
    refine gStatic W10 (w_1 hw) (w_2 hw) (w_3 hw) (w_4 hw) (by decide) pd_15 (ct_vofc hw hEL [] (nar .char x0) ccs h10 SCS hccs SAD SHI SLO) (by simp) at_185 (pc' := 188) rfl rfl (argsL := [(.int (nar .char x0))]) rfl rfl (rest := []) rfl (wt := 0) (Nat.le_of_eq rfl) (by decide) (by decide) (by decide) (by decide) ?_
    rintro v12 T12 h12 W12 z12 ⟨sB, dB, kB, zzB, rfl, KB, gsB, SB, lB, gB⟩
    have lt_dB := natlt SB.2.2.2.lt
    have lt_sB := natlt SB.1.lt
    have gd_B := natle gB
    have gs_B := natle gsB
    show Go p e below _ T12 (mkF m 188 #[.val (.int pa), .val (.int pb), .val (.int px), .val (.int pd), .val (.int pe), .val (.ref b1), .val (.int cn), .val (.int cp), .val (.int (0 : Int32)), .val (.int (0 : Int32)), .val (.ref b4), .val (.ref sA), .unset, .unset, .unset, .unset, .unset, .unset, .unset, .unset] [(.ref sB)])
    refine s_astore W12 at_188 rfl (l' := #[.val (.int pa), .val (.int pb), .val (.int px), .val (.int pd), .val (.int pe), .val (.ref b1), .val (.int cn), .val (.int cp), .val (.int (0 : Int32)), .val (.int (0 : Int32)), .val (.ref b4), .val (.ref sA), .val (.ref sB), .unset, .unset, .unset, .unset, .unset, .unset, .unset]) rfl (pc' := 190) rfl ?_
    refine s_iloadN W12 at_190 rfl (pc' := 191) rfl ?_
    refine s_ldcI W12 (w_27 hw) at_191 (pc' := 193) rfl ?_
    refine s_iand W12 at_193 (pc' := 194) rfl ?_
    refine s_istore W12 at_194 (l' := #[.val (.int pa), .val (.int pb), .val (.int px), .val (.int pd), .val (.int pe), .val (.ref b1), .val (.int cn), .val (.int cp), .val (.int (0 : Int32)), .val (.int (0 : Int32)), .val (.ref b4), .val (.ref sA), .val (.ref sB), .val (.int (px &&& (2147483647 : Int32))), .unset, .unset, .unset, .unset, .unset, .unset]) rfl (pc' := 196) rfl ?_
    refine s_iload W12 at_196 rfl (pc' := 198) rfl ?_
    suffices t210 : ∀ ab : Int32, 0 ≤ ab.toInt → Go p e below (Po s Z EL0 n0 true room_1.cells room_1.slots (Q_law Z n0 pa pb px pd pe ccs h0)) T12 (mkF m 210 #[.val (.int pa), .val (.int pb), .val (.int px), .val (.int pd), .val (.int pe), .val (.ref b1), .val (.int cn), .val (.int cp), .val (.int (0 : Int32)), .val (.int (0 : Int32)), .val (.ref b4), .val (.ref sA), .val (.ref sB), .val (.int (px &&& (2147483647 : Int32))), .unset, .unset, .unset, .unset, .unset, .unset] [(.int ab)]) by
      refine s_ifeq W12 at_198 (by decide) (pc1 := 206) (by decide) (pc2 := 201) rfl ?_ ?_
      · intro q198
        refine s_iloadN W12 at_206 rfl (pc' := 207) rfl ?_
        refine s_ldcI W12 (w_27 hw) at_207 (pc' := 209) rfl ?_
        refine s_iand W12 at_209 (pc' := 210) rfl ?_
        exact t210 (pd &&& (2147483647 : Int32)) (and_nonneg _)
      · intro q198
        refine s_iload W12 at_201 rfl (pc' := 203) rfl ?_
        refine s_goto W12 at_203 (by decide) (pc' := 210) (by decide) ?_
        exact t210 (px &&& (2147483647 : Int32)) (and_nonneg _)
    intro ab h_ab
    refine s_istore W12 at_210 (l' := #[.val (.int pa), .val (.int pb), .val (.int px), .val (.int pd), .val (.int pe), .val (.ref b1), .val (.int cn), .val (.int cp), .val (.int (0 : Int32)), .val (.int (0 : Int32)), .val (.ref b4), .val (.ref sA), .val (.ref sB), .val (.int (px &&& (2147483647 : Int32))), .val (.int ab), .unset, .unset, .unset, .unset, .unset]) rfl (pc' := 212) rfl ?_
    refine gNew W12 (w_28 hw) (w_29 hw) (w_30 hw) at_212 (pc' := 215) rfl (by decide) (by decide) ?_
    intro T13 h13 b13 g13 W13 E13 ⟨A13, D13, U13⟩
    have z13 : h12.size ≤ h13.size := E13.1
    have lt_b13 := natlt A13.lt
    have gg13 := nateq g13
    have n0_b13 : n0 ≤ b13 := by have := W12.n0le; omega
    have F13_name : Fld Z h13 b13 "com/example/tame_chase/tamechase/Predicate" "name" "Ljava/lang/String;" .null := D13 (Or.inr (w_49 hw)) (ty := (.object "java/lang/String")) (by decide)
    have F13_arity : Fld Z h13 b13 "com/example/tame_chase/tamechase/Predicate" "arity" "I" (.int (0 : Int32)) := D13 (Or.inr (w_51 hw)) (ty := .int) (by decide)
    refine s_dup W13 at_215 rfl (pc' := 216) rfl ?_
    refine s_aload W13 at_216 rfl rfl (pc' := 218) rfl ?_
    refine s_iload W13 at_218 rfl (pc' := 220) rfl ?_
    have fx14 := ((SA.keep KB nin0 nin0).ext E13)
    refine gSpecial W13 rfl (w_31 hw) (w_32 hw) (w_30 hw) (w_33 hw) (by decide) pd_16 (ct_pinit hw hEL [] b13 sA dA kA (encC [(nar .char pa.toUInt32.toUInt16.toUInt32.toInt32)]) zzA (px &&& (2147483647 : Int32)) _ h13 fx14 (fun q' => by have e1 := lA; rw [q', zero32] at e1; have := encB_ne (cs := [(nar .char pa.toUInt32.toUInt16.toUInt32.toInt32)]) (by simp); omega) (and_nonneg _) A13 F13_name F13_arity n0_b13) (fun x hx => by rcases List.mem_singleton.mp hx with rfl; exact List.mem_of_getElem? (i := 0) rfl) at_220 (pc' := 223) rfl rfl (argsL := [(.ref sA), (.int (px &&& (2147483647 : Int32)))]) rfl rfl (rest := [(.ref b13)]) rfl (wt := 1) (Nat.le_of_eq rfl) (by decide) (by decide) (by decide) (by decide) ?_
    rintro v15 T15 h15 W15 z15 ⟨rfl, KPA, EPA, NPA, APA⟩
    show Go p e below _ T15 (mkF m 223 #[.val (.int pa), .val (.int pb), .val (.int px), .val (.int pd), .val (.int pe), .val (.ref b1), .val (.int cn), .val (.int cp), .val (.int (0 : Int32)), .val (.int (0 : Int32)), .val (.ref b4), .val (.ref sA), .val (.ref sB), .val (.int (px &&& (2147483647 : Int32))), .val (.int ab), .unset, .unset, .unset, .unset, .unset] [(.ref b13)])
    refine s_astore W15 at_223 rfl (l' := #[.val (.int pa), .val (.int pb), .val (.int px), .val (.int pd), .val (.int pe), .val (.ref b1), .val (.int cn), .val (.int cp), .val (.int (0 : Int32)), .val (.int (0 : Int32)), .val (.ref b4), .val (.ref sA), .val (.ref sB), .val (.int (px &&& (2147483647 : Int32))), .val (.int ab), .val (.ref b13), .unset, .unset, .unset, .unset]) rfl (pc' := 225) rfl ?_
    refine gNew W15 (w_28 hw) (w_29 hw) (w_30 hw) at_225 (pc' := 228) rfl (by decide) (by decide) ?_
    intro T16 h16 b16 g16 W16 E16 ⟨A16, D16, U16⟩
    have z16 : h15.size ≤ h16.size := E16.1
    have lt_b16 := natlt A16.lt
    have gg16 := nateq g16
    have n0_b16 : n0 ≤ b16 := by have := W15.n0le; omega
    have F16_name : Fld Z h16 b16 "com/example/tame_chase/tamechase/Predicate" "name" "Ljava/lang/String;" .null := D16 (Or.inr (w_49 hw)) (ty := (.object "java/lang/String")) (by decide)
    have F16_arity : Fld Z h16 b16 "com/example/tame_chase/tamechase/Predicate" "arity" "I" (.int (0 : Int32)) := D16 (Or.inr (w_51 hw)) (ty := .int) (by decide)
    refine s_dup W16 at_228 rfl (pc' := 229) rfl ?_
    refine s_aload W16 at_229 rfl rfl (pc' := 231) rfl ?_
    refine s_iload W16 at_231 rfl (pc' := 233) rfl ?_
    have fx17 := (((SB.ext E13).keep KPA (ninS (ane (by omega)) nin0) (ninS (ane (by omega)) nin0)).ext E16)
    refine gSpecial W16 rfl (w_31 hw) (w_32 hw) (w_30 hw) (w_33 hw) (by decide) pd_16 (ct_pinit hw hEL [] b16 sB dB kB (encC [(nar .char x0)]) zzB ab _ h16 fx17 (fun q' => by have e1 := lB; rw [q', zero32] at e1; have := encB_ne (cs := [(nar .char x0)]) (by simp); omega) h_ab A16 F16_name F16_arity n0_b16) (fun x hx => by rcases List.mem_singleton.mp hx with rfl; exact List.mem_of_getElem? (i := 0) rfl) at_233 (pc' := 236) rfl rfl (argsL := [(.ref sB), (.int ab)]) rfl rfl (rest := [(.ref b16)]) rfl (wt := 1) (Nat.le_of_eq rfl) (by decide) (by decide) (by decide) (by decide) ?_
    rintro v18 T18 h18 W18 z18 ⟨rfl, KPB, EPB, NPB, APB⟩
    show Go p e below _ T18 (mkF m 236 #[.val (.int pa), .val (.int pb), .val (.int px), .val (.int pd), .val (.int pe), .val (.ref b1), .val (.int cn), .val (.int cp), .val (.int (0 : Int32)), .val (.int (0 : Int32)), .val (.ref b4), .val (.ref sA), .val (.ref sB), .val (.int (px &&& (2147483647 : Int32))), .val (.int ab), .val (.ref b13), .unset, .unset, .unset, .unset] [(.ref b16)])
    refine s_astore W18 at_236 rfl (l' := #[.val (.int pa), .val (.int pb), .val (.int px), .val (.int pd), .val (.int pe), .val (.ref b1), .val (.int cn), .val (.int cp), .val (.int (0 : Int32)), .val (.int (0 : Int32)), .val (.ref b4), .val (.ref sA), .val (.ref sB), .val (.int (px &&& (2147483647 : Int32))), .val (.int ab), .val (.ref b13), .val (.ref b16), .unset, .unset, .unset]) rfl (pc' := 238) rfl ?_
    refine s_iload W18 at_238 rfl (pc' := 240) rfl ?_
    refine s_iconst W18 at_240 (v := (3 : Int32)) (by decide) (pc' := 241) rfl ?_
    refine s_iand W18 at_241 (pc' := 242) rfl ?_
    refine s_istore W18 at_242 (l' := #[.val (.int pa), .val (.int pb), .val (.int px), .val (.int pd), .val (.int pe), .val (.ref b1), .val (.int cn), .val (.int cp), .val (.int (0 : Int32)), .val (.int (0 : Int32)), .val (.ref b4), .val (.ref sA), .val (.ref sB), .val (.int (px &&& (2147483647 : Int32))), .val (.int ab), .val (.ref b13), .val (.ref b16), .val (.int (pe &&& (3 : Int32))), .unset, .unset]) rfl (pc' := 244) rfl ?_
    refine s_iload W18 at_244 rfl (pc' := 246) rfl ?_
    refine s_iconst W18 at_246 (v := (1 : Int32)) (by decide) (pc' := 247) rfl ?_
    refine s_icmpne W18 at_247 (by decide) (pc1 := 258) (by decide) (pc2 := 250) rfl ?_ ?_
    · intro q247
      refine s_iload W18 at_258 rfl (pc' := 260) rfl ?_
      refine s_iconst W18 at_260 (v := (2 : Int32)) (by decide) (pc' := 261) rfl ?_
      refine s_icmpne W18 at_261 (by decide) (pc1 := 279) (by decide) (pc2 := 264) rfl ?_ ?_
      · intro q261
        refine s_iload W18 at_279 rfl (pc' := 281) rfl ?_
        refine s_iconst W18 at_281 (v := (3 : Int32)) (by decide) (pc' := 282) rfl ?_
        refine s_icmpne W18 at_282 (by decide) (pc1 := 301) (by decide) (pc2 := 285) rfl ?_ ?_
        · intro q282
          refine s_iload W18 at_301 rfl (pc' := 303) rfl ?_
          refine s_iload W18 at_303 rfl (pc' := 305) rfl ?_
          suffices t340 : ∀ sn : Int32, sn = (if [(nar .char pa.toUInt32.toUInt16.toUInt32.toInt32)] = [(nar .char x0)] then 1 else 0) → Go p e below (Po s Z EL0 n0 true room_1.cells room_1.slots (Q_law Z n0 pa pb px pd pe ccs h0)) T18 (mkF m 340 #[.val (.int pa), .val (.int pb), .val (.int px), .val (.int pd), .val (.int pe), .val (.ref b1), .val (.int cn), .val (.int cp), .val (.int (0 : Int32)), .val (.int (0 : Int32)), .val (.ref b4), .val (.ref sA), .val (.ref sB), .val (.int (px &&& (2147483647 : Int32))), .val (.int ab), .val (.ref b13), .val (.ref b16), .val (.int (pe &&& (3 : Int32))), .unset, .unset] [(.int sn)]) by
            refine s_icmpne W18 at_305 (by decide) (pc1 := 339) (by decide) (pc2 := 308) rfl (fun q => absurd q (by decide)) ?_
            intro q305
            refine s_aload W18 at_308 rfl rfl (pc' := 310) rfl ?_
            refine s_iconst W18 at_310 (v := (0 : Int32)) (by decide) (pc' := 311) rfl ?_
            have fx19 := ((((((fx9.keep KA nin0).keep KB nin0).ext E13).keep KPA (ninS (ane (by omega)) nin0)).ext E16).keep KPB (ninS (ane (by omega)) nin0))
            refine gLdC W18 fx19 ⟨by decide, by decide⟩ (v := (.int (nar .char pa.toUInt32.toUInt16.toUInt32.toInt32))) rfl at_311 (pc' := 312) rfl ?_
            refine s_aload W18 at_312 rfl rfl (pc' := 314) rfl ?_
            refine s_iconst W18 at_314 (v := (0 : Int32)) (by decide) (pc' := 315) rfl ?_
            have fx20 := (((((fx11.keep KB nin0).ext E13).keep KPA (ninS (ane (by omega)) nin0)).ext E16).keep KPB (ninS (ane (by omega)) nin0))
            refine gLdC W18 fx20 ⟨by decide, by decide⟩ (v := (.int (nar .char x0))) rfl at_315 (pc' := 316) rfl ?_
            refine s_icmpne W18 at_316 (by decide) (pc1 := 339) (by decide) (pc2 := 319) rfl ?_ ?_
            · intro q316
              refine s_iconst W18 at_339 (v := (0 : Int32)) (by decide) (pc' := 340) rfl ?_
              exact t340 (0 : Int32) (by rw [if_neg (fun r => q316 (List.cons.inj r).1)])
            · intro q316
              refine s_iload W18 at_319 rfl (pc' := 321) rfl ?_
              refine s_ifeq W18 at_321 (by decide) (pc1 := 335) (by decide) (pc2 := 324) rfl ?_ (fun q => absurd q (by decide))
              intro q321
              refine s_iconst W18 at_335 (v := (1 : Int32)) (by decide) (pc' := 336) rfl ?_
              refine s_goto W18 at_336 (by decide) (pc' := 340) (by decide) ?_
              exact t340 (1 : Int32) (by rw [if_pos (by rw [q316])])
          intro sn h_sn
          refine s_istore W18 at_340 (l' := #[.val (.int pa), .val (.int pb), .val (.int px), .val (.int pd), .val (.int pe), .val (.ref b1), .val (.int cn), .val (.int cp), .val (.int (0 : Int32)), .val (.int (0 : Int32)), .val (.ref b4), .val (.ref sA), .val (.ref sB), .val (.int (px &&& (2147483647 : Int32))), .val (.int ab), .val (.ref b13), .val (.ref b16), .val (.int (pe &&& (3 : Int32))), .val (.int sn), .unset]) rfl (pc' := 342) rfl ?_
          refine s_iload W18 at_342 rfl (pc' := 344) rfl ?_
          refine s_iload W18 at_344 rfl (pc' := 346) rfl ?_
          suffices t359 : ∀ ex : Int32, ex = (if (px &&& (2147483647 : Int32)) = ab ∧ [(nar .char pa.toUInt32.toUInt16.toUInt32.toInt32)] = [(nar .char x0)] then 1 else 0) → Go p e below (Po s Z EL0 n0 true room_1.cells room_1.slots (Q_law Z n0 pa pb px pd pe ccs h0)) T18 (mkF m 359 #[.val (.int pa), .val (.int pb), .val (.int px), .val (.int pd), .val (.int pe), .val (.ref b1), .val (.int cn), .val (.int cp), .val (.int (0 : Int32)), .val (.int (0 : Int32)), .val (.ref b4), .val (.ref sA), .val (.ref sB), .val (.int (px &&& (2147483647 : Int32))), .val (.int ab), .val (.ref b13), .val (.ref b16), .val (.int (pe &&& (3 : Int32))), .val (.int sn), .unset] [(.int ex)]) by
            refine s_icmpne W18 at_346 (by decide) (pc1 := 358) (by decide) (pc2 := 349) rfl ?_ ?_
            · intro q346
              refine s_iconst W18 at_358 (v := (0 : Int32)) (by decide) (pc' := 359) rfl ?_
              exact t359 (0 : Int32) (by rw [if_neg (fun r => q346 r.1)])
            · intro q346
              refine s_iload W18 at_349 rfl (pc' := 351) rfl ?_
              refine s_ifeq W18 at_351 (by decide) (pc1 := 358) (by decide) (pc2 := 354) rfl ?_ ?_
              · intro q351
                refine s_iconst W18 at_358 (v := (0 : Int32)) (by decide) (pc' := 359) rfl ?_
                exact t359 (0 : Int32) (by rw [if_neg (fun r => by rw [if_pos r.2] at h_sn; rw [h_sn] at q351; exact absurd q351 (by decide))])
              · intro q351
                refine s_iconst W18 at_354 (v := (1 : Int32)) (by decide) (pc' := 355) rfl ?_
                refine s_goto W18 at_355 (by decide) (pc' := 359) (by decide) ?_
                exact t359 (1 : Int32) (by rw [if_pos ⟨q346, Classical.byContradiction fun e => by rw [if_neg e] at h_sn; exact q351 h_sn⟩])
          intro ex h_ex
          refine s_istore W18 at_359 (l' := #[.val (.int pa), .val (.int pb), .val (.int px), .val (.int pd), .val (.int pe), .val (.ref b1), .val (.int cn), .val (.int cp), .val (.int (0 : Int32)), .val (.int (0 : Int32)), .val (.ref b4), .val (.ref sA), .val (.ref sB), .val (.int (px &&& (2147483647 : Int32))), .val (.int ab), .val (.ref b13), .val (.ref b16), .val (.int (pe &&& (3 : Int32))), .val (.int sn), .val (.int ex)]) rfl (pc' := 361) rfl ?_
          refine s_aload W18 at_361 rfl rfl (pc' := 363) rfl ?_
          refine s_aload W18 at_363 rfl rfl (pc' := 365) rfl ?_
          have fx21 := ((NPA.ext E16).keep KPB (ninS (ane (by omega)) nin0))
          have fx22 := ((APA.ext E16).keep KPB (ninS (ane (by omega)) nin0))
          have fx23 := (((fx14.keep KPA (ninS (ane (by omega)) nin0) (ninS (ane (by omega)) nin0)).ext E16).keep KPB (ninS (ane (by omega)) nin0) (ninS (ane (by omega)) nin0))
          have fx24 := (fx17.keep KPB (ninS (ane (by omega)) nin0) (ninS (ane (by omega)) nin0))
          have fx26 := ((EPA.ext E16).keep KPB)
          refine gVirtual W18 fx26 (w_52 hw) (w_53 hw) (fun s hZ => notFace_of_selects (args := #[]) (mv hZ (w_55 hw))) (w_55 hw) (w_54 hw) (w_30 hw) (w_56 hw) (by decide) pd_14 (ct_peqX hw hEL [] b13 b16 sA sB dA dB kA kB zzA zzB (px &&& (2147483647 : Int32)) ab ccs [(nar .char pa.toUInt32.toUInt16.toUInt32.toInt32)] [(nar .char x0)] h18 (ane (by omega)) EPB fx21 fx22 lA fx23 (by intro c hc; simp only [List.mem_cons, List.not_mem_nil, or_false] at hc; rcases hc with rfl <;> exact wide_of _) NPB APB lB fx24 (by intro c hc; simp only [List.mem_cons, List.not_mem_nil, or_false] at hc; rcases hc with rfl <;> exact wide_of _) SCS hccs) (by simp) at_365 (pc' := 368) rfl rfl (argsL := [(.ref b16)]) rfl rfl (rest := []) rfl (wt := 0) (Nat.le_of_eq rfl) (by decide) (by decide) (by decide) (by decide) ?_
          rintro v25 T25 h25 W25 z25 ⟨rfl, rfl⟩
          rw [← h_ex]
          show Go p e below _ T25 (mkF m 368 #[.val (.int pa), .val (.int pb), .val (.int px), .val (.int pd), .val (.int pe), .val (.ref b1), .val (.int cn), .val (.int cp), .val (.int (0 : Int32)), .val (.int (0 : Int32)), .val (.ref b4), .val (.ref sA), .val (.ref sB), .val (.int (px &&& (2147483647 : Int32))), .val (.int ab), .val (.ref b13), .val (.ref b16), .val (.int (pe &&& (3 : Int32))), .val (.int sn), .val (.int ex)] [(.int ex)])
          refine s_iload W25 at_368 rfl (pc' := 370) rfl ?_
          refine s_icmpne W25 at_370 (by decide) (pc1 := 389) (by decide) (pc2 := 373) rfl (fun q => (q rfl).elim) ?_
          intro q370
          refine s_aload W25 at_373 rfl rfl (pc' := 375) rfl ?_
          refine s_aload W25 at_375 rfl rfl (pc' := 377) rfl ?_
          refine gVirtual W25 EPB (w_52 hw) (w_53 hw) (fun s hZ => notFace_of_selects (args := #[]) (mv hZ (w_55 hw))) (w_55 hw) (w_54 hw) (w_30 hw) (w_56 hw) (by decide) pd_14 (ct_peqX hw hEL [] b16 b13 sB sA dB dA kB kA zzB zzA ab (px &&& (2147483647 : Int32)) ccs [(nar .char x0)] [(nar .char pa.toUInt32.toUInt16.toUInt32.toInt32)] h18 (ane (by omega)) fx26 NPB APB lB fx24 (by intro c hc; simp only [List.mem_cons, List.not_mem_nil, or_false] at hc; rcases hc with rfl <;> exact wide_of _) fx21 fx22 lA fx23 (by intro c hc; simp only [List.mem_cons, List.not_mem_nil, or_false] at hc; rcases hc with rfl <;> exact wide_of _) SCS hccs) (by simp) at_377 (pc' := 380) rfl rfl (argsL := [(.ref b13)]) rfl rfl (rest := []) rfl (wt := 0) (Nat.le_of_eq rfl) (by decide) (by decide) (by decide) (by decide) ?_
          rintro v27 T27 h27 W27 z27 ⟨rfl, rfl⟩
          have hsym : (if ab = (px &&& (2147483647 : Int32)) ∧ [(nar .char x0)] = [(nar .char pa.toUInt32.toUInt16.toUInt32.toInt32)] then (1 : Int32) else 0) = (if (px &&& (2147483647 : Int32)) = ab ∧ [(nar .char pa.toUInt32.toUInt16.toUInt32.toInt32)] = [(nar .char x0)] then 1 else 0) := by simp only [eq_comm]
          rw [hsym, ← h_ex]
          show Go p e below _ T27 (mkF m 380 #[.val (.int pa), .val (.int pb), .val (.int px), .val (.int pd), .val (.int pe), .val (.ref b1), .val (.int cn), .val (.int cp), .val (.int (0 : Int32)), .val (.int (0 : Int32)), .val (.ref b4), .val (.ref sA), .val (.ref sB), .val (.int (px &&& (2147483647 : Int32))), .val (.int ab), .val (.ref b13), .val (.ref b16), .val (.int (pe &&& (3 : Int32))), .val (.int sn), .val (.int ex)] [(.int ex)])
          refine s_iload W27 at_380 rfl (pc' := 382) rfl ?_
          refine s_icmpne W27 at_382 (by decide) (pc1 := 389) (by decide) (pc2 := 385) rfl (fun q => (q rfl).elim) ?_
          intro q382
          refine s_iconst W27 at_385 (v := (1 : Int32)) (by decide) (pc' := 386) rfl ?_
          refine s_goto W27 at_386 (by decide) (pc' := 390) (by decide) ?_
          exact gRetN W27 hret (by simp) at_390 (by decide) (by decide) rfl
        · intro q282
          refine s_aload W18 at_285 rfl rfl (pc' := 287) rfl ?_
          refine s_aload W18 at_287 rfl rfl (pc' := 289) rfl ?_
          have fx28 := (((fx14.keep KPA (ninS (ane (by omega)) nin0) (ninS (ane (by omega)) nin0)).ext E16).keep KPB (ninS (ane (by omega)) nin0) (ninS (ane (by omega)) nin0))
          have fx30 := ((EPA.ext E16).keep KPB)
          refine gVirtual W18 fx30 (w_52 hw) (w_53 hw) (fun s hZ => notFace_of_selects (args := #[]) (mv hZ (w_55 hw))) (w_55 hw) (w_54 hw) (w_30 hw) (w_56 hw) (by decide) pd_14 (ct_peqS hw hEL [] b13 sA h18 fx28.1 (ane (by omega))) (by simp) at_289 (pc' := 292) rfl rfl (argsL := [(.ref sA)]) rfl rfl (rest := []) rfl (wt := 0) (Nat.le_of_eq rfl) (by decide) (by decide) (by decide) (by decide) ?_
          rintro v29 T29 h29 W29 z29 ⟨rfl, rfl⟩
          show Go p e below _ T29 (mkF m 292 #[.val (.int pa), .val (.int pb), .val (.int px), .val (.int pd), .val (.int pe), .val (.ref b1), .val (.int cn), .val (.int cp), .val (.int (0 : Int32)), .val (.int (0 : Int32)), .val (.ref b4), .val (.ref sA), .val (.ref sB), .val (.int (px &&& (2147483647 : Int32))), .val (.int ab), .val (.ref b13), .val (.ref b16), .val (.int (pe &&& (3 : Int32))), .unset, .unset] [(.int (0 : Int32))])
          refine s_ifne W29 at_292 (by decide) (pc1 := 299) (by decide) (pc2 := 295) rfl (fun q => absurd q (by decide)) ?_
          intro q292
          refine s_iconst W29 at_295 (v := (1 : Int32)) (by decide) (pc' := 296) rfl ?_
          refine s_goto W29 at_296 (by decide) (pc' := 300) (by decide) ?_
          exact gRetN W29 hret (by simp) at_300 (by decide) (by decide) rfl
      · intro q261
        refine s_aload W18 at_264 rfl rfl (pc' := 266) rfl ?_
        refine s_aconst_null W18 at_266 (pc' := 267) rfl ?_
        have fx32 := ((EPA.ext E16).keep KPB)
        refine gVirtual W18 fx32 (w_52 hw) (w_53 hw) (fun s hZ => notFace_of_selects (args := #[]) (mv hZ (w_55 hw))) (w_55 hw) (w_54 hw) (w_30 hw) (w_56 hw) (by decide) pd_14 (ct_peqN hw hEL [] b13 h18) (by simp) at_267 (pc' := 270) rfl rfl (argsL := [.null]) rfl rfl (rest := []) rfl (wt := 0) (Nat.le_of_eq rfl) (by decide) (by decide) (by decide) (by decide) ?_
        rintro v31 T31 h31 W31 z31 ⟨rfl, rfl⟩
        show Go p e below _ T31 (mkF m 270 #[.val (.int pa), .val (.int pb), .val (.int px), .val (.int pd), .val (.int pe), .val (.ref b1), .val (.int cn), .val (.int cp), .val (.int (0 : Int32)), .val (.int (0 : Int32)), .val (.ref b4), .val (.ref sA), .val (.ref sB), .val (.int (px &&& (2147483647 : Int32))), .val (.int ab), .val (.ref b13), .val (.ref b16), .val (.int (pe &&& (3 : Int32))), .unset, .unset] [(.int (0 : Int32))])
        refine s_ifne W31 at_270 (by decide) (pc1 := 277) (by decide) (pc2 := 273) rfl (fun q => absurd q (by decide)) ?_
        intro q270
        refine s_iconst W31 at_273 (v := (1 : Int32)) (by decide) (pc' := 274) rfl ?_
        refine s_goto W31 at_274 (by decide) (pc' := 278) (by decide) ?_
        exact gRetN W31 hret (by simp) at_278 (by decide) (by decide) rfl
    · intro q247
      refine s_aload W18 at_250 rfl rfl (pc' := 252) rfl ?_
      refine s_aload W18 at_252 rfl rfl (pc' := 254) rfl ?_
      have fx34 := ((EPA.ext E16).keep KPB)
      refine gVirtual W18 fx34 (w_52 hw) (w_53 hw) (fun s hZ => notFace_of_selects (args := #[]) (mv hZ (w_55 hw))) (w_55 hw) (w_54 hw) (w_30 hw) (w_56 hw) (by decide) pd_14 (ct_peqI hw hEL [] b13 h18) (by simp) at_254 (pc' := 257) rfl rfl (argsL := [(.ref b13)]) rfl rfl (rest := []) rfl (wt := 0) (Nat.le_of_eq rfl) (by decide) (by decide) (by decide) (by decide) ?_
      rintro v33 T33 h33 W33 z33 ⟨rfl, rfl⟩
      show Go p e below _ T33 (mkF m 257 #[.val (.int pa), .val (.int pb), .val (.int px), .val (.int pd), .val (.int pe), .val (.ref b1), .val (.int cn), .val (.int cp), .val (.int (0 : Int32)), .val (.int (0 : Int32)), .val (.ref b4), .val (.ref sA), .val (.ref sB), .val (.int (px &&& (2147483647 : Int32))), .val (.int ab), .val (.ref b13), .val (.ref b16), .val (.int (pe &&& (3 : Int32))), .unset, .unset] [(.int (1 : Int32))])
      exact gRetN W33 hret (by simp) at_257 (by decide) (by decide) rfl
  · show Go p e below _ T8 (mkF m 138 #[.val (.int pa), .val (.int pb), .val (.int px), .val (.int pd), .val (.int pe), .val (.ref b1), .val (.int cn), .val (.int cp), .val (.int (0 : Int32)), .val (.int (1 : Int32)), .val (.ref b4), .unset, .unset, .unset, .unset, .unset, .unset, .unset, .unset, .unset] [])
    refine s_iload W8 at_138 rfl (pc' := 140) rfl ?_
    refine s_ifeq W8 at_140 (by decide) (pc1 := 155) (by decide) (pc2 := 143) rfl ?_ (fun q => absurd q (by decide))
    intro q140
    refine s_aload W8 at_155 rfl rfl (pc' := 157) rfl ?_
    refine s_iconst W8 at_157 (v := (0 : Int32)) (by decide) (pc' := 158) rfl ?_
    have fx35 := (((V3.ext E4).keep K6 (ninS (ane (by omega)) nin0)).keep K8 (ninS (ane (by omega)) nin0))
    refine gLdC W8 fx35 ⟨by decide, by decide⟩ (v := (.int (nar .char pa.toUInt32.toUInt16.toUInt32.toInt32))) rfl at_158 (pc' := 159) rfl ?_
    refine gStatic W8 (w_1 hw) (w_2 hw) (w_3 hw) (w_4 hw) (by decide) pd_15 (ct_vofc hw hEL [] (nar .char pa.toUInt32.toUInt16.toUInt32.toInt32) ccs h8 SCS hccs SAD SHI SLO) (by simp) at_159 (pc' := 162) rfl rfl (argsL := [(.int (nar .char pa.toUInt32.toUInt16.toUInt32.toInt32))]) rfl rfl (rest := []) rfl (wt := 0) (Nat.le_of_eq rfl) (by decide) (by decide) (by decide) (by decide) ?_
    rintro v36 T36 h36 W36 z36 ⟨sA, dA, kA, zzA, rfl, KA, gsA, SA, lA, gA⟩
    have lt_dA := natlt SA.2.2.2.lt
    have lt_sA := natlt SA.1.lt
    have gd_A := natle gA
    have gs_A := natle gsA
    show Go p e below _ T36 (mkF m 162 #[.val (.int pa), .val (.int pb), .val (.int px), .val (.int pd), .val (.int pe), .val (.ref b1), .val (.int cn), .val (.int cp), .val (.int (0 : Int32)), .val (.int (1 : Int32)), .val (.ref b4), .unset, .unset, .unset, .unset, .unset, .unset, .unset, .unset, .unset] [(.ref sA)])
    refine s_astore W36 at_162 rfl (l' := #[.val (.int pa), .val (.int pb), .val (.int px), .val (.int pd), .val (.int pe), .val (.ref b1), .val (.int cn), .val (.int cp), .val (.int (0 : Int32)), .val (.int (1 : Int32)), .val (.ref b4), .val (.ref sA), .unset, .unset, .unset, .unset, .unset, .unset, .unset, .unset]) rfl (pc' := 164) rfl ?_
    refine s_iload W36 at_164 rfl (pc' := 166) rfl ?_
    refine s_ifeq W36 at_166 (by decide) (pc1 := 181) (by decide) (pc2 := 169) rfl (fun q => absurd q (by decide)) ?_
    intro q166
    refine gNew W36 (w_61 hw) (w_11 hw) (w_3 hw) at_169 (pc' := 172) rfl (by decide) (by decide) ?_
    intro T37 h37 b37 g37 W37 E37 ⟨A37, D37, U37⟩
    have z37 : h36.size ≤ h37.size := E37.1
    have lt_b37 := natlt A37.lt
    have gg37 := nateq g37
    have n0_b37 : n0 ≤ b37 := by have := W36.n0le; omega
    have F37_value : Fld Z h37 b37 "java/lang/String" "value" "[B" .null := D37 (Or.inr (w_24 hw)) (ty := (.array .byte)) (by decide)
    have F37_coder : Fld Z h37 b37 "java/lang/String" "coder" "B" (.int (0 : Int32)) := D37 (Or.inr (w_26 hw)) (ty := .byte) (by decide)
    refine s_dup W37 at_172 rfl (pc' := 173) rfl ?_
    refine s_aload W37 at_173 rfl rfl (pc' := 175) rfl ?_
    have fx38 := ((V8.keep KA nin0).ext E37)
    refine gSpecial W37 rfl (w_62 hw) (w_63 hw) (w_3 hw) (w_64 hw) (by decide) pd_17 (ct_str1g hw hEL [] b37 b4 k4 (2 : Int32) ccs [(nar .char x0), (nar .char x1)] h37 (show (2 : Int32).toInt = ((2 : Nat) : Int) by decide) (show 2 ≤ 2 by decide) (by intro c hc; simp only [List.mem_cons, List.not_mem_nil, or_false] at hc; rcases hc with rfl | rfl <;> exact wide_of _) fx38 A37 F37_value F37_coder n0_b37 SCS hccs (by simp) SAD SHI SLO) (fun x hx => by rcases List.mem_singleton.mp hx with rfl; exact List.mem_of_getElem? (i := 0) rfl) at_175 (pc' := 178) rfl rfl (argsL := [(.ref b4)]) rfl rfl (rest := [(.ref b37)]) rfl (wt := 1) (Nat.le_of_eq rfl) (by decide) (by decide) (by decide) (by decide) ?_
    rintro v39 T39 h39 W39 z39 ⟨rfl, KB, dB, kB, zzB, SB, lB, gB⟩
    show Go p e below _ T39 (mkF m 178 #[.val (.int pa), .val (.int pb), .val (.int px), .val (.int pd), .val (.int pe), .val (.ref b1), .val (.int cn), .val (.int cp), .val (.int (0 : Int32)), .val (.int (1 : Int32)), .val (.ref b4), .val (.ref sA), .unset, .unset, .unset, .unset, .unset, .unset, .unset, .unset] [(.ref b37)])
    have lt_dB := natlt SB.2.2.2.lt
    have gd_B := natle gB
    refine s_goto W39 at_178 (by decide) (pc' := 188) (by decide) ?_
    refine s_astore W39 at_188 rfl (l' := #[.val (.int pa), .val (.int pb), .val (.int px), .val (.int pd), .val (.int pe), .val (.ref b1), .val (.int cn), .val (.int cp), .val (.int (0 : Int32)), .val (.int (1 : Int32)), .val (.ref b4), .val (.ref sA), .val (.ref b37), .unset, .unset, .unset, .unset, .unset, .unset, .unset]) rfl (pc' := 190) rfl ?_
    refine s_iloadN W39 at_190 rfl (pc' := 191) rfl ?_
    refine s_ldcI W39 (w_27 hw) at_191 (pc' := 193) rfl ?_
    refine s_iand W39 at_193 (pc' := 194) rfl ?_
    refine s_istore W39 at_194 (l' := #[.val (.int pa), .val (.int pb), .val (.int px), .val (.int pd), .val (.int pe), .val (.ref b1), .val (.int cn), .val (.int cp), .val (.int (0 : Int32)), .val (.int (1 : Int32)), .val (.ref b4), .val (.ref sA), .val (.ref b37), .val (.int (px &&& (2147483647 : Int32))), .unset, .unset, .unset, .unset, .unset, .unset]) rfl (pc' := 196) rfl ?_
    refine s_iload W39 at_196 rfl (pc' := 198) rfl ?_
    suffices t210 : ∀ ab : Int32, 0 ≤ ab.toInt → Go p e below (Po s Z EL0 n0 true room_1.cells room_1.slots (Q_law Z n0 pa pb px pd pe ccs h0)) T39 (mkF m 210 #[.val (.int pa), .val (.int pb), .val (.int px), .val (.int pd), .val (.int pe), .val (.ref b1), .val (.int cn), .val (.int cp), .val (.int (0 : Int32)), .val (.int (1 : Int32)), .val (.ref b4), .val (.ref sA), .val (.ref b37), .val (.int (px &&& (2147483647 : Int32))), .unset, .unset, .unset, .unset, .unset, .unset] [(.int ab)]) by
      refine s_ifeq W39 at_198 (by decide) (pc1 := 206) (by decide) (pc2 := 201) rfl ?_ ?_
      · intro q198
        refine s_iloadN W39 at_206 rfl (pc' := 207) rfl ?_
        refine s_ldcI W39 (w_27 hw) at_207 (pc' := 209) rfl ?_
        refine s_iand W39 at_209 (pc' := 210) rfl ?_
        exact t210 (pd &&& (2147483647 : Int32)) (and_nonneg _)
      · intro q198
        refine s_iload W39 at_201 rfl (pc' := 203) rfl ?_
        refine s_goto W39 at_203 (by decide) (pc' := 210) (by decide) ?_
        exact t210 (px &&& (2147483647 : Int32)) (and_nonneg _)
    intro ab h_ab
    refine s_istore W39 at_210 (l' := #[.val (.int pa), .val (.int pb), .val (.int px), .val (.int pd), .val (.int pe), .val (.ref b1), .val (.int cn), .val (.int cp), .val (.int (0 : Int32)), .val (.int (1 : Int32)), .val (.ref b4), .val (.ref sA), .val (.ref b37), .val (.int (px &&& (2147483647 : Int32))), .val (.int ab), .unset, .unset, .unset, .unset, .unset]) rfl (pc' := 212) rfl ?_
    refine gNew W39 (w_28 hw) (w_29 hw) (w_30 hw) at_212 (pc' := 215) rfl (by decide) (by decide) ?_
    intro T40 h40 b40 g40 W40 E40 ⟨A40, D40, U40⟩
    have z40 : h39.size ≤ h40.size := E40.1
    have lt_b40 := natlt A40.lt
    have gg40 := nateq g40
    have n0_b40 : n0 ≤ b40 := by have := W39.n0le; omega
    have F40_name : Fld Z h40 b40 "com/example/tame_chase/tamechase/Predicate" "name" "Ljava/lang/String;" .null := D40 (Or.inr (w_49 hw)) (ty := (.object "java/lang/String")) (by decide)
    have F40_arity : Fld Z h40 b40 "com/example/tame_chase/tamechase/Predicate" "arity" "I" (.int (0 : Int32)) := D40 (Or.inr (w_51 hw)) (ty := .int) (by decide)
    refine s_dup W40 at_215 rfl (pc' := 216) rfl ?_
    refine s_aload W40 at_216 rfl rfl (pc' := 218) rfl ?_
    refine s_iload W40 at_218 rfl (pc' := 220) rfl ?_
    have fx41 := (((SA.ext E37).keep KB (ninS (ane (by omega)) nin0) (ninS (ane (by omega)) nin0)).ext E40)
    refine gSpecial W40 rfl (w_31 hw) (w_32 hw) (w_30 hw) (w_33 hw) (by decide) pd_16 (ct_pinit hw hEL [] b40 sA dA kA (encC [(nar .char pa.toUInt32.toUInt16.toUInt32.toInt32)]) zzA (px &&& (2147483647 : Int32)) _ h40 fx41 (fun q' => by have e1 := lA; rw [q', zero32] at e1; have := encB_ne (cs := [(nar .char pa.toUInt32.toUInt16.toUInt32.toInt32)]) (by simp); omega) (and_nonneg _) A40 F40_name F40_arity n0_b40) (fun x hx => by rcases List.mem_singleton.mp hx with rfl; exact List.mem_of_getElem? (i := 0) rfl) at_220 (pc' := 223) rfl rfl (argsL := [(.ref sA), (.int (px &&& (2147483647 : Int32)))]) rfl rfl (rest := [(.ref b40)]) rfl (wt := 1) (Nat.le_of_eq rfl) (by decide) (by decide) (by decide) (by decide) ?_
    rintro v42 T42 h42 W42 z42 ⟨rfl, KPA, EPA, NPA, APA⟩
    show Go p e below _ T42 (mkF m 223 #[.val (.int pa), .val (.int pb), .val (.int px), .val (.int pd), .val (.int pe), .val (.ref b1), .val (.int cn), .val (.int cp), .val (.int (0 : Int32)), .val (.int (1 : Int32)), .val (.ref b4), .val (.ref sA), .val (.ref b37), .val (.int (px &&& (2147483647 : Int32))), .val (.int ab), .unset, .unset, .unset, .unset, .unset] [(.ref b40)])
    refine s_astore W42 at_223 rfl (l' := #[.val (.int pa), .val (.int pb), .val (.int px), .val (.int pd), .val (.int pe), .val (.ref b1), .val (.int cn), .val (.int cp), .val (.int (0 : Int32)), .val (.int (1 : Int32)), .val (.ref b4), .val (.ref sA), .val (.ref b37), .val (.int (px &&& (2147483647 : Int32))), .val (.int ab), .val (.ref b40), .unset, .unset, .unset, .unset]) rfl (pc' := 225) rfl ?_
    refine gNew W42 (w_28 hw) (w_29 hw) (w_30 hw) at_225 (pc' := 228) rfl (by decide) (by decide) ?_
    intro T43 h43 b43 g43 W43 E43 ⟨A43, D43, U43⟩
    have z43 : h42.size ≤ h43.size := E43.1
    have lt_b43 := natlt A43.lt
    have gg43 := nateq g43
    have n0_b43 : n0 ≤ b43 := by have := W42.n0le; omega
    have F43_name : Fld Z h43 b43 "com/example/tame_chase/tamechase/Predicate" "name" "Ljava/lang/String;" .null := D43 (Or.inr (w_49 hw)) (ty := (.object "java/lang/String")) (by decide)
    have F43_arity : Fld Z h43 b43 "com/example/tame_chase/tamechase/Predicate" "arity" "I" (.int (0 : Int32)) := D43 (Or.inr (w_51 hw)) (ty := .int) (by decide)
    refine s_dup W43 at_228 rfl (pc' := 229) rfl ?_
    refine s_aload W43 at_229 rfl rfl (pc' := 231) rfl ?_
    refine s_iload W43 at_231 rfl (pc' := 233) rfl ?_
    have fx44 := (((SB.ext E40).keep KPA (ninS (ane (by omega)) nin0) (ninS (ane (by omega)) nin0)).ext E43)
    refine gSpecial W43 rfl (w_31 hw) (w_32 hw) (w_30 hw) (w_33 hw) (by decide) pd_16 (ct_pinit hw hEL [] b43 b37 dB kB (encC [(nar .char x0), (nar .char x1)]) zzB ab _ h43 fx44 (fun q' => by have e1 := lB; rw [q', zero32] at e1; have := encB_ne (cs := [(nar .char x0), (nar .char x1)]) (by simp); omega) h_ab A43 F43_name F43_arity n0_b43) (fun x hx => by rcases List.mem_singleton.mp hx with rfl; exact List.mem_of_getElem? (i := 0) rfl) at_233 (pc' := 236) rfl rfl (argsL := [(.ref b37), (.int ab)]) rfl rfl (rest := [(.ref b43)]) rfl (wt := 1) (Nat.le_of_eq rfl) (by decide) (by decide) (by decide) (by decide) ?_
    rintro v45 T45 h45 W45 z45 ⟨rfl, KPB, EPB, NPB, APB⟩
    show Go p e below _ T45 (mkF m 236 #[.val (.int pa), .val (.int pb), .val (.int px), .val (.int pd), .val (.int pe), .val (.ref b1), .val (.int cn), .val (.int cp), .val (.int (0 : Int32)), .val (.int (1 : Int32)), .val (.ref b4), .val (.ref sA), .val (.ref b37), .val (.int (px &&& (2147483647 : Int32))), .val (.int ab), .val (.ref b40), .unset, .unset, .unset, .unset] [(.ref b43)])
    refine s_astore W45 at_236 rfl (l' := #[.val (.int pa), .val (.int pb), .val (.int px), .val (.int pd), .val (.int pe), .val (.ref b1), .val (.int cn), .val (.int cp), .val (.int (0 : Int32)), .val (.int (1 : Int32)), .val (.ref b4), .val (.ref sA), .val (.ref b37), .val (.int (px &&& (2147483647 : Int32))), .val (.int ab), .val (.ref b40), .val (.ref b43), .unset, .unset, .unset]) rfl (pc' := 238) rfl ?_
    refine s_iload W45 at_238 rfl (pc' := 240) rfl ?_
    refine s_iconst W45 at_240 (v := (3 : Int32)) (by decide) (pc' := 241) rfl ?_
    refine s_iand W45 at_241 (pc' := 242) rfl ?_
    refine s_istore W45 at_242 (l' := #[.val (.int pa), .val (.int pb), .val (.int px), .val (.int pd), .val (.int pe), .val (.ref b1), .val (.int cn), .val (.int cp), .val (.int (0 : Int32)), .val (.int (1 : Int32)), .val (.ref b4), .val (.ref sA), .val (.ref b37), .val (.int (px &&& (2147483647 : Int32))), .val (.int ab), .val (.ref b40), .val (.ref b43), .val (.int (pe &&& (3 : Int32))), .unset, .unset]) rfl (pc' := 244) rfl ?_
    refine s_iload W45 at_244 rfl (pc' := 246) rfl ?_
    refine s_iconst W45 at_246 (v := (1 : Int32)) (by decide) (pc' := 247) rfl ?_
    refine s_icmpne W45 at_247 (by decide) (pc1 := 258) (by decide) (pc2 := 250) rfl ?_ ?_
    · intro q247
      refine s_iload W45 at_258 rfl (pc' := 260) rfl ?_
      refine s_iconst W45 at_260 (v := (2 : Int32)) (by decide) (pc' := 261) rfl ?_
      refine s_icmpne W45 at_261 (by decide) (pc1 := 279) (by decide) (pc2 := 264) rfl ?_ ?_
      · intro q261
        refine s_iload W45 at_279 rfl (pc' := 281) rfl ?_
        refine s_iconst W45 at_281 (v := (3 : Int32)) (by decide) (pc' := 282) rfl ?_
        refine s_icmpne W45 at_282 (by decide) (pc1 := 301) (by decide) (pc2 := 285) rfl ?_ ?_
        · intro q282
          refine s_iload W45 at_301 rfl (pc' := 303) rfl ?_
          refine s_iload W45 at_303 rfl (pc' := 305) rfl ?_
          suffices t340 : ∀ sn : Int32, sn = (if [(nar .char pa.toUInt32.toUInt16.toUInt32.toInt32)] = [(nar .char x0), (nar .char x1)] then 1 else 0) → Go p e below (Po s Z EL0 n0 true room_1.cells room_1.slots (Q_law Z n0 pa pb px pd pe ccs h0)) T45 (mkF m 340 #[.val (.int pa), .val (.int pb), .val (.int px), .val (.int pd), .val (.int pe), .val (.ref b1), .val (.int cn), .val (.int cp), .val (.int (0 : Int32)), .val (.int (1 : Int32)), .val (.ref b4), .val (.ref sA), .val (.ref b37), .val (.int (px &&& (2147483647 : Int32))), .val (.int ab), .val (.ref b40), .val (.ref b43), .val (.int (pe &&& (3 : Int32))), .unset, .unset] [(.int sn)]) by
            refine s_icmpne W45 at_305 (by decide) (pc1 := 339) (by decide) (pc2 := 308) rfl ?_ (fun q => absurd q (by decide))
            intro q305
            refine s_iconst W45 at_339 (v := (0 : Int32)) (by decide) (pc' := 340) rfl ?_
            exact t340 (0 : Int32) (by rw [if_neg (by simp)])
          intro sn h_sn
          refine s_istore W45 at_340 (l' := #[.val (.int pa), .val (.int pb), .val (.int px), .val (.int pd), .val (.int pe), .val (.ref b1), .val (.int cn), .val (.int cp), .val (.int (0 : Int32)), .val (.int (1 : Int32)), .val (.ref b4), .val (.ref sA), .val (.ref b37), .val (.int (px &&& (2147483647 : Int32))), .val (.int ab), .val (.ref b40), .val (.ref b43), .val (.int (pe &&& (3 : Int32))), .val (.int sn), .unset]) rfl (pc' := 342) rfl ?_
          refine s_iload W45 at_342 rfl (pc' := 344) rfl ?_
          refine s_iload W45 at_344 rfl (pc' := 346) rfl ?_
          suffices t359 : ∀ ex : Int32, ex = (if (px &&& (2147483647 : Int32)) = ab ∧ [(nar .char pa.toUInt32.toUInt16.toUInt32.toInt32)] = [(nar .char x0), (nar .char x1)] then 1 else 0) → Go p e below (Po s Z EL0 n0 true room_1.cells room_1.slots (Q_law Z n0 pa pb px pd pe ccs h0)) T45 (mkF m 359 #[.val (.int pa), .val (.int pb), .val (.int px), .val (.int pd), .val (.int pe), .val (.ref b1), .val (.int cn), .val (.int cp), .val (.int (0 : Int32)), .val (.int (1 : Int32)), .val (.ref b4), .val (.ref sA), .val (.ref b37), .val (.int (px &&& (2147483647 : Int32))), .val (.int ab), .val (.ref b40), .val (.ref b43), .val (.int (pe &&& (3 : Int32))), .val (.int sn), .unset] [(.int ex)]) by
            refine s_icmpne W45 at_346 (by decide) (pc1 := 358) (by decide) (pc2 := 349) rfl ?_ ?_
            · intro q346
              refine s_iconst W45 at_358 (v := (0 : Int32)) (by decide) (pc' := 359) rfl ?_
              exact t359 (0 : Int32) (by rw [if_neg (fun r => q346 r.1)])
            · intro q346
              refine s_iload W45 at_349 rfl (pc' := 351) rfl ?_
              refine s_ifeq W45 at_351 (by decide) (pc1 := 358) (by decide) (pc2 := 354) rfl ?_ ?_
              · intro q351
                refine s_iconst W45 at_358 (v := (0 : Int32)) (by decide) (pc' := 359) rfl ?_
                exact t359 (0 : Int32) (by rw [if_neg (fun r => by rw [if_pos r.2] at h_sn; rw [h_sn] at q351; exact absurd q351 (by decide))])
              · intro q351
                refine s_iconst W45 at_354 (v := (1 : Int32)) (by decide) (pc' := 355) rfl ?_
                refine s_goto W45 at_355 (by decide) (pc' := 359) (by decide) ?_
                exact t359 (1 : Int32) (by rw [if_pos ⟨q346, Classical.byContradiction fun e => by rw [if_neg e] at h_sn; exact q351 h_sn⟩])
          intro ex h_ex
          refine s_istore W45 at_359 (l' := #[.val (.int pa), .val (.int pb), .val (.int px), .val (.int pd), .val (.int pe), .val (.ref b1), .val (.int cn), .val (.int cp), .val (.int (0 : Int32)), .val (.int (1 : Int32)), .val (.ref b4), .val (.ref sA), .val (.ref b37), .val (.int (px &&& (2147483647 : Int32))), .val (.int ab), .val (.ref b40), .val (.ref b43), .val (.int (pe &&& (3 : Int32))), .val (.int sn), .val (.int ex)]) rfl (pc' := 361) rfl ?_
          refine s_aload W45 at_361 rfl rfl (pc' := 363) rfl ?_
          refine s_aload W45 at_363 rfl rfl (pc' := 365) rfl ?_
          have fx46 := ((NPA.ext E43).keep KPB (ninS (ane (by omega)) nin0))
          have fx47 := ((APA.ext E43).keep KPB (ninS (ane (by omega)) nin0))
          have fx48 := (((fx41.keep KPA (ninS (ane (by omega)) nin0) (ninS (ane (by omega)) nin0)).ext E43).keep KPB (ninS (ane (by omega)) nin0) (ninS (ane (by omega)) nin0))
          have fx49 := (fx44.keep KPB (ninS (ane (by omega)) nin0) (ninS (ane (by omega)) nin0))
          have fx51 := ((EPA.ext E43).keep KPB)
          refine gVirtual W45 fx51 (w_52 hw) (w_53 hw) (fun s hZ => notFace_of_selects (args := #[]) (mv hZ (w_55 hw))) (w_55 hw) (w_54 hw) (w_30 hw) (w_56 hw) (by decide) pd_14 (ct_peqX hw hEL [] b40 b43 sA b37 dA dB kA kB zzA zzB (px &&& (2147483647 : Int32)) ab ccs [(nar .char pa.toUInt32.toUInt16.toUInt32.toInt32)] [(nar .char x0), (nar .char x1)] h45 (ane (by omega)) EPB fx46 fx47 lA fx48 (by intro c hc; simp only [List.mem_cons, List.not_mem_nil, or_false] at hc; rcases hc with rfl <;> exact wide_of _) NPB APB lB fx49 (by intro c hc; simp only [List.mem_cons, List.not_mem_nil, or_false] at hc; rcases hc with rfl | rfl <;> exact wide_of _) SCS hccs) (by simp) at_365 (pc' := 368) rfl rfl (argsL := [(.ref b43)]) rfl rfl (rest := []) rfl (wt := 0) (Nat.le_of_eq rfl) (by decide) (by decide) (by decide) (by decide) ?_
          rintro v50 T50 h50 W50 z50 ⟨rfl, rfl⟩
          rw [← h_ex]
          show Go p e below _ T50 (mkF m 368 #[.val (.int pa), .val (.int pb), .val (.int px), .val (.int pd), .val (.int pe), .val (.ref b1), .val (.int cn), .val (.int cp), .val (.int (0 : Int32)), .val (.int (1 : Int32)), .val (.ref b4), .val (.ref sA), .val (.ref b37), .val (.int (px &&& (2147483647 : Int32))), .val (.int ab), .val (.ref b40), .val (.ref b43), .val (.int (pe &&& (3 : Int32))), .val (.int sn), .val (.int ex)] [(.int ex)])
          refine s_iload W50 at_368 rfl (pc' := 370) rfl ?_
          refine s_icmpne W50 at_370 (by decide) (pc1 := 389) (by decide) (pc2 := 373) rfl (fun q => (q rfl).elim) ?_
          intro q370
          refine s_aload W50 at_373 rfl rfl (pc' := 375) rfl ?_
          refine s_aload W50 at_375 rfl rfl (pc' := 377) rfl ?_
          refine gVirtual W50 EPB (w_52 hw) (w_53 hw) (fun s hZ => notFace_of_selects (args := #[]) (mv hZ (w_55 hw))) (w_55 hw) (w_54 hw) (w_30 hw) (w_56 hw) (by decide) pd_14 (ct_peqX hw hEL [] b43 b40 b37 sA dB dA kB kA zzB zzA ab (px &&& (2147483647 : Int32)) ccs [(nar .char x0), (nar .char x1)] [(nar .char pa.toUInt32.toUInt16.toUInt32.toInt32)] h45 (ane (by omega)) fx51 NPB APB lB fx49 (by intro c hc; simp only [List.mem_cons, List.not_mem_nil, or_false] at hc; rcases hc with rfl | rfl <;> exact wide_of _) fx46 fx47 lA fx48 (by intro c hc; simp only [List.mem_cons, List.not_mem_nil, or_false] at hc; rcases hc with rfl <;> exact wide_of _) SCS hccs) (by simp) at_377 (pc' := 380) rfl rfl (argsL := [(.ref b40)]) rfl rfl (rest := []) rfl (wt := 0) (Nat.le_of_eq rfl) (by decide) (by decide) (by decide) (by decide) ?_
          rintro v52 T52 h52 W52 z52 ⟨rfl, rfl⟩
          have hsym : (if ab = (px &&& (2147483647 : Int32)) ∧ [(nar .char x0), (nar .char x1)] = [(nar .char pa.toUInt32.toUInt16.toUInt32.toInt32)] then (1 : Int32) else 0) = (if (px &&& (2147483647 : Int32)) = ab ∧ [(nar .char pa.toUInt32.toUInt16.toUInt32.toInt32)] = [(nar .char x0), (nar .char x1)] then 1 else 0) := by simp only [eq_comm]
          rw [hsym, ← h_ex]
          show Go p e below _ T52 (mkF m 380 #[.val (.int pa), .val (.int pb), .val (.int px), .val (.int pd), .val (.int pe), .val (.ref b1), .val (.int cn), .val (.int cp), .val (.int (0 : Int32)), .val (.int (1 : Int32)), .val (.ref b4), .val (.ref sA), .val (.ref b37), .val (.int (px &&& (2147483647 : Int32))), .val (.int ab), .val (.ref b40), .val (.ref b43), .val (.int (pe &&& (3 : Int32))), .val (.int sn), .val (.int ex)] [(.int ex)])
          refine s_iload W52 at_380 rfl (pc' := 382) rfl ?_
          refine s_icmpne W52 at_382 (by decide) (pc1 := 389) (by decide) (pc2 := 385) rfl (fun q => (q rfl).elim) ?_
          intro q382
          refine s_iconst W52 at_385 (v := (1 : Int32)) (by decide) (pc' := 386) rfl ?_
          refine s_goto W52 at_386 (by decide) (pc' := 390) (by decide) ?_
          exact gRetN W52 hret (by simp) at_390 (by decide) (by decide) rfl
        · intro q282
          refine s_aload W45 at_285 rfl rfl (pc' := 287) rfl ?_
          refine s_aload W45 at_287 rfl rfl (pc' := 289) rfl ?_
          have fx53 := (((fx41.keep KPA (ninS (ane (by omega)) nin0) (ninS (ane (by omega)) nin0)).ext E43).keep KPB (ninS (ane (by omega)) nin0) (ninS (ane (by omega)) nin0))
          have fx55 := ((EPA.ext E43).keep KPB)
          refine gVirtual W45 fx55 (w_52 hw) (w_53 hw) (fun s hZ => notFace_of_selects (args := #[]) (mv hZ (w_55 hw))) (w_55 hw) (w_54 hw) (w_30 hw) (w_56 hw) (by decide) pd_14 (ct_peqS hw hEL [] b40 sA h45 fx53.1 (ane (by omega))) (by simp) at_289 (pc' := 292) rfl rfl (argsL := [(.ref sA)]) rfl rfl (rest := []) rfl (wt := 0) (Nat.le_of_eq rfl) (by decide) (by decide) (by decide) (by decide) ?_
          rintro v54 T54 h54 W54 z54 ⟨rfl, rfl⟩
          show Go p e below _ T54 (mkF m 292 #[.val (.int pa), .val (.int pb), .val (.int px), .val (.int pd), .val (.int pe), .val (.ref b1), .val (.int cn), .val (.int cp), .val (.int (0 : Int32)), .val (.int (1 : Int32)), .val (.ref b4), .val (.ref sA), .val (.ref b37), .val (.int (px &&& (2147483647 : Int32))), .val (.int ab), .val (.ref b40), .val (.ref b43), .val (.int (pe &&& (3 : Int32))), .unset, .unset] [(.int (0 : Int32))])
          refine s_ifne W54 at_292 (by decide) (pc1 := 299) (by decide) (pc2 := 295) rfl (fun q => absurd q (by decide)) ?_
          intro q292
          refine s_iconst W54 at_295 (v := (1 : Int32)) (by decide) (pc' := 296) rfl ?_
          refine s_goto W54 at_296 (by decide) (pc' := 300) (by decide) ?_
          exact gRetN W54 hret (by simp) at_300 (by decide) (by decide) rfl
      · intro q261
        refine s_aload W45 at_264 rfl rfl (pc' := 266) rfl ?_
        refine s_aconst_null W45 at_266 (pc' := 267) rfl ?_
        have fx57 := ((EPA.ext E43).keep KPB)
        refine gVirtual W45 fx57 (w_52 hw) (w_53 hw) (fun s hZ => notFace_of_selects (args := #[]) (mv hZ (w_55 hw))) (w_55 hw) (w_54 hw) (w_30 hw) (w_56 hw) (by decide) pd_14 (ct_peqN hw hEL [] b40 h45) (by simp) at_267 (pc' := 270) rfl rfl (argsL := [.null]) rfl rfl (rest := []) rfl (wt := 0) (Nat.le_of_eq rfl) (by decide) (by decide) (by decide) (by decide) ?_
        rintro v56 T56 h56 W56 z56 ⟨rfl, rfl⟩
        show Go p e below _ T56 (mkF m 270 #[.val (.int pa), .val (.int pb), .val (.int px), .val (.int pd), .val (.int pe), .val (.ref b1), .val (.int cn), .val (.int cp), .val (.int (0 : Int32)), .val (.int (1 : Int32)), .val (.ref b4), .val (.ref sA), .val (.ref b37), .val (.int (px &&& (2147483647 : Int32))), .val (.int ab), .val (.ref b40), .val (.ref b43), .val (.int (pe &&& (3 : Int32))), .unset, .unset] [(.int (0 : Int32))])
        refine s_ifne W56 at_270 (by decide) (pc1 := 277) (by decide) (pc2 := 273) rfl (fun q => absurd q (by decide)) ?_
        intro q270
        refine s_iconst W56 at_273 (v := (1 : Int32)) (by decide) (pc' := 274) rfl ?_
        refine s_goto W56 at_274 (by decide) (pc' := 278) (by decide) ?_
        exact gRetN W56 hret (by simp) at_278 (by decide) (by decide) rfl
    · intro q247
      refine s_aload W45 at_250 rfl rfl (pc' := 252) rfl ?_
      refine s_aload W45 at_252 rfl rfl (pc' := 254) rfl ?_
      have fx59 := ((EPA.ext E43).keep KPB)
      refine gVirtual W45 fx59 (w_52 hw) (w_53 hw) (fun s hZ => notFace_of_selects (args := #[]) (mv hZ (w_55 hw))) (w_55 hw) (w_54 hw) (w_30 hw) (w_56 hw) (by decide) pd_14 (ct_peqI hw hEL [] b40 h45) (by simp) at_254 (pc' := 257) rfl rfl (argsL := [(.ref b40)]) rfl rfl (rest := []) rfl (wt := 0) (Nat.le_of_eq rfl) (by decide) (by decide) (by decide) (by decide) ?_
      rintro v58 T58 h58 W58 z58 ⟨rfl, rfl⟩
      show Go p e below _ T58 (mkF m 257 #[.val (.int pa), .val (.int pb), .val (.int px), .val (.int pd), .val (.int pe), .val (.ref b1), .val (.int cn), .val (.int cp), .val (.int (0 : Int32)), .val (.int (1 : Int32)), .val (.ref b4), .val (.ref sA), .val (.ref b37), .val (.int (px &&& (2147483647 : Int32))), .val (.int ab), .val (.ref b40), .val (.ref b43), .val (.int (pe &&& (3 : Int32))), .unset, .unset] [(.int (1 : Int32))])
      exact gRetN W58 hret (by simp) at_257 (by decide) (by decide) rfl
  · show Go p e below _ T8 (mkF m 138 #[.val (.int pa), .val (.int pb), .val (.int px), .val (.int pd), .val (.int pe), .val (.ref b1), .val (.int cn), .val (.int cp), .val (.int (1 : Int32)), .val (.int (0 : Int32)), .val (.ref b4), .unset, .unset, .unset, .unset, .unset, .unset, .unset, .unset, .unset] [])
    refine s_iload W8 at_138 rfl (pc' := 140) rfl ?_
    refine s_ifeq W8 at_140 (by decide) (pc1 := 155) (by decide) (pc2 := 143) rfl (fun q => absurd q (by decide)) ?_
    intro q140
    refine gNew W8 (w_61 hw) (w_11 hw) (w_3 hw) at_143 (pc' := 146) rfl (by decide) (by decide) ?_
    intro T60 h60 b60 g60 W60 E60 ⟨A60, D60, U60⟩
    have z60 : h8.size ≤ h60.size := E60.1
    have lt_b60 := natlt A60.lt
    have gg60 := nateq g60
    have n0_b60 : n0 ≤ b60 := by have := W8.n0le; omega
    have F60_value : Fld Z h60 b60 "java/lang/String" "value" "[B" .null := D60 (Or.inr (w_24 hw)) (ty := (.array .byte)) (by decide)
    have F60_coder : Fld Z h60 b60 "java/lang/String" "coder" "B" (.int (0 : Int32)) := D60 (Or.inr (w_26 hw)) (ty := .byte) (by decide)
    refine s_dup W60 at_146 rfl (pc' := 147) rfl ?_
    refine s_aload W60 at_147 rfl rfl (pc' := 149) rfl ?_
    have fx61 := ((((V3.ext E4).keep K6 (ninS (ane (by omega)) nin0)).keep K8 (ninS (ane (by omega)) nin0)).ext E60)
    refine gSpecial W60 rfl (w_62 hw) (w_63 hw) (w_3 hw) (w_64 hw) (by decide) pd_17 (ct_str1g hw hEL [] b60 b1 k1 (2 : Int32) ccs [(nar .char pa.toUInt32.toUInt16.toUInt32.toInt32), (nar .char ((pa.toUInt32 >>> ((16 : Int32) &&& 31).toUInt32).toInt32).toUInt32.toUInt16.toUInt32.toInt32)] h60 (show (2 : Int32).toInt = ((2 : Nat) : Int) by decide) (show 2 ≤ 2 by decide) (by intro c hc; simp only [List.mem_cons, List.not_mem_nil, or_false] at hc; rcases hc with rfl | rfl <;> exact wide_of _) fx61 A60 F60_value F60_coder n0_b60 SCS hccs (by simp) SAD SHI SLO) (fun x hx => by rcases List.mem_singleton.mp hx with rfl; exact List.mem_of_getElem? (i := 0) rfl) at_149 (pc' := 152) rfl rfl (argsL := [(.ref b1)]) rfl rfl (rest := [(.ref b60)]) rfl (wt := 1) (Nat.le_of_eq rfl) (by decide) (by decide) (by decide) (by decide) ?_
    rintro v62 T62 h62 W62 z62 ⟨rfl, KA, dA, kA, zzA, SA, lA, gA⟩
    show Go p e below _ T62 (mkF m 152 #[.val (.int pa), .val (.int pb), .val (.int px), .val (.int pd), .val (.int pe), .val (.ref b1), .val (.int cn), .val (.int cp), .val (.int (1 : Int32)), .val (.int (0 : Int32)), .val (.ref b4), .unset, .unset, .unset, .unset, .unset, .unset, .unset, .unset, .unset] [(.ref b60)])
    have lt_dA := natlt SA.2.2.2.lt
    have gd_A := natle gA
    refine s_goto W62 at_152 (by decide) (pc' := 162) (by decide) ?_
    refine s_astore W62 at_162 rfl (l' := #[.val (.int pa), .val (.int pb), .val (.int px), .val (.int pd), .val (.int pe), .val (.ref b1), .val (.int cn), .val (.int cp), .val (.int (1 : Int32)), .val (.int (0 : Int32)), .val (.ref b4), .val (.ref b60), .unset, .unset, .unset, .unset, .unset, .unset, .unset, .unset]) rfl (pc' := 164) rfl ?_
    refine s_iload W62 at_164 rfl (pc' := 166) rfl ?_
    refine s_ifeq W62 at_166 (by decide) (pc1 := 181) (by decide) (pc2 := 169) rfl ?_ (fun q => absurd q (by decide))
    intro q166
    refine s_aload W62 at_181 rfl rfl (pc' := 183) rfl ?_
    refine s_iconst W62 at_183 (v := (0 : Int32)) (by decide) (pc' := 184) rfl ?_
    have fx63 := ((V8.ext E60).keep KA (ninS (ane (by omega)) nin0))
    refine gLdC W62 fx63 ⟨by decide, by decide⟩ (v := (.int (nar .char x0))) rfl at_184 (pc' := 185) rfl ?_
    refine gStatic W62 (w_1 hw) (w_2 hw) (w_3 hw) (w_4 hw) (by decide) pd_15 (ct_vofc hw hEL [] (nar .char x0) ccs h62 SCS hccs SAD SHI SLO) (by simp) at_185 (pc' := 188) rfl rfl (argsL := [(.int (nar .char x0))]) rfl rfl (rest := []) rfl (wt := 0) (Nat.le_of_eq rfl) (by decide) (by decide) (by decide) (by decide) ?_
    rintro v64 T64 h64 W64 z64 ⟨sB, dB, kB, zzB, rfl, KB, gsB, SB, lB, gB⟩
    have lt_dB := natlt SB.2.2.2.lt
    have lt_sB := natlt SB.1.lt
    have gd_B := natle gB
    have gs_B := natle gsB
    show Go p e below _ T64 (mkF m 188 #[.val (.int pa), .val (.int pb), .val (.int px), .val (.int pd), .val (.int pe), .val (.ref b1), .val (.int cn), .val (.int cp), .val (.int (1 : Int32)), .val (.int (0 : Int32)), .val (.ref b4), .val (.ref b60), .unset, .unset, .unset, .unset, .unset, .unset, .unset, .unset] [(.ref sB)])
    refine s_astore W64 at_188 rfl (l' := #[.val (.int pa), .val (.int pb), .val (.int px), .val (.int pd), .val (.int pe), .val (.ref b1), .val (.int cn), .val (.int cp), .val (.int (1 : Int32)), .val (.int (0 : Int32)), .val (.ref b4), .val (.ref b60), .val (.ref sB), .unset, .unset, .unset, .unset, .unset, .unset, .unset]) rfl (pc' := 190) rfl ?_
    refine s_iloadN W64 at_190 rfl (pc' := 191) rfl ?_
    refine s_ldcI W64 (w_27 hw) at_191 (pc' := 193) rfl ?_
    refine s_iand W64 at_193 (pc' := 194) rfl ?_
    refine s_istore W64 at_194 (l' := #[.val (.int pa), .val (.int pb), .val (.int px), .val (.int pd), .val (.int pe), .val (.ref b1), .val (.int cn), .val (.int cp), .val (.int (1 : Int32)), .val (.int (0 : Int32)), .val (.ref b4), .val (.ref b60), .val (.ref sB), .val (.int (px &&& (2147483647 : Int32))), .unset, .unset, .unset, .unset, .unset, .unset]) rfl (pc' := 196) rfl ?_
    refine s_iload W64 at_196 rfl (pc' := 198) rfl ?_
    suffices t210 : ∀ ab : Int32, 0 ≤ ab.toInt → Go p e below (Po s Z EL0 n0 true room_1.cells room_1.slots (Q_law Z n0 pa pb px pd pe ccs h0)) T64 (mkF m 210 #[.val (.int pa), .val (.int pb), .val (.int px), .val (.int pd), .val (.int pe), .val (.ref b1), .val (.int cn), .val (.int cp), .val (.int (1 : Int32)), .val (.int (0 : Int32)), .val (.ref b4), .val (.ref b60), .val (.ref sB), .val (.int (px &&& (2147483647 : Int32))), .unset, .unset, .unset, .unset, .unset, .unset] [(.int ab)]) by
      refine s_ifeq W64 at_198 (by decide) (pc1 := 206) (by decide) (pc2 := 201) rfl ?_ ?_
      · intro q198
        refine s_iloadN W64 at_206 rfl (pc' := 207) rfl ?_
        refine s_ldcI W64 (w_27 hw) at_207 (pc' := 209) rfl ?_
        refine s_iand W64 at_209 (pc' := 210) rfl ?_
        exact t210 (pd &&& (2147483647 : Int32)) (and_nonneg _)
      · intro q198
        refine s_iload W64 at_201 rfl (pc' := 203) rfl ?_
        refine s_goto W64 at_203 (by decide) (pc' := 210) (by decide) ?_
        exact t210 (px &&& (2147483647 : Int32)) (and_nonneg _)
    intro ab h_ab
    refine s_istore W64 at_210 (l' := #[.val (.int pa), .val (.int pb), .val (.int px), .val (.int pd), .val (.int pe), .val (.ref b1), .val (.int cn), .val (.int cp), .val (.int (1 : Int32)), .val (.int (0 : Int32)), .val (.ref b4), .val (.ref b60), .val (.ref sB), .val (.int (px &&& (2147483647 : Int32))), .val (.int ab), .unset, .unset, .unset, .unset, .unset]) rfl (pc' := 212) rfl ?_
    refine gNew W64 (w_28 hw) (w_29 hw) (w_30 hw) at_212 (pc' := 215) rfl (by decide) (by decide) ?_
    intro T65 h65 b65 g65 W65 E65 ⟨A65, D65, U65⟩
    have z65 : h64.size ≤ h65.size := E65.1
    have lt_b65 := natlt A65.lt
    have gg65 := nateq g65
    have n0_b65 : n0 ≤ b65 := by have := W64.n0le; omega
    have F65_name : Fld Z h65 b65 "com/example/tame_chase/tamechase/Predicate" "name" "Ljava/lang/String;" .null := D65 (Or.inr (w_49 hw)) (ty := (.object "java/lang/String")) (by decide)
    have F65_arity : Fld Z h65 b65 "com/example/tame_chase/tamechase/Predicate" "arity" "I" (.int (0 : Int32)) := D65 (Or.inr (w_51 hw)) (ty := .int) (by decide)
    refine s_dup W65 at_215 rfl (pc' := 216) rfl ?_
    refine s_aload W65 at_216 rfl rfl (pc' := 218) rfl ?_
    refine s_iload W65 at_218 rfl (pc' := 220) rfl ?_
    have fx66 := ((SA.keep KB nin0 nin0).ext E65)
    refine gSpecial W65 rfl (w_31 hw) (w_32 hw) (w_30 hw) (w_33 hw) (by decide) pd_16 (ct_pinit hw hEL [] b65 b60 dA kA (encC [(nar .char pa.toUInt32.toUInt16.toUInt32.toInt32), (nar .char ((pa.toUInt32 >>> ((16 : Int32) &&& 31).toUInt32).toInt32).toUInt32.toUInt16.toUInt32.toInt32)]) zzA (px &&& (2147483647 : Int32)) _ h65 fx66 (fun q' => by have e1 := lA; rw [q', zero32] at e1; have := encB_ne (cs := [(nar .char pa.toUInt32.toUInt16.toUInt32.toInt32), (nar .char ((pa.toUInt32 >>> ((16 : Int32) &&& 31).toUInt32).toInt32).toUInt32.toUInt16.toUInt32.toInt32)]) (by simp); omega) (and_nonneg _) A65 F65_name F65_arity n0_b65) (fun x hx => by rcases List.mem_singleton.mp hx with rfl; exact List.mem_of_getElem? (i := 0) rfl) at_220 (pc' := 223) rfl rfl (argsL := [(.ref b60), (.int (px &&& (2147483647 : Int32)))]) rfl rfl (rest := [(.ref b65)]) rfl (wt := 1) (Nat.le_of_eq rfl) (by decide) (by decide) (by decide) (by decide) ?_
    rintro v67 T67 h67 W67 z67 ⟨rfl, KPA, EPA, NPA, APA⟩
    show Go p e below _ T67 (mkF m 223 #[.val (.int pa), .val (.int pb), .val (.int px), .val (.int pd), .val (.int pe), .val (.ref b1), .val (.int cn), .val (.int cp), .val (.int (1 : Int32)), .val (.int (0 : Int32)), .val (.ref b4), .val (.ref b60), .val (.ref sB), .val (.int (px &&& (2147483647 : Int32))), .val (.int ab), .unset, .unset, .unset, .unset, .unset] [(.ref b65)])
    refine s_astore W67 at_223 rfl (l' := #[.val (.int pa), .val (.int pb), .val (.int px), .val (.int pd), .val (.int pe), .val (.ref b1), .val (.int cn), .val (.int cp), .val (.int (1 : Int32)), .val (.int (0 : Int32)), .val (.ref b4), .val (.ref b60), .val (.ref sB), .val (.int (px &&& (2147483647 : Int32))), .val (.int ab), .val (.ref b65), .unset, .unset, .unset, .unset]) rfl (pc' := 225) rfl ?_
    refine gNew W67 (w_28 hw) (w_29 hw) (w_30 hw) at_225 (pc' := 228) rfl (by decide) (by decide) ?_
    intro T68 h68 b68 g68 W68 E68 ⟨A68, D68, U68⟩
    have z68 : h67.size ≤ h68.size := E68.1
    have lt_b68 := natlt A68.lt
    have gg68 := nateq g68
    have n0_b68 : n0 ≤ b68 := by have := W67.n0le; omega
    have F68_name : Fld Z h68 b68 "com/example/tame_chase/tamechase/Predicate" "name" "Ljava/lang/String;" .null := D68 (Or.inr (w_49 hw)) (ty := (.object "java/lang/String")) (by decide)
    have F68_arity : Fld Z h68 b68 "com/example/tame_chase/tamechase/Predicate" "arity" "I" (.int (0 : Int32)) := D68 (Or.inr (w_51 hw)) (ty := .int) (by decide)
    refine s_dup W68 at_228 rfl (pc' := 229) rfl ?_
    refine s_aload W68 at_229 rfl rfl (pc' := 231) rfl ?_
    refine s_iload W68 at_231 rfl (pc' := 233) rfl ?_
    have fx69 := (((SB.ext E65).keep KPA (ninS (ane (by omega)) nin0) (ninS (ane (by omega)) nin0)).ext E68)
    refine gSpecial W68 rfl (w_31 hw) (w_32 hw) (w_30 hw) (w_33 hw) (by decide) pd_16 (ct_pinit hw hEL [] b68 sB dB kB (encC [(nar .char x0)]) zzB ab _ h68 fx69 (fun q' => by have e1 := lB; rw [q', zero32] at e1; have := encB_ne (cs := [(nar .char x0)]) (by simp); omega) h_ab A68 F68_name F68_arity n0_b68) (fun x hx => by rcases List.mem_singleton.mp hx with rfl; exact List.mem_of_getElem? (i := 0) rfl) at_233 (pc' := 236) rfl rfl (argsL := [(.ref sB), (.int ab)]) rfl rfl (rest := [(.ref b68)]) rfl (wt := 1) (Nat.le_of_eq rfl) (by decide) (by decide) (by decide) (by decide) ?_
    rintro v70 T70 h70 W70 z70 ⟨rfl, KPB, EPB, NPB, APB⟩
    show Go p e below _ T70 (mkF m 236 #[.val (.int pa), .val (.int pb), .val (.int px), .val (.int pd), .val (.int pe), .val (.ref b1), .val (.int cn), .val (.int cp), .val (.int (1 : Int32)), .val (.int (0 : Int32)), .val (.ref b4), .val (.ref b60), .val (.ref sB), .val (.int (px &&& (2147483647 : Int32))), .val (.int ab), .val (.ref b65), .unset, .unset, .unset, .unset] [(.ref b68)])
    refine s_astore W70 at_236 rfl (l' := #[.val (.int pa), .val (.int pb), .val (.int px), .val (.int pd), .val (.int pe), .val (.ref b1), .val (.int cn), .val (.int cp), .val (.int (1 : Int32)), .val (.int (0 : Int32)), .val (.ref b4), .val (.ref b60), .val (.ref sB), .val (.int (px &&& (2147483647 : Int32))), .val (.int ab), .val (.ref b65), .val (.ref b68), .unset, .unset, .unset]) rfl (pc' := 238) rfl ?_
    refine s_iload W70 at_238 rfl (pc' := 240) rfl ?_
    refine s_iconst W70 at_240 (v := (3 : Int32)) (by decide) (pc' := 241) rfl ?_
    refine s_iand W70 at_241 (pc' := 242) rfl ?_
    refine s_istore W70 at_242 (l' := #[.val (.int pa), .val (.int pb), .val (.int px), .val (.int pd), .val (.int pe), .val (.ref b1), .val (.int cn), .val (.int cp), .val (.int (1 : Int32)), .val (.int (0 : Int32)), .val (.ref b4), .val (.ref b60), .val (.ref sB), .val (.int (px &&& (2147483647 : Int32))), .val (.int ab), .val (.ref b65), .val (.ref b68), .val (.int (pe &&& (3 : Int32))), .unset, .unset]) rfl (pc' := 244) rfl ?_
    refine s_iload W70 at_244 rfl (pc' := 246) rfl ?_
    refine s_iconst W70 at_246 (v := (1 : Int32)) (by decide) (pc' := 247) rfl ?_
    refine s_icmpne W70 at_247 (by decide) (pc1 := 258) (by decide) (pc2 := 250) rfl ?_ ?_
    · intro q247
      refine s_iload W70 at_258 rfl (pc' := 260) rfl ?_
      refine s_iconst W70 at_260 (v := (2 : Int32)) (by decide) (pc' := 261) rfl ?_
      refine s_icmpne W70 at_261 (by decide) (pc1 := 279) (by decide) (pc2 := 264) rfl ?_ ?_
      · intro q261
        refine s_iload W70 at_279 rfl (pc' := 281) rfl ?_
        refine s_iconst W70 at_281 (v := (3 : Int32)) (by decide) (pc' := 282) rfl ?_
        refine s_icmpne W70 at_282 (by decide) (pc1 := 301) (by decide) (pc2 := 285) rfl ?_ ?_
        · intro q282
          refine s_iload W70 at_301 rfl (pc' := 303) rfl ?_
          refine s_iload W70 at_303 rfl (pc' := 305) rfl ?_
          suffices t340 : ∀ sn : Int32, sn = (if [(nar .char pa.toUInt32.toUInt16.toUInt32.toInt32), (nar .char ((pa.toUInt32 >>> ((16 : Int32) &&& 31).toUInt32).toInt32).toUInt32.toUInt16.toUInt32.toInt32)] = [(nar .char x0)] then 1 else 0) → Go p e below (Po s Z EL0 n0 true room_1.cells room_1.slots (Q_law Z n0 pa pb px pd pe ccs h0)) T70 (mkF m 340 #[.val (.int pa), .val (.int pb), .val (.int px), .val (.int pd), .val (.int pe), .val (.ref b1), .val (.int cn), .val (.int cp), .val (.int (1 : Int32)), .val (.int (0 : Int32)), .val (.ref b4), .val (.ref b60), .val (.ref sB), .val (.int (px &&& (2147483647 : Int32))), .val (.int ab), .val (.ref b65), .val (.ref b68), .val (.int (pe &&& (3 : Int32))), .unset, .unset] [(.int sn)]) by
            refine s_icmpne W70 at_305 (by decide) (pc1 := 339) (by decide) (pc2 := 308) rfl ?_ (fun q => absurd q (by decide))
            intro q305
            refine s_iconst W70 at_339 (v := (0 : Int32)) (by decide) (pc' := 340) rfl ?_
            exact t340 (0 : Int32) (by rw [if_neg (by simp)])
          intro sn h_sn
          refine s_istore W70 at_340 (l' := #[.val (.int pa), .val (.int pb), .val (.int px), .val (.int pd), .val (.int pe), .val (.ref b1), .val (.int cn), .val (.int cp), .val (.int (1 : Int32)), .val (.int (0 : Int32)), .val (.ref b4), .val (.ref b60), .val (.ref sB), .val (.int (px &&& (2147483647 : Int32))), .val (.int ab), .val (.ref b65), .val (.ref b68), .val (.int (pe &&& (3 : Int32))), .val (.int sn), .unset]) rfl (pc' := 342) rfl ?_
          refine s_iload W70 at_342 rfl (pc' := 344) rfl ?_
          refine s_iload W70 at_344 rfl (pc' := 346) rfl ?_
          suffices t359 : ∀ ex : Int32, ex = (if (px &&& (2147483647 : Int32)) = ab ∧ [(nar .char pa.toUInt32.toUInt16.toUInt32.toInt32), (nar .char ((pa.toUInt32 >>> ((16 : Int32) &&& 31).toUInt32).toInt32).toUInt32.toUInt16.toUInt32.toInt32)] = [(nar .char x0)] then 1 else 0) → Go p e below (Po s Z EL0 n0 true room_1.cells room_1.slots (Q_law Z n0 pa pb px pd pe ccs h0)) T70 (mkF m 359 #[.val (.int pa), .val (.int pb), .val (.int px), .val (.int pd), .val (.int pe), .val (.ref b1), .val (.int cn), .val (.int cp), .val (.int (1 : Int32)), .val (.int (0 : Int32)), .val (.ref b4), .val (.ref b60), .val (.ref sB), .val (.int (px &&& (2147483647 : Int32))), .val (.int ab), .val (.ref b65), .val (.ref b68), .val (.int (pe &&& (3 : Int32))), .val (.int sn), .unset] [(.int ex)]) by
            refine s_icmpne W70 at_346 (by decide) (pc1 := 358) (by decide) (pc2 := 349) rfl ?_ ?_
            · intro q346
              refine s_iconst W70 at_358 (v := (0 : Int32)) (by decide) (pc' := 359) rfl ?_
              exact t359 (0 : Int32) (by rw [if_neg (fun r => q346 r.1)])
            · intro q346
              refine s_iload W70 at_349 rfl (pc' := 351) rfl ?_
              refine s_ifeq W70 at_351 (by decide) (pc1 := 358) (by decide) (pc2 := 354) rfl ?_ ?_
              · intro q351
                refine s_iconst W70 at_358 (v := (0 : Int32)) (by decide) (pc' := 359) rfl ?_
                exact t359 (0 : Int32) (by rw [if_neg (fun r => by rw [if_pos r.2] at h_sn; rw [h_sn] at q351; exact absurd q351 (by decide))])
              · intro q351
                refine s_iconst W70 at_354 (v := (1 : Int32)) (by decide) (pc' := 355) rfl ?_
                refine s_goto W70 at_355 (by decide) (pc' := 359) (by decide) ?_
                exact t359 (1 : Int32) (by rw [if_pos ⟨q346, Classical.byContradiction fun e => by rw [if_neg e] at h_sn; exact q351 h_sn⟩])
          intro ex h_ex
          refine s_istore W70 at_359 (l' := #[.val (.int pa), .val (.int pb), .val (.int px), .val (.int pd), .val (.int pe), .val (.ref b1), .val (.int cn), .val (.int cp), .val (.int (1 : Int32)), .val (.int (0 : Int32)), .val (.ref b4), .val (.ref b60), .val (.ref sB), .val (.int (px &&& (2147483647 : Int32))), .val (.int ab), .val (.ref b65), .val (.ref b68), .val (.int (pe &&& (3 : Int32))), .val (.int sn), .val (.int ex)]) rfl (pc' := 361) rfl ?_
          refine s_aload W70 at_361 rfl rfl (pc' := 363) rfl ?_
          refine s_aload W70 at_363 rfl rfl (pc' := 365) rfl ?_
          have fx71 := ((NPA.ext E68).keep KPB (ninS (ane (by omega)) nin0))
          have fx72 := ((APA.ext E68).keep KPB (ninS (ane (by omega)) nin0))
          have fx73 := (((fx66.keep KPA (ninS (ane (by omega)) nin0) (ninS (ane (by omega)) nin0)).ext E68).keep KPB (ninS (ane (by omega)) nin0) (ninS (ane (by omega)) nin0))
          have fx74 := (fx69.keep KPB (ninS (ane (by omega)) nin0) (ninS (ane (by omega)) nin0))
          have fx76 := ((EPA.ext E68).keep KPB)
          refine gVirtual W70 fx76 (w_52 hw) (w_53 hw) (fun s hZ => notFace_of_selects (args := #[]) (mv hZ (w_55 hw))) (w_55 hw) (w_54 hw) (w_30 hw) (w_56 hw) (by decide) pd_14 (ct_peqX hw hEL [] b65 b68 b60 sB dA dB kA kB zzA zzB (px &&& (2147483647 : Int32)) ab ccs [(nar .char pa.toUInt32.toUInt16.toUInt32.toInt32), (nar .char ((pa.toUInt32 >>> ((16 : Int32) &&& 31).toUInt32).toInt32).toUInt32.toUInt16.toUInt32.toInt32)] [(nar .char x0)] h70 (ane (by omega)) EPB fx71 fx72 lA fx73 (by intro c hc; simp only [List.mem_cons, List.not_mem_nil, or_false] at hc; rcases hc with rfl | rfl <;> exact wide_of _) NPB APB lB fx74 (by intro c hc; simp only [List.mem_cons, List.not_mem_nil, or_false] at hc; rcases hc with rfl <;> exact wide_of _) SCS hccs) (by simp) at_365 (pc' := 368) rfl rfl (argsL := [(.ref b68)]) rfl rfl (rest := []) rfl (wt := 0) (Nat.le_of_eq rfl) (by decide) (by decide) (by decide) (by decide) ?_
          rintro v75 T75 h75 W75 z75 ⟨rfl, rfl⟩
          rw [← h_ex]
          show Go p e below _ T75 (mkF m 368 #[.val (.int pa), .val (.int pb), .val (.int px), .val (.int pd), .val (.int pe), .val (.ref b1), .val (.int cn), .val (.int cp), .val (.int (1 : Int32)), .val (.int (0 : Int32)), .val (.ref b4), .val (.ref b60), .val (.ref sB), .val (.int (px &&& (2147483647 : Int32))), .val (.int ab), .val (.ref b65), .val (.ref b68), .val (.int (pe &&& (3 : Int32))), .val (.int sn), .val (.int ex)] [(.int ex)])
          refine s_iload W75 at_368 rfl (pc' := 370) rfl ?_
          refine s_icmpne W75 at_370 (by decide) (pc1 := 389) (by decide) (pc2 := 373) rfl (fun q => (q rfl).elim) ?_
          intro q370
          refine s_aload W75 at_373 rfl rfl (pc' := 375) rfl ?_
          refine s_aload W75 at_375 rfl rfl (pc' := 377) rfl ?_
          refine gVirtual W75 EPB (w_52 hw) (w_53 hw) (fun s hZ => notFace_of_selects (args := #[]) (mv hZ (w_55 hw))) (w_55 hw) (w_54 hw) (w_30 hw) (w_56 hw) (by decide) pd_14 (ct_peqX hw hEL [] b68 b65 sB b60 dB dA kB kA zzB zzA ab (px &&& (2147483647 : Int32)) ccs [(nar .char x0)] [(nar .char pa.toUInt32.toUInt16.toUInt32.toInt32), (nar .char ((pa.toUInt32 >>> ((16 : Int32) &&& 31).toUInt32).toInt32).toUInt32.toUInt16.toUInt32.toInt32)] h70 (ane (by omega)) fx76 NPB APB lB fx74 (by intro c hc; simp only [List.mem_cons, List.not_mem_nil, or_false] at hc; rcases hc with rfl <;> exact wide_of _) fx71 fx72 lA fx73 (by intro c hc; simp only [List.mem_cons, List.not_mem_nil, or_false] at hc; rcases hc with rfl | rfl <;> exact wide_of _) SCS hccs) (by simp) at_377 (pc' := 380) rfl rfl (argsL := [(.ref b65)]) rfl rfl (rest := []) rfl (wt := 0) (Nat.le_of_eq rfl) (by decide) (by decide) (by decide) (by decide) ?_
          rintro v77 T77 h77 W77 z77 ⟨rfl, rfl⟩
          have hsym : (if ab = (px &&& (2147483647 : Int32)) ∧ [(nar .char x0)] = [(nar .char pa.toUInt32.toUInt16.toUInt32.toInt32), (nar .char ((pa.toUInt32 >>> ((16 : Int32) &&& 31).toUInt32).toInt32).toUInt32.toUInt16.toUInt32.toInt32)] then (1 : Int32) else 0) = (if (px &&& (2147483647 : Int32)) = ab ∧ [(nar .char pa.toUInt32.toUInt16.toUInt32.toInt32), (nar .char ((pa.toUInt32 >>> ((16 : Int32) &&& 31).toUInt32).toInt32).toUInt32.toUInt16.toUInt32.toInt32)] = [(nar .char x0)] then 1 else 0) := by simp only [eq_comm]
          rw [hsym, ← h_ex]
          show Go p e below _ T77 (mkF m 380 #[.val (.int pa), .val (.int pb), .val (.int px), .val (.int pd), .val (.int pe), .val (.ref b1), .val (.int cn), .val (.int cp), .val (.int (1 : Int32)), .val (.int (0 : Int32)), .val (.ref b4), .val (.ref b60), .val (.ref sB), .val (.int (px &&& (2147483647 : Int32))), .val (.int ab), .val (.ref b65), .val (.ref b68), .val (.int (pe &&& (3 : Int32))), .val (.int sn), .val (.int ex)] [(.int ex)])
          refine s_iload W77 at_380 rfl (pc' := 382) rfl ?_
          refine s_icmpne W77 at_382 (by decide) (pc1 := 389) (by decide) (pc2 := 385) rfl (fun q => (q rfl).elim) ?_
          intro q382
          refine s_iconst W77 at_385 (v := (1 : Int32)) (by decide) (pc' := 386) rfl ?_
          refine s_goto W77 at_386 (by decide) (pc' := 390) (by decide) ?_
          exact gRetN W77 hret (by simp) at_390 (by decide) (by decide) rfl
        · intro q282
          refine s_aload W70 at_285 rfl rfl (pc' := 287) rfl ?_
          refine s_aload W70 at_287 rfl rfl (pc' := 289) rfl ?_
          have fx78 := (((fx66.keep KPA (ninS (ane (by omega)) nin0) (ninS (ane (by omega)) nin0)).ext E68).keep KPB (ninS (ane (by omega)) nin0) (ninS (ane (by omega)) nin0))
          have fx80 := ((EPA.ext E68).keep KPB)
          refine gVirtual W70 fx80 (w_52 hw) (w_53 hw) (fun s hZ => notFace_of_selects (args := #[]) (mv hZ (w_55 hw))) (w_55 hw) (w_54 hw) (w_30 hw) (w_56 hw) (by decide) pd_14 (ct_peqS hw hEL [] b65 b60 h70 fx78.1 (ane (by omega))) (by simp) at_289 (pc' := 292) rfl rfl (argsL := [(.ref b60)]) rfl rfl (rest := []) rfl (wt := 0) (Nat.le_of_eq rfl) (by decide) (by decide) (by decide) (by decide) ?_
          rintro v79 T79 h79 W79 z79 ⟨rfl, rfl⟩
          show Go p e below _ T79 (mkF m 292 #[.val (.int pa), .val (.int pb), .val (.int px), .val (.int pd), .val (.int pe), .val (.ref b1), .val (.int cn), .val (.int cp), .val (.int (1 : Int32)), .val (.int (0 : Int32)), .val (.ref b4), .val (.ref b60), .val (.ref sB), .val (.int (px &&& (2147483647 : Int32))), .val (.int ab), .val (.ref b65), .val (.ref b68), .val (.int (pe &&& (3 : Int32))), .unset, .unset] [(.int (0 : Int32))])
          refine s_ifne W79 at_292 (by decide) (pc1 := 299) (by decide) (pc2 := 295) rfl (fun q => absurd q (by decide)) ?_
          intro q292
          refine s_iconst W79 at_295 (v := (1 : Int32)) (by decide) (pc' := 296) rfl ?_
          refine s_goto W79 at_296 (by decide) (pc' := 300) (by decide) ?_
          exact gRetN W79 hret (by simp) at_300 (by decide) (by decide) rfl
      · intro q261
        refine s_aload W70 at_264 rfl rfl (pc' := 266) rfl ?_
        refine s_aconst_null W70 at_266 (pc' := 267) rfl ?_
        have fx82 := ((EPA.ext E68).keep KPB)
        refine gVirtual W70 fx82 (w_52 hw) (w_53 hw) (fun s hZ => notFace_of_selects (args := #[]) (mv hZ (w_55 hw))) (w_55 hw) (w_54 hw) (w_30 hw) (w_56 hw) (by decide) pd_14 (ct_peqN hw hEL [] b65 h70) (by simp) at_267 (pc' := 270) rfl rfl (argsL := [.null]) rfl rfl (rest := []) rfl (wt := 0) (Nat.le_of_eq rfl) (by decide) (by decide) (by decide) (by decide) ?_
        rintro v81 T81 h81 W81 z81 ⟨rfl, rfl⟩
        show Go p e below _ T81 (mkF m 270 #[.val (.int pa), .val (.int pb), .val (.int px), .val (.int pd), .val (.int pe), .val (.ref b1), .val (.int cn), .val (.int cp), .val (.int (1 : Int32)), .val (.int (0 : Int32)), .val (.ref b4), .val (.ref b60), .val (.ref sB), .val (.int (px &&& (2147483647 : Int32))), .val (.int ab), .val (.ref b65), .val (.ref b68), .val (.int (pe &&& (3 : Int32))), .unset, .unset] [(.int (0 : Int32))])
        refine s_ifne W81 at_270 (by decide) (pc1 := 277) (by decide) (pc2 := 273) rfl (fun q => absurd q (by decide)) ?_
        intro q270
        refine s_iconst W81 at_273 (v := (1 : Int32)) (by decide) (pc' := 274) rfl ?_
        refine s_goto W81 at_274 (by decide) (pc' := 278) (by decide) ?_
        exact gRetN W81 hret (by simp) at_278 (by decide) (by decide) rfl
    · intro q247
      refine s_aload W70 at_250 rfl rfl (pc' := 252) rfl ?_
      refine s_aload W70 at_252 rfl rfl (pc' := 254) rfl ?_
      have fx84 := ((EPA.ext E68).keep KPB)
      refine gVirtual W70 fx84 (w_52 hw) (w_53 hw) (fun s hZ => notFace_of_selects (args := #[]) (mv hZ (w_55 hw))) (w_55 hw) (w_54 hw) (w_30 hw) (w_56 hw) (by decide) pd_14 (ct_peqI hw hEL [] b65 h70) (by simp) at_254 (pc' := 257) rfl rfl (argsL := [(.ref b65)]) rfl rfl (rest := []) rfl (wt := 0) (Nat.le_of_eq rfl) (by decide) (by decide) (by decide) (by decide) ?_
      rintro v83 T83 h83 W83 z83 ⟨rfl, rfl⟩
      show Go p e below _ T83 (mkF m 257 #[.val (.int pa), .val (.int pb), .val (.int px), .val (.int pd), .val (.int pe), .val (.ref b1), .val (.int cn), .val (.int cp), .val (.int (1 : Int32)), .val (.int (0 : Int32)), .val (.ref b4), .val (.ref b60), .val (.ref sB), .val (.int (px &&& (2147483647 : Int32))), .val (.int ab), .val (.ref b65), .val (.ref b68), .val (.int (pe &&& (3 : Int32))), .unset, .unset] [(.int (1 : Int32))])
      exact gRetN W83 hret (by simp) at_257 (by decide) (by decide) rfl
  · show Go p e below _ T8 (mkF m 138 #[.val (.int pa), .val (.int pb), .val (.int px), .val (.int pd), .val (.int pe), .val (.ref b1), .val (.int cn), .val (.int cp), .val (.int (1 : Int32)), .val (.int (1 : Int32)), .val (.ref b4), .unset, .unset, .unset, .unset, .unset, .unset, .unset, .unset, .unset] [])
    refine s_iload W8 at_138 rfl (pc' := 140) rfl ?_
    refine s_ifeq W8 at_140 (by decide) (pc1 := 155) (by decide) (pc2 := 143) rfl (fun q => absurd q (by decide)) ?_
    intro q140
    refine gNew W8 (w_61 hw) (w_11 hw) (w_3 hw) at_143 (pc' := 146) rfl (by decide) (by decide) ?_
    intro T85 h85 b85 g85 W85 E85 ⟨A85, D85, U85⟩
    have z85 : h8.size ≤ h85.size := E85.1
    have lt_b85 := natlt A85.lt
    have gg85 := nateq g85
    have n0_b85 : n0 ≤ b85 := by have := W8.n0le; omega
    have F85_value : Fld Z h85 b85 "java/lang/String" "value" "[B" .null := D85 (Or.inr (w_24 hw)) (ty := (.array .byte)) (by decide)
    have F85_coder : Fld Z h85 b85 "java/lang/String" "coder" "B" (.int (0 : Int32)) := D85 (Or.inr (w_26 hw)) (ty := .byte) (by decide)
    refine s_dup W85 at_146 rfl (pc' := 147) rfl ?_
    refine s_aload W85 at_147 rfl rfl (pc' := 149) rfl ?_
    have fx86 := ((((V3.ext E4).keep K6 (ninS (ane (by omega)) nin0)).keep K8 (ninS (ane (by omega)) nin0)).ext E85)
    refine gSpecial W85 rfl (w_62 hw) (w_63 hw) (w_3 hw) (w_64 hw) (by decide) pd_17 (ct_str1g hw hEL [] b85 b1 k1 (2 : Int32) ccs [(nar .char pa.toUInt32.toUInt16.toUInt32.toInt32), (nar .char ((pa.toUInt32 >>> ((16 : Int32) &&& 31).toUInt32).toInt32).toUInt32.toUInt16.toUInt32.toInt32)] h85 (show (2 : Int32).toInt = ((2 : Nat) : Int) by decide) (show 2 ≤ 2 by decide) (by intro c hc; simp only [List.mem_cons, List.not_mem_nil, or_false] at hc; rcases hc with rfl | rfl <;> exact wide_of _) fx86 A85 F85_value F85_coder n0_b85 SCS hccs (by simp) SAD SHI SLO) (fun x hx => by rcases List.mem_singleton.mp hx with rfl; exact List.mem_of_getElem? (i := 0) rfl) at_149 (pc' := 152) rfl rfl (argsL := [(.ref b1)]) rfl rfl (rest := [(.ref b85)]) rfl (wt := 1) (Nat.le_of_eq rfl) (by decide) (by decide) (by decide) (by decide) ?_
    rintro v87 T87 h87 W87 z87 ⟨rfl, KA, dA, kA, zzA, SA, lA, gA⟩
    show Go p e below _ T87 (mkF m 152 #[.val (.int pa), .val (.int pb), .val (.int px), .val (.int pd), .val (.int pe), .val (.ref b1), .val (.int cn), .val (.int cp), .val (.int (1 : Int32)), .val (.int (1 : Int32)), .val (.ref b4), .unset, .unset, .unset, .unset, .unset, .unset, .unset, .unset, .unset] [(.ref b85)])
    have lt_dA := natlt SA.2.2.2.lt
    have gd_A := natle gA
    refine s_goto W87 at_152 (by decide) (pc' := 162) (by decide) ?_
    refine s_astore W87 at_162 rfl (l' := #[.val (.int pa), .val (.int pb), .val (.int px), .val (.int pd), .val (.int pe), .val (.ref b1), .val (.int cn), .val (.int cp), .val (.int (1 : Int32)), .val (.int (1 : Int32)), .val (.ref b4), .val (.ref b85), .unset, .unset, .unset, .unset, .unset, .unset, .unset, .unset]) rfl (pc' := 164) rfl ?_
    refine s_iload W87 at_164 rfl (pc' := 166) rfl ?_
    refine s_ifeq W87 at_166 (by decide) (pc1 := 181) (by decide) (pc2 := 169) rfl (fun q => absurd q (by decide)) ?_
    intro q166
    refine gNew W87 (w_61 hw) (w_11 hw) (w_3 hw) at_169 (pc' := 172) rfl (by decide) (by decide) ?_
    intro T88 h88 b88 g88 W88 E88 ⟨A88, D88, U88⟩
    have z88 : h87.size ≤ h88.size := E88.1
    have lt_b88 := natlt A88.lt
    have gg88 := nateq g88
    have n0_b88 : n0 ≤ b88 := by have := W87.n0le; omega
    have F88_value : Fld Z h88 b88 "java/lang/String" "value" "[B" .null := D88 (Or.inr (w_24 hw)) (ty := (.array .byte)) (by decide)
    have F88_coder : Fld Z h88 b88 "java/lang/String" "coder" "B" (.int (0 : Int32)) := D88 (Or.inr (w_26 hw)) (ty := .byte) (by decide)
    refine s_dup W88 at_172 rfl (pc' := 173) rfl ?_
    refine s_aload W88 at_173 rfl rfl (pc' := 175) rfl ?_
    have fx89 := (((V8.ext E85).keep KA (ninS (ane (by omega)) nin0)).ext E88)
    refine gSpecial W88 rfl (w_62 hw) (w_63 hw) (w_3 hw) (w_64 hw) (by decide) pd_17 (ct_str1g hw hEL [] b88 b4 k4 (2 : Int32) ccs [(nar .char x0), (nar .char x1)] h88 (show (2 : Int32).toInt = ((2 : Nat) : Int) by decide) (show 2 ≤ 2 by decide) (by intro c hc; simp only [List.mem_cons, List.not_mem_nil, or_false] at hc; rcases hc with rfl | rfl <;> exact wide_of _) fx89 A88 F88_value F88_coder n0_b88 SCS hccs (by simp) SAD SHI SLO) (fun x hx => by rcases List.mem_singleton.mp hx with rfl; exact List.mem_of_getElem? (i := 0) rfl) at_175 (pc' := 178) rfl rfl (argsL := [(.ref b4)]) rfl rfl (rest := [(.ref b88)]) rfl (wt := 1) (Nat.le_of_eq rfl) (by decide) (by decide) (by decide) (by decide) ?_
    rintro v90 T90 h90 W90 z90 ⟨rfl, KB, dB, kB, zzB, SB, lB, gB⟩
    show Go p e below _ T90 (mkF m 178 #[.val (.int pa), .val (.int pb), .val (.int px), .val (.int pd), .val (.int pe), .val (.ref b1), .val (.int cn), .val (.int cp), .val (.int (1 : Int32)), .val (.int (1 : Int32)), .val (.ref b4), .val (.ref b85), .unset, .unset, .unset, .unset, .unset, .unset, .unset, .unset] [(.ref b88)])
    have lt_dB := natlt SB.2.2.2.lt
    have gd_B := natle gB
    refine s_goto W90 at_178 (by decide) (pc' := 188) (by decide) ?_
    refine s_astore W90 at_188 rfl (l' := #[.val (.int pa), .val (.int pb), .val (.int px), .val (.int pd), .val (.int pe), .val (.ref b1), .val (.int cn), .val (.int cp), .val (.int (1 : Int32)), .val (.int (1 : Int32)), .val (.ref b4), .val (.ref b85), .val (.ref b88), .unset, .unset, .unset, .unset, .unset, .unset, .unset]) rfl (pc' := 190) rfl ?_
    refine s_iloadN W90 at_190 rfl (pc' := 191) rfl ?_
    refine s_ldcI W90 (w_27 hw) at_191 (pc' := 193) rfl ?_
    refine s_iand W90 at_193 (pc' := 194) rfl ?_
    refine s_istore W90 at_194 (l' := #[.val (.int pa), .val (.int pb), .val (.int px), .val (.int pd), .val (.int pe), .val (.ref b1), .val (.int cn), .val (.int cp), .val (.int (1 : Int32)), .val (.int (1 : Int32)), .val (.ref b4), .val (.ref b85), .val (.ref b88), .val (.int (px &&& (2147483647 : Int32))), .unset, .unset, .unset, .unset, .unset, .unset]) rfl (pc' := 196) rfl ?_
    refine s_iload W90 at_196 rfl (pc' := 198) rfl ?_
    suffices t210 : ∀ ab : Int32, 0 ≤ ab.toInt → Go p e below (Po s Z EL0 n0 true room_1.cells room_1.slots (Q_law Z n0 pa pb px pd pe ccs h0)) T90 (mkF m 210 #[.val (.int pa), .val (.int pb), .val (.int px), .val (.int pd), .val (.int pe), .val (.ref b1), .val (.int cn), .val (.int cp), .val (.int (1 : Int32)), .val (.int (1 : Int32)), .val (.ref b4), .val (.ref b85), .val (.ref b88), .val (.int (px &&& (2147483647 : Int32))), .unset, .unset, .unset, .unset, .unset, .unset] [(.int ab)]) by
      refine s_ifeq W90 at_198 (by decide) (pc1 := 206) (by decide) (pc2 := 201) rfl ?_ ?_
      · intro q198
        refine s_iloadN W90 at_206 rfl (pc' := 207) rfl ?_
        refine s_ldcI W90 (w_27 hw) at_207 (pc' := 209) rfl ?_
        refine s_iand W90 at_209 (pc' := 210) rfl ?_
        exact t210 (pd &&& (2147483647 : Int32)) (and_nonneg _)
      · intro q198
        refine s_iload W90 at_201 rfl (pc' := 203) rfl ?_
        refine s_goto W90 at_203 (by decide) (pc' := 210) (by decide) ?_
        exact t210 (px &&& (2147483647 : Int32)) (and_nonneg _)
    intro ab h_ab
    refine s_istore W90 at_210 (l' := #[.val (.int pa), .val (.int pb), .val (.int px), .val (.int pd), .val (.int pe), .val (.ref b1), .val (.int cn), .val (.int cp), .val (.int (1 : Int32)), .val (.int (1 : Int32)), .val (.ref b4), .val (.ref b85), .val (.ref b88), .val (.int (px &&& (2147483647 : Int32))), .val (.int ab), .unset, .unset, .unset, .unset, .unset]) rfl (pc' := 212) rfl ?_
    refine gNew W90 (w_28 hw) (w_29 hw) (w_30 hw) at_212 (pc' := 215) rfl (by decide) (by decide) ?_
    intro T91 h91 b91 g91 W91 E91 ⟨A91, D91, U91⟩
    have z91 : h90.size ≤ h91.size := E91.1
    have lt_b91 := natlt A91.lt
    have gg91 := nateq g91
    have n0_b91 : n0 ≤ b91 := by have := W90.n0le; omega
    have F91_name : Fld Z h91 b91 "com/example/tame_chase/tamechase/Predicate" "name" "Ljava/lang/String;" .null := D91 (Or.inr (w_49 hw)) (ty := (.object "java/lang/String")) (by decide)
    have F91_arity : Fld Z h91 b91 "com/example/tame_chase/tamechase/Predicate" "arity" "I" (.int (0 : Int32)) := D91 (Or.inr (w_51 hw)) (ty := .int) (by decide)
    refine s_dup W91 at_215 rfl (pc' := 216) rfl ?_
    refine s_aload W91 at_216 rfl rfl (pc' := 218) rfl ?_
    refine s_iload W91 at_218 rfl (pc' := 220) rfl ?_
    have fx92 := (((SA.ext E88).keep KB (ninS (ane (by omega)) nin0) (ninS (ane (by omega)) nin0)).ext E91)
    refine gSpecial W91 rfl (w_31 hw) (w_32 hw) (w_30 hw) (w_33 hw) (by decide) pd_16 (ct_pinit hw hEL [] b91 b85 dA kA (encC [(nar .char pa.toUInt32.toUInt16.toUInt32.toInt32), (nar .char ((pa.toUInt32 >>> ((16 : Int32) &&& 31).toUInt32).toInt32).toUInt32.toUInt16.toUInt32.toInt32)]) zzA (px &&& (2147483647 : Int32)) _ h91 fx92 (fun q' => by have e1 := lA; rw [q', zero32] at e1; have := encB_ne (cs := [(nar .char pa.toUInt32.toUInt16.toUInt32.toInt32), (nar .char ((pa.toUInt32 >>> ((16 : Int32) &&& 31).toUInt32).toInt32).toUInt32.toUInt16.toUInt32.toInt32)]) (by simp); omega) (and_nonneg _) A91 F91_name F91_arity n0_b91) (fun x hx => by rcases List.mem_singleton.mp hx with rfl; exact List.mem_of_getElem? (i := 0) rfl) at_220 (pc' := 223) rfl rfl (argsL := [(.ref b85), (.int (px &&& (2147483647 : Int32)))]) rfl rfl (rest := [(.ref b91)]) rfl (wt := 1) (Nat.le_of_eq rfl) (by decide) (by decide) (by decide) (by decide) ?_
    rintro v93 T93 h93 W93 z93 ⟨rfl, KPA, EPA, NPA, APA⟩
    show Go p e below _ T93 (mkF m 223 #[.val (.int pa), .val (.int pb), .val (.int px), .val (.int pd), .val (.int pe), .val (.ref b1), .val (.int cn), .val (.int cp), .val (.int (1 : Int32)), .val (.int (1 : Int32)), .val (.ref b4), .val (.ref b85), .val (.ref b88), .val (.int (px &&& (2147483647 : Int32))), .val (.int ab), .unset, .unset, .unset, .unset, .unset] [(.ref b91)])
    refine s_astore W93 at_223 rfl (l' := #[.val (.int pa), .val (.int pb), .val (.int px), .val (.int pd), .val (.int pe), .val (.ref b1), .val (.int cn), .val (.int cp), .val (.int (1 : Int32)), .val (.int (1 : Int32)), .val (.ref b4), .val (.ref b85), .val (.ref b88), .val (.int (px &&& (2147483647 : Int32))), .val (.int ab), .val (.ref b91), .unset, .unset, .unset, .unset]) rfl (pc' := 225) rfl ?_
    refine gNew W93 (w_28 hw) (w_29 hw) (w_30 hw) at_225 (pc' := 228) rfl (by decide) (by decide) ?_
    intro T94 h94 b94 g94 W94 E94 ⟨A94, D94, U94⟩
    have z94 : h93.size ≤ h94.size := E94.1
    have lt_b94 := natlt A94.lt
    have gg94 := nateq g94
    have n0_b94 : n0 ≤ b94 := by have := W93.n0le; omega
    have F94_name : Fld Z h94 b94 "com/example/tame_chase/tamechase/Predicate" "name" "Ljava/lang/String;" .null := D94 (Or.inr (w_49 hw)) (ty := (.object "java/lang/String")) (by decide)
    have F94_arity : Fld Z h94 b94 "com/example/tame_chase/tamechase/Predicate" "arity" "I" (.int (0 : Int32)) := D94 (Or.inr (w_51 hw)) (ty := .int) (by decide)
    refine s_dup W94 at_228 rfl (pc' := 229) rfl ?_
    refine s_aload W94 at_229 rfl rfl (pc' := 231) rfl ?_
    refine s_iload W94 at_231 rfl (pc' := 233) rfl ?_
    have fx95 := (((SB.ext E91).keep KPA (ninS (ane (by omega)) nin0) (ninS (ane (by omega)) nin0)).ext E94)
    refine gSpecial W94 rfl (w_31 hw) (w_32 hw) (w_30 hw) (w_33 hw) (by decide) pd_16 (ct_pinit hw hEL [] b94 b88 dB kB (encC [(nar .char x0), (nar .char x1)]) zzB ab _ h94 fx95 (fun q' => by have e1 := lB; rw [q', zero32] at e1; have := encB_ne (cs := [(nar .char x0), (nar .char x1)]) (by simp); omega) h_ab A94 F94_name F94_arity n0_b94) (fun x hx => by rcases List.mem_singleton.mp hx with rfl; exact List.mem_of_getElem? (i := 0) rfl) at_233 (pc' := 236) rfl rfl (argsL := [(.ref b88), (.int ab)]) rfl rfl (rest := [(.ref b94)]) rfl (wt := 1) (Nat.le_of_eq rfl) (by decide) (by decide) (by decide) (by decide) ?_
    rintro v96 T96 h96 W96 z96 ⟨rfl, KPB, EPB, NPB, APB⟩
    show Go p e below _ T96 (mkF m 236 #[.val (.int pa), .val (.int pb), .val (.int px), .val (.int pd), .val (.int pe), .val (.ref b1), .val (.int cn), .val (.int cp), .val (.int (1 : Int32)), .val (.int (1 : Int32)), .val (.ref b4), .val (.ref b85), .val (.ref b88), .val (.int (px &&& (2147483647 : Int32))), .val (.int ab), .val (.ref b91), .unset, .unset, .unset, .unset] [(.ref b94)])
    refine s_astore W96 at_236 rfl (l' := #[.val (.int pa), .val (.int pb), .val (.int px), .val (.int pd), .val (.int pe), .val (.ref b1), .val (.int cn), .val (.int cp), .val (.int (1 : Int32)), .val (.int (1 : Int32)), .val (.ref b4), .val (.ref b85), .val (.ref b88), .val (.int (px &&& (2147483647 : Int32))), .val (.int ab), .val (.ref b91), .val (.ref b94), .unset, .unset, .unset]) rfl (pc' := 238) rfl ?_
    refine s_iload W96 at_238 rfl (pc' := 240) rfl ?_
    refine s_iconst W96 at_240 (v := (3 : Int32)) (by decide) (pc' := 241) rfl ?_
    refine s_iand W96 at_241 (pc' := 242) rfl ?_
    refine s_istore W96 at_242 (l' := #[.val (.int pa), .val (.int pb), .val (.int px), .val (.int pd), .val (.int pe), .val (.ref b1), .val (.int cn), .val (.int cp), .val (.int (1 : Int32)), .val (.int (1 : Int32)), .val (.ref b4), .val (.ref b85), .val (.ref b88), .val (.int (px &&& (2147483647 : Int32))), .val (.int ab), .val (.ref b91), .val (.ref b94), .val (.int (pe &&& (3 : Int32))), .unset, .unset]) rfl (pc' := 244) rfl ?_
    refine s_iload W96 at_244 rfl (pc' := 246) rfl ?_
    refine s_iconst W96 at_246 (v := (1 : Int32)) (by decide) (pc' := 247) rfl ?_
    refine s_icmpne W96 at_247 (by decide) (pc1 := 258) (by decide) (pc2 := 250) rfl ?_ ?_
    · intro q247
      refine s_iload W96 at_258 rfl (pc' := 260) rfl ?_
      refine s_iconst W96 at_260 (v := (2 : Int32)) (by decide) (pc' := 261) rfl ?_
      refine s_icmpne W96 at_261 (by decide) (pc1 := 279) (by decide) (pc2 := 264) rfl ?_ ?_
      · intro q261
        refine s_iload W96 at_279 rfl (pc' := 281) rfl ?_
        refine s_iconst W96 at_281 (v := (3 : Int32)) (by decide) (pc' := 282) rfl ?_
        refine s_icmpne W96 at_282 (by decide) (pc1 := 301) (by decide) (pc2 := 285) rfl ?_ ?_
        · intro q282
          refine s_iload W96 at_301 rfl (pc' := 303) rfl ?_
          refine s_iload W96 at_303 rfl (pc' := 305) rfl ?_
          suffices t340 : ∀ sn : Int32, sn = (if [(nar .char pa.toUInt32.toUInt16.toUInt32.toInt32), (nar .char ((pa.toUInt32 >>> ((16 : Int32) &&& 31).toUInt32).toInt32).toUInt32.toUInt16.toUInt32.toInt32)] = [(nar .char x0), (nar .char x1)] then 1 else 0) → Go p e below (Po s Z EL0 n0 true room_1.cells room_1.slots (Q_law Z n0 pa pb px pd pe ccs h0)) T96 (mkF m 340 #[.val (.int pa), .val (.int pb), .val (.int px), .val (.int pd), .val (.int pe), .val (.ref b1), .val (.int cn), .val (.int cp), .val (.int (1 : Int32)), .val (.int (1 : Int32)), .val (.ref b4), .val (.ref b85), .val (.ref b88), .val (.int (px &&& (2147483647 : Int32))), .val (.int ab), .val (.ref b91), .val (.ref b94), .val (.int (pe &&& (3 : Int32))), .unset, .unset] [(.int sn)]) by
            refine s_icmpne W96 at_305 (by decide) (pc1 := 339) (by decide) (pc2 := 308) rfl (fun q => absurd q (by decide)) ?_
            intro q305
            refine s_aload W96 at_308 rfl rfl (pc' := 310) rfl ?_
            refine s_iconst W96 at_310 (v := (0 : Int32)) (by decide) (pc' := 311) rfl ?_
            have fx97 := (((((((fx86.keep KA (ninS (ane (by omega)) nin0)).ext E88).keep KB (ninS (ane (by omega)) nin0)).ext E91).keep KPA (ninS (ane (by omega)) nin0)).ext E94).keep KPB (ninS (ane (by omega)) nin0))
            refine gLdC W96 fx97 ⟨by decide, by decide⟩ (v := (.int (nar .char pa.toUInt32.toUInt16.toUInt32.toInt32))) rfl at_311 (pc' := 312) rfl ?_
            refine s_aload W96 at_312 rfl rfl (pc' := 314) rfl ?_
            refine s_iconst W96 at_314 (v := (0 : Int32)) (by decide) (pc' := 315) rfl ?_
            have fx98 := (((((fx89.keep KB (ninS (ane (by omega)) nin0)).ext E91).keep KPA (ninS (ane (by omega)) nin0)).ext E94).keep KPB (ninS (ane (by omega)) nin0))
            refine gLdC W96 fx98 ⟨by decide, by decide⟩ (v := (.int (nar .char x0))) rfl at_315 (pc' := 316) rfl ?_
            refine s_icmpne W96 at_316 (by decide) (pc1 := 339) (by decide) (pc2 := 319) rfl ?_ ?_
            · intro q316
              refine s_iconst W96 at_339 (v := (0 : Int32)) (by decide) (pc' := 340) rfl ?_
              exact t340 (0 : Int32) (by rw [if_neg (fun r => q316 (List.cons.inj r).1)])
            · intro q316
              refine s_iload W96 at_319 rfl (pc' := 321) rfl ?_
              refine s_ifeq W96 at_321 (by decide) (pc1 := 335) (by decide) (pc2 := 324) rfl (fun q => absurd q (by decide)) ?_
              intro q321
              refine s_aload W96 at_324 rfl rfl (pc' := 326) rfl ?_
              refine s_iconst W96 at_326 (v := (1 : Int32)) (by decide) (pc' := 327) rfl ?_
              refine gLdC W96 fx97 ⟨by decide, by decide⟩ (v := (.int (nar .char ((pa.toUInt32 >>> ((16 : Int32) &&& 31).toUInt32).toInt32).toUInt32.toUInt16.toUInt32.toInt32))) rfl at_327 (pc' := 328) rfl ?_
              refine s_aload W96 at_328 rfl rfl (pc' := 330) rfl ?_
              refine s_iconst W96 at_330 (v := (1 : Int32)) (by decide) (pc' := 331) rfl ?_
              refine gLdC W96 fx98 ⟨by decide, by decide⟩ (v := (.int (nar .char x1))) rfl at_331 (pc' := 332) rfl ?_
              refine s_icmpne W96 at_332 (by decide) (pc1 := 339) (by decide) (pc2 := 335) rfl ?_ ?_
              · intro q332
                refine s_iconst W96 at_339 (v := (0 : Int32)) (by decide) (pc' := 340) rfl ?_
                exact t340 (0 : Int32) (by rw [if_neg (fun r => q332 (List.cons.inj (List.cons.inj r).2).1)])
              · intro q332
                refine s_iconst W96 at_335 (v := (1 : Int32)) (by decide) (pc' := 336) rfl ?_
                refine s_goto W96 at_336 (by decide) (pc' := 340) (by decide) ?_
                exact t340 (1 : Int32) (by rw [if_pos (by rw [q316, q332])])
          intro sn h_sn
          refine s_istore W96 at_340 (l' := #[.val (.int pa), .val (.int pb), .val (.int px), .val (.int pd), .val (.int pe), .val (.ref b1), .val (.int cn), .val (.int cp), .val (.int (1 : Int32)), .val (.int (1 : Int32)), .val (.ref b4), .val (.ref b85), .val (.ref b88), .val (.int (px &&& (2147483647 : Int32))), .val (.int ab), .val (.ref b91), .val (.ref b94), .val (.int (pe &&& (3 : Int32))), .val (.int sn), .unset]) rfl (pc' := 342) rfl ?_
          refine s_iload W96 at_342 rfl (pc' := 344) rfl ?_
          refine s_iload W96 at_344 rfl (pc' := 346) rfl ?_
          suffices t359 : ∀ ex : Int32, ex = (if (px &&& (2147483647 : Int32)) = ab ∧ [(nar .char pa.toUInt32.toUInt16.toUInt32.toInt32), (nar .char ((pa.toUInt32 >>> ((16 : Int32) &&& 31).toUInt32).toInt32).toUInt32.toUInt16.toUInt32.toInt32)] = [(nar .char x0), (nar .char x1)] then 1 else 0) → Go p e below (Po s Z EL0 n0 true room_1.cells room_1.slots (Q_law Z n0 pa pb px pd pe ccs h0)) T96 (mkF m 359 #[.val (.int pa), .val (.int pb), .val (.int px), .val (.int pd), .val (.int pe), .val (.ref b1), .val (.int cn), .val (.int cp), .val (.int (1 : Int32)), .val (.int (1 : Int32)), .val (.ref b4), .val (.ref b85), .val (.ref b88), .val (.int (px &&& (2147483647 : Int32))), .val (.int ab), .val (.ref b91), .val (.ref b94), .val (.int (pe &&& (3 : Int32))), .val (.int sn), .unset] [(.int ex)]) by
            refine s_icmpne W96 at_346 (by decide) (pc1 := 358) (by decide) (pc2 := 349) rfl ?_ ?_
            · intro q346
              refine s_iconst W96 at_358 (v := (0 : Int32)) (by decide) (pc' := 359) rfl ?_
              exact t359 (0 : Int32) (by rw [if_neg (fun r => q346 r.1)])
            · intro q346
              refine s_iload W96 at_349 rfl (pc' := 351) rfl ?_
              refine s_ifeq W96 at_351 (by decide) (pc1 := 358) (by decide) (pc2 := 354) rfl ?_ ?_
              · intro q351
                refine s_iconst W96 at_358 (v := (0 : Int32)) (by decide) (pc' := 359) rfl ?_
                exact t359 (0 : Int32) (by rw [if_neg (fun r => by rw [if_pos r.2] at h_sn; rw [h_sn] at q351; exact absurd q351 (by decide))])
              · intro q351
                refine s_iconst W96 at_354 (v := (1 : Int32)) (by decide) (pc' := 355) rfl ?_
                refine s_goto W96 at_355 (by decide) (pc' := 359) (by decide) ?_
                exact t359 (1 : Int32) (by rw [if_pos ⟨q346, Classical.byContradiction fun e => by rw [if_neg e] at h_sn; exact q351 h_sn⟩])
          intro ex h_ex
          refine s_istore W96 at_359 (l' := #[.val (.int pa), .val (.int pb), .val (.int px), .val (.int pd), .val (.int pe), .val (.ref b1), .val (.int cn), .val (.int cp), .val (.int (1 : Int32)), .val (.int (1 : Int32)), .val (.ref b4), .val (.ref b85), .val (.ref b88), .val (.int (px &&& (2147483647 : Int32))), .val (.int ab), .val (.ref b91), .val (.ref b94), .val (.int (pe &&& (3 : Int32))), .val (.int sn), .val (.int ex)]) rfl (pc' := 361) rfl ?_
          refine s_aload W96 at_361 rfl rfl (pc' := 363) rfl ?_
          refine s_aload W96 at_363 rfl rfl (pc' := 365) rfl ?_
          have fx99 := ((NPA.ext E94).keep KPB (ninS (ane (by omega)) nin0))
          have fx100 := ((APA.ext E94).keep KPB (ninS (ane (by omega)) nin0))
          have fx101 := (((fx92.keep KPA (ninS (ane (by omega)) nin0) (ninS (ane (by omega)) nin0)).ext E94).keep KPB (ninS (ane (by omega)) nin0) (ninS (ane (by omega)) nin0))
          have fx102 := (fx95.keep KPB (ninS (ane (by omega)) nin0) (ninS (ane (by omega)) nin0))
          have fx104 := ((EPA.ext E94).keep KPB)
          refine gVirtual W96 fx104 (w_52 hw) (w_53 hw) (fun s hZ => notFace_of_selects (args := #[]) (mv hZ (w_55 hw))) (w_55 hw) (w_54 hw) (w_30 hw) (w_56 hw) (by decide) pd_14 (ct_peqX hw hEL [] b91 b94 b85 b88 dA dB kA kB zzA zzB (px &&& (2147483647 : Int32)) ab ccs [(nar .char pa.toUInt32.toUInt16.toUInt32.toInt32), (nar .char ((pa.toUInt32 >>> ((16 : Int32) &&& 31).toUInt32).toInt32).toUInt32.toUInt16.toUInt32.toInt32)] [(nar .char x0), (nar .char x1)] h96 (ane (by omega)) EPB fx99 fx100 lA fx101 (by intro c hc; simp only [List.mem_cons, List.not_mem_nil, or_false] at hc; rcases hc with rfl | rfl <;> exact wide_of _) NPB APB lB fx102 (by intro c hc; simp only [List.mem_cons, List.not_mem_nil, or_false] at hc; rcases hc with rfl | rfl <;> exact wide_of _) SCS hccs) (by simp) at_365 (pc' := 368) rfl rfl (argsL := [(.ref b94)]) rfl rfl (rest := []) rfl (wt := 0) (Nat.le_of_eq rfl) (by decide) (by decide) (by decide) (by decide) ?_
          rintro v103 T103 h103 W103 z103 ⟨rfl, rfl⟩
          rw [← h_ex]
          show Go p e below _ T103 (mkF m 368 #[.val (.int pa), .val (.int pb), .val (.int px), .val (.int pd), .val (.int pe), .val (.ref b1), .val (.int cn), .val (.int cp), .val (.int (1 : Int32)), .val (.int (1 : Int32)), .val (.ref b4), .val (.ref b85), .val (.ref b88), .val (.int (px &&& (2147483647 : Int32))), .val (.int ab), .val (.ref b91), .val (.ref b94), .val (.int (pe &&& (3 : Int32))), .val (.int sn), .val (.int ex)] [(.int ex)])
          refine s_iload W103 at_368 rfl (pc' := 370) rfl ?_
          refine s_icmpne W103 at_370 (by decide) (pc1 := 389) (by decide) (pc2 := 373) rfl (fun q => (q rfl).elim) ?_
          intro q370
          refine s_aload W103 at_373 rfl rfl (pc' := 375) rfl ?_
          refine s_aload W103 at_375 rfl rfl (pc' := 377) rfl ?_
          refine gVirtual W103 EPB (w_52 hw) (w_53 hw) (fun s hZ => notFace_of_selects (args := #[]) (mv hZ (w_55 hw))) (w_55 hw) (w_54 hw) (w_30 hw) (w_56 hw) (by decide) pd_14 (ct_peqX hw hEL [] b94 b91 b88 b85 dB dA kB kA zzB zzA ab (px &&& (2147483647 : Int32)) ccs [(nar .char x0), (nar .char x1)] [(nar .char pa.toUInt32.toUInt16.toUInt32.toInt32), (nar .char ((pa.toUInt32 >>> ((16 : Int32) &&& 31).toUInt32).toInt32).toUInt32.toUInt16.toUInt32.toInt32)] h96 (ane (by omega)) fx104 NPB APB lB fx102 (by intro c hc; simp only [List.mem_cons, List.not_mem_nil, or_false] at hc; rcases hc with rfl | rfl <;> exact wide_of _) fx99 fx100 lA fx101 (by intro c hc; simp only [List.mem_cons, List.not_mem_nil, or_false] at hc; rcases hc with rfl | rfl <;> exact wide_of _) SCS hccs) (by simp) at_377 (pc' := 380) rfl rfl (argsL := [(.ref b91)]) rfl rfl (rest := []) rfl (wt := 0) (Nat.le_of_eq rfl) (by decide) (by decide) (by decide) (by decide) ?_
          rintro v105 T105 h105 W105 z105 ⟨rfl, rfl⟩
          have hsym : (if ab = (px &&& (2147483647 : Int32)) ∧ [(nar .char x0), (nar .char x1)] = [(nar .char pa.toUInt32.toUInt16.toUInt32.toInt32), (nar .char ((pa.toUInt32 >>> ((16 : Int32) &&& 31).toUInt32).toInt32).toUInt32.toUInt16.toUInt32.toInt32)] then (1 : Int32) else 0) = (if (px &&& (2147483647 : Int32)) = ab ∧ [(nar .char pa.toUInt32.toUInt16.toUInt32.toInt32), (nar .char ((pa.toUInt32 >>> ((16 : Int32) &&& 31).toUInt32).toInt32).toUInt32.toUInt16.toUInt32.toInt32)] = [(nar .char x0), (nar .char x1)] then 1 else 0) := by simp only [eq_comm]
          rw [hsym, ← h_ex]
          show Go p e below _ T105 (mkF m 380 #[.val (.int pa), .val (.int pb), .val (.int px), .val (.int pd), .val (.int pe), .val (.ref b1), .val (.int cn), .val (.int cp), .val (.int (1 : Int32)), .val (.int (1 : Int32)), .val (.ref b4), .val (.ref b85), .val (.ref b88), .val (.int (px &&& (2147483647 : Int32))), .val (.int ab), .val (.ref b91), .val (.ref b94), .val (.int (pe &&& (3 : Int32))), .val (.int sn), .val (.int ex)] [(.int ex)])
          refine s_iload W105 at_380 rfl (pc' := 382) rfl ?_
          refine s_icmpne W105 at_382 (by decide) (pc1 := 389) (by decide) (pc2 := 385) rfl (fun q => (q rfl).elim) ?_
          intro q382
          refine s_iconst W105 at_385 (v := (1 : Int32)) (by decide) (pc' := 386) rfl ?_
          refine s_goto W105 at_386 (by decide) (pc' := 390) (by decide) ?_
          exact gRetN W105 hret (by simp) at_390 (by decide) (by decide) rfl
        · intro q282
          refine s_aload W96 at_285 rfl rfl (pc' := 287) rfl ?_
          refine s_aload W96 at_287 rfl rfl (pc' := 289) rfl ?_
          have fx106 := (((fx92.keep KPA (ninS (ane (by omega)) nin0) (ninS (ane (by omega)) nin0)).ext E94).keep KPB (ninS (ane (by omega)) nin0) (ninS (ane (by omega)) nin0))
          have fx108 := ((EPA.ext E94).keep KPB)
          refine gVirtual W96 fx108 (w_52 hw) (w_53 hw) (fun s hZ => notFace_of_selects (args := #[]) (mv hZ (w_55 hw))) (w_55 hw) (w_54 hw) (w_30 hw) (w_56 hw) (by decide) pd_14 (ct_peqS hw hEL [] b91 b85 h96 fx106.1 (ane (by omega))) (by simp) at_289 (pc' := 292) rfl rfl (argsL := [(.ref b85)]) rfl rfl (rest := []) rfl (wt := 0) (Nat.le_of_eq rfl) (by decide) (by decide) (by decide) (by decide) ?_
          rintro v107 T107 h107 W107 z107 ⟨rfl, rfl⟩
          show Go p e below _ T107 (mkF m 292 #[.val (.int pa), .val (.int pb), .val (.int px), .val (.int pd), .val (.int pe), .val (.ref b1), .val (.int cn), .val (.int cp), .val (.int (1 : Int32)), .val (.int (1 : Int32)), .val (.ref b4), .val (.ref b85), .val (.ref b88), .val (.int (px &&& (2147483647 : Int32))), .val (.int ab), .val (.ref b91), .val (.ref b94), .val (.int (pe &&& (3 : Int32))), .unset, .unset] [(.int (0 : Int32))])
          refine s_ifne W107 at_292 (by decide) (pc1 := 299) (by decide) (pc2 := 295) rfl (fun q => absurd q (by decide)) ?_
          intro q292
          refine s_iconst W107 at_295 (v := (1 : Int32)) (by decide) (pc' := 296) rfl ?_
          refine s_goto W107 at_296 (by decide) (pc' := 300) (by decide) ?_
          exact gRetN W107 hret (by simp) at_300 (by decide) (by decide) rfl
      · intro q261
        refine s_aload W96 at_264 rfl rfl (pc' := 266) rfl ?_
        refine s_aconst_null W96 at_266 (pc' := 267) rfl ?_
        have fx110 := ((EPA.ext E94).keep KPB)
        refine gVirtual W96 fx110 (w_52 hw) (w_53 hw) (fun s hZ => notFace_of_selects (args := #[]) (mv hZ (w_55 hw))) (w_55 hw) (w_54 hw) (w_30 hw) (w_56 hw) (by decide) pd_14 (ct_peqN hw hEL [] b91 h96) (by simp) at_267 (pc' := 270) rfl rfl (argsL := [.null]) rfl rfl (rest := []) rfl (wt := 0) (Nat.le_of_eq rfl) (by decide) (by decide) (by decide) (by decide) ?_
        rintro v109 T109 h109 W109 z109 ⟨rfl, rfl⟩
        show Go p e below _ T109 (mkF m 270 #[.val (.int pa), .val (.int pb), .val (.int px), .val (.int pd), .val (.int pe), .val (.ref b1), .val (.int cn), .val (.int cp), .val (.int (1 : Int32)), .val (.int (1 : Int32)), .val (.ref b4), .val (.ref b85), .val (.ref b88), .val (.int (px &&& (2147483647 : Int32))), .val (.int ab), .val (.ref b91), .val (.ref b94), .val (.int (pe &&& (3 : Int32))), .unset, .unset] [(.int (0 : Int32))])
        refine s_ifne W109 at_270 (by decide) (pc1 := 277) (by decide) (pc2 := 273) rfl (fun q => absurd q (by decide)) ?_
        intro q270
        refine s_iconst W109 at_273 (v := (1 : Int32)) (by decide) (pc' := 274) rfl ?_
        refine s_goto W109 at_274 (by decide) (pc' := 278) (by decide) ?_
        exact gRetN W109 hret (by simp) at_278 (by decide) (by decide) rfl
    · intro q247
      refine s_aload W96 at_250 rfl rfl (pc' := 252) rfl ?_
      refine s_aload W96 at_252 rfl rfl (pc' := 254) rfl ?_
      have fx112 := ((EPA.ext E94).keep KPB)
      refine gVirtual W96 fx112 (w_52 hw) (w_53 hw) (fun s hZ => notFace_of_selects (args := #[]) (mv hZ (w_55 hw))) (w_55 hw) (w_54 hw) (w_30 hw) (w_56 hw) (by decide) pd_14 (ct_peqI hw hEL [] b91 h96) (by simp) at_254 (pc' := 257) rfl rfl (argsL := [(.ref b91)]) rfl rfl (rest := []) rfl (wt := 0) (Nat.le_of_eq rfl) (by decide) (by decide) (by decide) (by decide) ?_
      rintro v111 T111 h111 W111 z111 ⟨rfl, rfl⟩
      show Go p e below _ T111 (mkF m 257 #[.val (.int pa), .val (.int pb), .val (.int px), .val (.int pd), .val (.int pe), .val (.ref b1), .val (.int cn), .val (.int cp), .val (.int (1 : Int32)), .val (.int (1 : Int32)), .val (.ref b4), .val (.ref b85), .val (.ref b88), .val (.int (px &&& (2147483647 : Int32))), .val (.int ab), .val (.ref b91), .val (.ref b94), .val (.int (pe &&& (3 : Int32))), .unset, .unset] [(.int (1 : Int32))])
      exact gRetN W111 hret (by simp) at_257 (by decide) (by decide) rfl
set_option maxRecDepth 65536 in
set_option maxHeartbeats 40000000 in
theorem comes_1 {Post : Tables → Env → Array Value → State → Outcome → State → Prop} (hpost : ∀ tb e args s v u, (limb_1_1.after args s (.returned v) u = true ∧ limb_1_2.after args s (.returned v) u = true ∧ True) → Jvm.D.FramedW s (.returned v) u (Jvm.fieldLocs frame_1_writes args s ++ Jvm.arrayLocs frame_1_arrays args s ++ Jvm.staticLocs frame_1_statics s) 32 1152 → Post tb e args s (.returned v) u) :
    ArmFor flags0 classFile x code maxLocals ret World_1 tables_1 room_1 Calls_1 rest_1 Pre_1 Post := by
  intro l hfl _ _ p e ha hc hk s m args below hf hA hF happ hP
  obtain ⟨hcalls, hrest, hpre⟩ := hP
  obtain ⟨-, -, -, hnamed, -, -, -, hat⟩ := (Spec.applies_iff hf).mp happ
  obtain ⟨hg, hn⟩ := and_e (Cond.before_iff.mp (show (Jvm.Cond.and given_1 narrow_1).before args s = true from hpre))
  obtain ⟨h1, g0⟩ := and_e hg
  obtain ⟨a0, g1⟩ := and_e g0
  obtain ⟨a1, g2⟩ := and_e g1
  obtain ⟨a2, g3⟩ := and_e g2
  obtain ⟨a3, g4⟩ := and_e g3
  have a4 := g4
  obtain ⟨u0, u1, u2, u3, u4, rfl⟩ : ∃ u0 u1 u2 u3 u4 : Value, args = #[u0, u1, u2, u3, u4] := by
    have hs : args.size = 5 := by simpa [Cond.value, given_1] using h1
    obtain ⟨L⟩ := args
    match L, hs with
    | [u0, u1, u2, u3, u4], _ => exact ⟨u0, u1, u2, u3, u4, rfl⟩
  have hw := fun d (hd : d ∈ tables_1) => atoms_spec (ws := Jvm.Cond.code x code maxLocals ret :: tables_1) hat d (List.mem_cons_of_mem _ hd)
  obtain ⟨hsets, hown0⟩ := atoms_of _ (rest_1_c_eq ▸ (show rest_1_c.before _ s = true from hrest))
  have hfit : Fit s := fun {y c} hc i hi => by
    obtain ⟨ha, rfl⟩ := Array.getElem?_eq_some_iff.mp hc
    have q := List.all_eq_true.mp ((Array.all_eq_true_iff_forall_mem.mp hF) _ (Array.getElem_mem ha)) i (List.mem_range.mpr hi)
    simpa [Array.getElem?_eq_getElem hi] using q
  obtain ⟨pa, e_pa⟩ := is_v a0
  obtain rfl : u0 = (.int pa) := Option.some.inj e_pa
  obtain ⟨pb, e_pb⟩ := is_v a1
  obtain rfl : u1 = (.int pb) := Option.some.inj e_pb
  obtain ⟨px, e_px⟩ := is_v a2
  obtain rfl : u2 = (.int px) := Option.some.inj e_px
  obtain ⟨pd, e_pd⟩ := is_v a3
  obtain rfl : u3 = (.int pd) := Option.some.inj e_pd
  obtain ⟨pe, e_pe⟩ := is_v a4
  obtain rfl : u4 = (.int pe) := Option.some.inj e_pe
  have ncs := not_v (Cond.before_iff.mp (hsets _ (List.mem_of_getElem? (i := 2) rfl)))
  obtain ⟨ccs, ecs⟩ := is_v (Cond.before_iff.mp (hsets _ (List.mem_of_getElem? (i := 1) rfl)))
  have SCS : Sta s s.heap "java/lang/String" "COMPACT_STRINGS" "Z" (.int ccs) := Sta.start ecs (Or.inl (hsets _ (List.mem_of_getElem? (i := 0) rfl)))
  have hccs : ¬ (ccs = (0 : Int32)) := gotF (Cond.eq_ints ecs (Term.int_eval (0))) ncs
  have vSAD := Cond.before_iff.mp (hsets _ (List.mem_of_getElem? (i := 12) rfl))
  obtain ⟨xSAD, ySAD, eSAD, fSAD, -, kSAD⟩ := cmp_v (Or.inl vSAD)
  obtain rfl : ySAD = .int 1 := Option.some.inj (fSAD.symm.trans (Term.int_eval (1)))
  obtain ⟨zSAD, rfl⟩ := kSAD
  obtain rfl : zSAD = 1 := gotT (Cond.eq_ints eSAD (Term.int_eval (1))) vSAD
  have SAD : Sta s s.heap "java/lang/StringUTF16" "$assertionsDisabled" "Z" (.int 1) := Sta.start eSAD (Or.inl (hsets _ (List.mem_of_getElem? (i := 11) rfl)))
  have vSHI := Cond.before_iff.mp (hsets _ (List.mem_of_getElem? (i := 15) rfl))
  obtain ⟨xSHI, ySHI, eSHI, fSHI, -, kSHI⟩ := cmp_v (Or.inl vSHI)
  obtain rfl : ySHI = .int 0 := Option.some.inj (fSHI.symm.trans (Term.int_eval (0)))
  obtain ⟨zSHI, rfl⟩ := kSHI
  obtain rfl : zSHI = 0 := gotT (Cond.eq_ints eSHI (Term.int_eval (0))) vSHI
  have SHI : Sta s s.heap "java/lang/StringUTF16" "HI_BYTE_SHIFT" "I" (.int 0) := Sta.start eSHI (Or.inl (hsets _ (List.mem_of_getElem? (i := 14) rfl)))
  have vSLO := Cond.before_iff.mp (hsets _ (List.mem_of_getElem? (i := 18) rfl))
  obtain ⟨xSLO, ySLO, eSLO, fSLO, -, kSLO⟩ := cmp_v (Or.inl vSLO)
  obtain rfl : ySLO = .int 8 := Option.some.inj (fSLO.symm.trans (Term.int_eval (8)))
  obtain ⟨zSLO, rfl⟩ := kSLO
  obtain rfl : zSLO = 8 := gotT (Cond.eq_ints eSLO (Term.int_eval (8))) vSLO
  have SLO : Sta s s.heap "java/lang/StringUTF16" "LO_BYTE_SHIFT" "I" (.int 8) := Sta.start eSLO (Or.inl (hsets _ (List.mem_of_getElem? (i := 17) rfl)))
  have hEL : EW s #[(.int pa), (.int pb), (.int px), (.int pd), (.int pe)] EL0 := EW.nil
  have hCH : CHv s EL0 s.vm s.heap := fun p hp => by cases hp
  obtain ⟨n, o, h1, h2, h3, v, L, rfl, hQ, N, hC, hwd, hOl, hq⟩ := ct_law (l := l) (n0 := s.heap.size) hw hEL tables_1 pa pb px pd pe ccs s.heap SCS hccs SAD SHI SLO p e ha hc hk s m _ below hf ((Spec.applies_iff_loose hf).mp happ).1 ⟨rfl, State.Warmed39.refl s, rfl, hCH, Old.start s, fun x hx => by cases hx⟩ (fun q => by cases q)
  obtain rfl : v = some (.int 1) := hQ
  refine ⟨n, _, h1, h2, h3, hpost _ _ _ _ _ _ ⟨Cond.after_iff.mpr rfl, Cond.after_iff.mpr (eq_i res_at (Term.int_eval (1)) rfl), trivial⟩ ⟨hq.1, hq.2.1, hq.2.2.1, (hq.2.2.2.sift fun y hy => Or.inr (N y hy)).mono (by decide) (by decide)⟩⟩
theorem main_1_1 : Claimed_1_1 := comes_1 fun _ _ _ _ _ _ h hF => ⟨h.1, hF⟩
theorem main_1_2 : Claimed_1_2 := comes_1 fun _ _ _ _ _ _ h hF => ⟨h.2.1, hF⟩
end Jvm.Pilot.@@N@@
namespace Jvm.Pilot.@@N@@
open Jvm Jvm.ClassFile Sem Op Lib Jvm.Free Jvm.Stand Jvm.Pilot.@@N@@.Jvm.D
/-! MADE BY PROGRAM (witnessworld.py) out of the Statement's table words and the real class files: 21 classes; the members and pool entries that the words name. The judged class is class 1, her method 1. -/
namespace start1
open Jvm.ClassFile
def u (s : String) : CpInfo := .utf8 (stringToUtf16 s)
/-- a pool by its gaps: so many unusable entries, then the entry; so many at the end -/
def gap : Nat → List CpInfo → List CpInfo
  | 0, r => r
  | n + 1, r => .unusable :: gap n r
def poolList (es : List (Nat × CpInfo)) (last : Nat) : List CpInfo := es.foldr (fun e r => gap e.1 (e.2 :: r)) (gap last [])
def pool (es : List (Nat × CpInfo)) (last : Nat) : Array CpInfo := ⟨poolList es last⟩
def fileOf (pool : Array CpInfo) (this : Nat) (attrs : Array Attribute := #[]) (ms : Array MethodInfo := #[]) (fl : Nat := 33) (sup : Nat := 0) (ifs : Array Nat := #[]) (fds : Array FieldInfo := #[]) : ClassFile where
  minorVersion := 0
  majorVersion := 65
  constantPool := pool
  accessFlags := fl
  thisClass := this
  superClass := sup
  interfaces := ifs
  fields := fds
  methods := ms
  attributes := attrs
def plain (name : String) (sup : Option ClassId) : Class where
  name := name
  kind := .ordinary
  loader := none
  accessFlags := 33
  super := sup
  interfaces := #[]
  cf := none
  fields := #[]
  methods := #[]
  instanceTypes := #[]
  staticTypes := #[]
  resolved := #[]
  callSites := []
  init := .initialized
  statics := none
  mirror := none

def pool0 : Array CpInfo := pool [(5, u "<init>"), (0, u "()V"), (1, .class_ 10), (1, u "java/lang/Object")] 113

def k0c0 : Code := { maxStack := 0, maxLocals := 1, code := object_method_1_code, exceptionTable := #[], attributes := #[] }
def k0m0 : Method := { name := "<init>", desc := "()V", sig := { parameters := [], returnType := none }, accessFlags := 1, code := some k0c0 }
/-- java/lang/Object -/
def k0 : Class := { plain "java/lang/Object" none with
  accessFlags := 33
  interfaces := #[]
  cf := some (fileOf pool0 8 #[] #[{ accessFlags := 1, nameIndex := 5, descriptorIndex := 6, attributes := #[] }] 33 0 #[] #[])
  fields := #[]
  methods := #[k0m0]
  instanceTypes := #[]
  staticTypes := #[]
  resolved := Array.replicate 124 none
  statics := none }

def pool1 : Array CpInfo := pool [(2, .class_ 4), (1, u "java/lang/Object"), (0, u "<init>"), (0, u "()V"), (0, .class_ 8), (0, u "java/lang/String"), (0, .methodref 7 10), (0, .nameAndType 5 11), (0, u "([C)V"), (0, .methodref 7 13), (0, .nameAndType 14 15), (0, u "valueOf"), (0, u "(C)Ljava/lang/String;"), (0, .integer 2147483647), (0, .class_ 18), (0, u "com/example/tame_chase/tamechase/Predicate"), (0, .methodref 17 20), (0, .nameAndType 5 21), (0, u "(Ljava/lang/String;I)V"), (0, .methodref 17 23), (0, .nameAndType 24 25), (0, u "equals"), (0, u "(Ljava/lang/Object;)Z"), (0, .class_ 27), (0, u "com/example/tame_chase/tamechase/PredicateEqualsPinLaw"), (2, u "law"), (0, u "(IIIII)Z")] 5

def k1m0 : Method := { name := "<init>", desc := "()V", sig := { parameters := [], returnType := none }, accessFlags := 1, code := none }
def k1c1 : Code := { maxStack := 4, maxLocals := 20, code := code, exceptionTable := #[], attributes := #[] }
def k1m1 : Method := { name := "law", desc := "(IIIII)Z", sig := { parameters := [.int, .int, .int, .int, .int], returnType := some .boolean }, accessFlags := 9, code := some k1c1 }
/-- com/example/tame_chase/tamechase/PredicateEqualsPinLaw -/
def k1 : Class := { plain "com/example/tame_chase/tamechase/PredicateEqualsPinLaw" (some 0) with
  accessFlags := 49
  interfaces := #[]
  cf := some (fileOf pool1 26 #[] #[{ accessFlags := 1, nameIndex := 5, descriptorIndex := 6, attributes := #[] }, { accessFlags := 9, nameIndex := 30, descriptorIndex := 31, attributes := #[] }] 49 2 #[] #[])
  fields := #[]
  methods := #[k1m0, k1m1]
  instanceTypes := #[]
  staticTypes := #[]
  resolved := Array.replicate 37 none
  statics := none }

def pool2 : Array CpInfo := pool [(1, .class_ 2), (0, u "java/io/Serializable"), (0, .class_ 4), (0, u "java/lang/Object")] 2

/-- java/io/Serializable -/
def k2 : Class := { plain "java/io/Serializable" (some 0) with
  accessFlags := 1537
  interfaces := #[]
  cf := some (fileOf pool2 1 #[] #[] 1537 3 #[] #[])
  fields := #[]
  methods := #[]
  instanceTypes := #[]
  staticTypes := #[]
  resolved := Array.replicate 7 none
  statics := none }

def pool3 : Array CpInfo := pool [(1, .class_ 2), (0, u "java/lang/Comparable"), (0, .class_ 4), (0, u "java/lang/Object")] 7

/-- java/lang/Comparable -/
def k3 : Class := { plain "java/lang/Comparable" (some 0) with
  accessFlags := 1537
  interfaces := #[]
  cf := some (fileOf pool3 1 #[] #[] 1537 3 #[] #[])
  fields := #[]
  methods := #[]
  instanceTypes := #[]
  staticTypes := #[]
  resolved := Array.replicate 12 none
  statics := none }

def pool4 : Array CpInfo := pool [(2, .class_ 4), (1, u "java/lang/CharSequence"), (42, .class_ 48), (0, u "java/lang/CharSequence$1CodePointIterator"), (10, .class_ 60), (0, u "java/lang/CharSequence$1CharIterator"), (5, .class_ 67), (0, u "java/lang/Object")] 63

/-- java/lang/CharSequence -/
def k4 : Class := { plain "java/lang/CharSequence" (some 0) with
  accessFlags := 1537
  interfaces := #[]
  cf := some (fileOf pool4 2 #[.nestMembers #[47, 59]] #[] 1537 66 #[] #[])
  fields := #[]
  methods := #[]
  instanceTypes := #[]
  staticTypes := #[]
  resolved := Array.replicate 131 none
  statics := none }

def pool5 : Array CpInfo := pool [(1, .class_ 2), (0, u "java/lang/constant/Constable"), (0, .class_ 4), (0, u "java/lang/Object")] 6

/-- java/lang/constant/Constable -/
def k5 : Class := { plain "java/lang/constant/Constable" (some 0) with
  accessFlags := 1537
  interfaces := #[]
  cf := some (fileOf pool5 1 #[] #[] 1537 3 #[] #[])
  fields := #[]
  methods := #[]
  instanceTypes := #[]
  staticTypes := #[]
  resolved := Array.replicate 11 none
  statics := none }

def pool6 : Array CpInfo := pool [(1, .class_ 2), (0, u "java/lang/constant/ConstantDesc"), (0, .class_ 4), (0, u "java/lang/Object")] 32

/-- java/lang/constant/ConstantDesc -/
def k6 : Class := { plain "java/lang/constant/ConstantDesc" (some 0) with
  accessFlags := 1537
  interfaces := #[]
  cf := some (fileOf pool6 1 #[] #[] 1537 3 #[] #[])
  fields := #[]
  methods := #[]
  instanceTypes := #[]
  staticTypes := #[]
  resolved := Array.replicate 37 none
  statics := none }

def pool7 : Array CpInfo := pool [(1, .methodref 2 3), (0, .class_ 4), (0, .nameAndType 5 6), (0, u "java/lang/Object"), (0, u "<init>"), (0, u "()V"), (2, .fieldref 10 11), (0, .class_ 12), (0, .nameAndType 13 14), (0, u "java/lang/String"), (0, u "value"), (0, u "[B"), (0, .fieldref 10 16), (0, .nameAndType 17 18), (0, u "coder"), (0, u "B"), (2, u "hash"), (0, u "I"), (2, u "hashIsZero"), (0, u "Z"), (0, .methodref 10 28), (0, .nameAndType 5 29), (0, u "([CIILjava/lang/Void;)V"), (8, .fieldref 10 39), (0, .nameAndType 40 26), (0, u "COMPACT_STRINGS"), (1, .class_ 44), (1, u "java/lang/StringUTF16"), (0, u "compress"), (1, .methodref 42 48), (0, .nameAndType 49 50), (0, u "coderFromArrayLen"), (0, u "([BI)B"), (2, u "toBytes"), (53, .class_ 109), (1, u "java/lang/StringLatin1"), (32, u "()Z"), (34, .methodref 42 178), (0, .nameAndType 45 179), (0, u "([CII)[B"), (29, .methodref 10 210), (0, .nameAndType 5 211), (0, u "([BB)V"), (157, u "(C)Z"), (171, .methodref 107 542), (0, .nameAndType 543 544), (0, u "equals"), (0, u "([B[B)Z"), (28, u "(Ljava/lang/Object;)Z"), (1, .class_ 576), (0, u "java/lang/CharSequence"), (22, u "CASE_INSENSITIVE_ORDER"), (0, u "Ljava/util/Comparator;"), (91, u "isEmpty"), (89, u "valueOf"), (0, u "(C)Ljava/lang/String;"), (226, u "([C)V"), (4, .methodref 107 1016), (0, .nameAndType 1017 369), (0, u "canEncode"), (0, .methodref 107 1019), (0, .nameAndType 53 1020), (0, u "(C)[B"), (0, .methodref 42 1019), (79, u "serialPersistentFields"), (0, u "[Ljava/io/ObjectStreamField;"), (0, .class_ 1104), (0, u "java/lang/String$CaseInsensitiveComparator"), (1, .class_ 1107), (0, u "java/io/Serializable"), (0, .class_ 1109), (0, u "java/lang/Comparable"), (0, .class_ 1111), (0, u "java/lang/constant/Constable"), (0, .class_ 1113), (0, u "java/lang/constant/ConstantDesc"), (2, u "serialVersionUID"), (0, u "J"), (3, u "REPL"), (0, u "C"), (2, u "LATIN1"), (1, u "UTF16")] 323

def k7m0 : Method := { name := "<init>", desc := "()V", sig := { parameters := [], returnType := none }, accessFlags := 1, code := none }
def k7c1 : Code := { maxStack := 5, maxLocals := 2, code := jdk_42_method_3_code, exceptionTable := #[], attributes := #[] }
def k7m1 : Method := { name := "<init>", desc := "([C)V", sig := { parameters := [(.array .char)], returnType := none }, accessFlags := 1, code := some k7c1 }
def k7c2 : Code := { maxStack := 1, maxLocals := 1, code := jdk_42_method_55_code, exceptionTable := #[], attributes := #[] }
def k7m2 : Method := { name := "isEmpty", desc := "()Z", sig := { parameters := [], returnType := some .boolean }, accessFlags := 1, code := some k7c2 }
def k7c3 : Code := { maxStack := 2, maxLocals := 3, code := jdk_42_method_66_code, exceptionTable := #[], attributes := #[] }
def k7m3 : Method := { name := "equals", desc := "(Ljava/lang/Object;)Z", sig := { parameters := [(.object "java/lang/Object")], returnType := some .boolean }, accessFlags := 1, code := some k7c3 }
def k7c4 : Code := { maxStack := 4, maxLocals := 1, code := jdk_42_method_139_code, exceptionTable := #[], attributes := #[] }
def k7m4 : Method := { name := "valueOf", desc := "(C)Ljava/lang/String;", sig := { parameters := [.char], returnType := some (.object "java/lang/String") }, accessFlags := 9, code := some k7c4 }
def k7c5 : Code := { maxStack := 4, maxLocals := 6, code := jdk_42_method_149_code, exceptionTable := #[], attributes := #[] }
def k7m5 : Method := { name := "<init>", desc := "([CIILjava/lang/Void;)V", sig := { parameters := [(.array .char), .int, .int, (.object "java/lang/Void")], returnType := none }, accessFlags := 2, code := some k7c5 }
def k7c6 : Code := { maxStack := 2, maxLocals := 3, code := jdk_42_method_151_code, exceptionTable := #[], attributes := #[] }
def k7m6 : Method := { name := "<init>", desc := "([BB)V", sig := { parameters := [(.array .byte), .byte], returnType := none }, accessFlags := 0, code := some k7c6 }
/-- java/lang/String -/
def k7 : Class := { plain "java/lang/String" (some 0) with
  accessFlags := 49
  interfaces := #[2, 3, 4, 5, 6]
  cf := some (fileOf pool7 10 #[.nestMembers #[1103]] #[{ accessFlags := 1, nameIndex := 5, descriptorIndex := 6, attributes := #[] }, { accessFlags := 1, nameIndex := 5, descriptorIndex := 1010, attributes := #[] }, { accessFlags := 1, nameIndex := 692, descriptorIndex := 142, attributes := #[] }, { accessFlags := 1, nameIndex := 543, descriptorIndex := 573, attributes := #[] }, { accessFlags := 9, nameIndex := 782, descriptorIndex := 783, attributes := #[] }, { accessFlags := 2, nameIndex := 5, descriptorIndex := 29, attributes := #[] }, { accessFlags := 0, nameIndex := 5, descriptorIndex := 211, attributes := #[] }] 49 2 #[1106, 1108, 575, 1110, 1112] #[{ accessFlags := 18, nameIndex := 13, descriptorIndex := 14, attributes := #[] }, { accessFlags := 18, nameIndex := 17, descriptorIndex := 18, attributes := #[] }, { accessFlags := 2, nameIndex := 21, descriptorIndex := 22, attributes := #[] }, { accessFlags := 2, nameIndex := 25, descriptorIndex := 26, attributes := #[] }, { accessFlags := 26, nameIndex := 1116, descriptorIndex := 1117, attributes := #[] }, { accessFlags := 24, nameIndex := 40, descriptorIndex := 26, attributes := #[] }, { accessFlags := 26, nameIndex := 1101, descriptorIndex := 1102, attributes := #[] }, { accessFlags := 26, nameIndex := 1121, descriptorIndex := 1122, attributes := #[] }, { accessFlags := 25, nameIndex := 599, descriptorIndex := 600, attributes := #[] }, { accessFlags := 24, nameIndex := 1125, descriptorIndex := 18, attributes := #[] }, { accessFlags := 24, nameIndex := 1127, descriptorIndex := 18, attributes := #[] }])
  fields := #[{ name := "value", type := (.array .byte), accessFlags := 18, slot := 0, constantValue := 0 }, { name := "coder", type := .byte, accessFlags := 18, slot := 1, constantValue := 0 }, { name := "hash", type := .int, accessFlags := 2, slot := 2, constantValue := 0 }, { name := "hashIsZero", type := .boolean, accessFlags := 2, slot := 3, constantValue := 0 }, { name := "serialVersionUID", type := .long, accessFlags := 26, slot := 0, constantValue := 0 }, { name := "COMPACT_STRINGS", type := .boolean, accessFlags := 24, slot := 1, constantValue := 0 }, { name := "serialPersistentFields", type := (.array (.object "java/io/ObjectStreamField")), accessFlags := 26, slot := 2, constantValue := 0 }, { name := "REPL", type := .char, accessFlags := 26, slot := 3, constantValue := 0 }, { name := "CASE_INSENSITIVE_ORDER", type := (.object "java/util/Comparator"), accessFlags := 25, slot := 4, constantValue := 0 }, { name := "LATIN1", type := .byte, accessFlags := 24, slot := 5, constantValue := 0 }, { name := "UTF16", type := .byte, accessFlags := 24, slot := 6, constantValue := 0 }]
  methods := #[k7m0, k7m1, k7m2, k7m3, k7m4, k7m5, k7m6]
  instanceTypes := #[(.array .byte), .byte, .int, .boolean]
  staticTypes := #[.long, .boolean, (.array (.object "java/io/ObjectStreamField")), .char, (.object "java/util/Comparator"), .byte, .byte]
  resolved := Array.replicate 1451 none
  statics := some 0 }

def pool8 : Array CpInfo := pool [(4, .class_ 6), (1, u "java/lang/Object"), (0, u "<init>"), (0, u "()V"), (5, .class_ 16), (1, u "java/lang/StringLatin1"), (73, u "canEncode"), (14, u "(C)Z"), (15, u "$assertionsDisabled"), (0, u "Z"), (98, .class_ 223), (1, u "java/lang/StringLatin1$LinesSpliterator"), (57, u "equals"), (0, u "([B[B)Z"), (97, u "toBytes"), (1, u "(C)[B"), (7, .class_ 391), (0, u "java/lang/StringLatin1$CharsSpliterator")] 3

def k8m0 : Method := { name := "<init>", desc := "()V", sig := { parameters := [], returnType := none }, accessFlags := 0, code := none }
def k8c1 : Code := { maxStack := 2, maxLocals := 1, code := jdk_43_method_3_code, exceptionTable := #[], attributes := #[] }
def k8m1 : Method := { name := "canEncode", desc := "(C)Z", sig := { parameters := [.char], returnType := some .boolean }, accessFlags := 9, code := some k8c1 }
def k8c2 : Code := { maxStack := 3, maxLocals := 3, code := jdk_43_method_13_code, exceptionTable := #[], attributes := #[] }
def k8m2 : Method := { name := "equals", desc := "([B[B)Z", sig := { parameters := [(.array .byte), (.array .byte)], returnType := some .boolean }, accessFlags := 9, code := some k8c2 }
def k8c3 : Code := { maxStack := 4, maxLocals := 1, code := jdk_43_method_46_code, exceptionTable := #[], attributes := #[] }
def k8m3 : Method := { name := "toBytes", desc := "(C)[B", sig := { parameters := [.char], returnType := some (.array .byte) }, accessFlags := 9, code := some k8c3 }
/-- java/lang/StringLatin1 -/
def k8 : Class := { plain "java/lang/StringLatin1" (some 0) with
  accessFlags := 48
  interfaces := #[]
  cf := some (fileOf pool8 14 #[.nestMembers #[390, 221]] #[{ accessFlags := 0, nameIndex := 7, descriptorIndex := 8, attributes := #[] }, { accessFlags := 9, nameIndex := 90, descriptorIndex := 105, attributes := #[] }, { accessFlags := 9, nameIndex := 281, descriptorIndex := 282, attributes := #[] }, { accessFlags := 9, nameIndex := 380, descriptorIndex := 382, attributes := #[] }] 48 4 #[] #[{ accessFlags := 4120, nameIndex := 121, descriptorIndex := 122, attributes := #[] }])
  fields := #[{ name := "$assertionsDisabled", type := .boolean, accessFlags := 4120, slot := 0, constantValue := 0 }]
  methods := #[k8m0, k8m1, k8m2, k8m3]
  instanceTypes := #[]
  staticTypes := #[.boolean]
  resolved := Array.replicate 395 none
  statics := none }

def pool9 : Array CpInfo := pool [(1, .methodref 2 3), (0, .class_ 4), (0, .nameAndType 5 6), (0, u "java/lang/Object"), (0, u "<init>"), (0, u "()V"), (0, .string 8), (0, u "name"), (0, .methodref 10 11), (0, .class_ 12), (0, .nameAndType 13 14), (0, u "java/util/Objects"), (0, u "requireNonNull"), (0, u "(Ljava/lang/Object;Ljava/lang/String;)Ljava/lang/Object;"), (0, .class_ 16), (0, u "java/lang/String"), (0, .methodref 15 18), (0, .nameAndType 19 20), (0, u "isEmpty"), (0, u "()Z"), (11, .fieldref 33 34), (0, .class_ 35), (0, .nameAndType 8 36), (0, u "com/example/tame_chase/tamechase/Predicate"), (0, u "Ljava/lang/String;"), (0, .fieldref 33 38), (0, .nameAndType 39 40), (0, u "arity"), (0, u "I"), (0, .methodref 15 42), (0, .nameAndType 43 44), (0, u "equals"), (0, u "(Ljava/lang/Object;)Z"), (7, u "(Ljava/lang/String;I)V")] 24

def k9c0 : Code := { maxStack := 3, maxLocals := 3, code := prog_52_method_1_code, exceptionTable := #[], attributes := #[] }
def k9m0 : Method := { name := "<init>", desc := "(Ljava/lang/String;I)V", sig := { parameters := [(.object "java/lang/String"), .int], returnType := none }, accessFlags := 1, code := some k9c0 }
def k9c1 : Code := { maxStack := 2, maxLocals := 3, code := prog_52_method_4_code, exceptionTable := #[], attributes := #[] }
def k9m1 : Method := { name := "equals", desc := "(Ljava/lang/Object;)Z", sig := { parameters := [(.object "java/lang/Object")], returnType := some .boolean }, accessFlags := 1, code := some k9c1 }
/-- com/example/tame_chase/tamechase/Predicate -/
def k9 : Class := { plain "com/example/tame_chase/tamechase/Predicate" (some 0) with
  accessFlags := 33
  interfaces := #[]
  cf := some (fileOf pool9 33 #[] #[{ accessFlags := 1, nameIndex := 5, descriptorIndex := 52, attributes := #[] }, { accessFlags := 1, nameIndex := 43, descriptorIndex := 44, attributes := #[] }] 33 2 #[] #[{ accessFlags := 18, nameIndex := 8, descriptorIndex := 36, attributes := #[] }, { accessFlags := 18, nameIndex := 39, descriptorIndex := 40, attributes := #[] }])
  fields := #[{ name := "name", type := (.object "java/lang/String"), accessFlags := 18, slot := 0, constantValue := 0 }, { name := "arity", type := .int, accessFlags := 18, slot := 1, constantValue := 0 }]
  methods := #[k9m0, k9m1]
  instanceTypes := #[(.object "java/lang/String"), .int]
  staticTypes := #[]
  resolved := Array.replicate 77 none
  statics := none }

def pool10 : Array CpInfo := pool [(2, .class_ 4), (1, u "java/lang/Object"), (0, u "<init>"), (0, u "()V"), (35, .class_ 44), (1, u "java/util/Objects"), (0, u "requireNonNull"), (48, u "(Ljava/lang/Object;Ljava/lang/String;)Ljava/lang/Object;")] 89

def k10m0 : Method := { name := "<init>", desc := "()V", sig := { parameters := [], returnType := none }, accessFlags := 2, code := none }
def k10c1 : Code := { maxStack := 3, maxLocals := 2, code := jdk_31_method_11_code, exceptionTable := #[], attributes := #[] }
def k10m1 : Method := { name := "requireNonNull", desc := "(Ljava/lang/Object;Ljava/lang/String;)Ljava/lang/Object;", sig := { parameters := [(.object "java/lang/Object"), (.object "java/lang/String")], returnType := some (.object "java/lang/Object") }, accessFlags := 9, code := some k10c1 }
/-- java/util/Objects -/
def k10 : Class := { plain "java/util/Objects" (some 0) with
  accessFlags := 49
  interfaces := #[]
  cf := some (fileOf pool10 42 #[] #[{ accessFlags := 2, nameIndex := 5, descriptorIndex := 6, attributes := #[] }, { accessFlags := 9, nameIndex := 45, descriptorIndex := 94, attributes := #[] }] 49 2 #[] #[])
  fields := #[]
  methods := #[k10m0, k10m1]
  instanceTypes := #[]
  staticTypes := #[]
  resolved := Array.replicate 184 none
  statics := none }

def pool11 : Array CpInfo := pool [(6, .class_ 8), (1, u "java/lang/Object"), (0, u "<init>"), (0, u "()V"), (0, .methodref 12 13), (0, .class_ 14), (0, .nameAndType 15 16), (0, u "java/lang/StringUTF16"), (0, u "newBytesLength"), (0, u "(I)I"), (3, .integer 1073741823), (23, .fieldref 12 45), (0, .nameAndType 46 47), (0, u "$assertionsDisabled"), (0, u "Z"), (11, .fieldref 12 60), (0, .nameAndType 61 62), (0, u "HI_BYTE_SHIFT"), (0, u "I"), (0, .fieldref 12 64), (0, .nameAndType 65 62), (0, u "LO_BYTE_SHIFT"), (5, .methodref 12 72), (0, .nameAndType 73 74), (0, u "getChar"), (0, u "([BI)C"), (32, .methodref 12 108), (0, .nameAndType 109 110), (0, u "newBytesFor"), (0, u "(I)[B"), (0, .methodref 12 112), (0, .nameAndType 113 114), (0, u "putChar"), (0, u "([BII)V"), (0, .methodref 12 116), (0, .nameAndType 117 118), (0, u "compress"), (0, u "([CI[BII)I"), (0, .methodref 12 120), (0, .nameAndType 121 122), (0, u "toBytes"), (0, u "([CII)[B"), (138, u "coderFromArrayLen"), (0, u "([BI)B"), (106, .class_ 371), (1, u "java/lang/StringUTF16$LinesSpliterator"), (58, u "MAX_LENGTH"), (44, u "(C)[B"), (151, .class_ 628), (0, u "java/lang/StringUTF16$CodePointsSpliterator"), (0, .class_ 630), (0, u "java/lang/StringUTF16$CharsSpliterator")] 4

def k11m0 : Method := { name := "<init>", desc := "()V", sig := { parameters := [], returnType := none }, accessFlags := 0, code := none }
def k11c1 : Code := { maxStack := 1, maxLocals := 1, code := jdk_52_method_2_code, exceptionTable := #[], attributes := #[] }
def k11m1 : Method := { name := "newBytesFor", desc := "(I)[B", sig := { parameters := [.int], returnType := some (.array .byte) }, accessFlags := 9, code := some k11c1 }
def k11c2 : Code := { maxStack := 4, maxLocals := 1, code := jdk_52_method_3_code, exceptionTable := #[], attributes := #[] }
def k11m2 : Method := { name := "newBytesLength", desc := "(I)I", sig := { parameters := [.int], returnType := some .int }, accessFlags := 9, code := some k11c2 }
def k11c3 : Code := { maxStack := 4, maxLocals := 3, code := jdk_52_method_4_code, exceptionTable := #[], attributes := #[] }
def k11m3 : Method := { name := "putChar", desc := "([BII)V", sig := { parameters := [(.array .byte), .int, .int], returnType := none }, accessFlags := 8, code := some k11c3 }
def k11c4 : Code := { maxStack := 3, maxLocals := 2, code := jdk_52_method_5_code, exceptionTable := #[], attributes := #[] }
def k11m4 : Method := { name := "getChar", desc := "([BI)C", sig := { parameters := [(.array .byte), .int], returnType := some .char }, accessFlags := 8, code := some k11c4 }
def k11c5 : Code := { maxStack := 4, maxLocals := 5, code := jdk_52_method_14_code, exceptionTable := #[], attributes := #[] }
def k11m5 : Method := { name := "toBytes", desc := "([CII)[B", sig := { parameters := [(.array .char), .int, .int], returnType := some (.array .byte) }, accessFlags := 9, code := some k11c5 }
def k11c6 : Code := { maxStack := 2, maxLocals := 2, code := jdk_52_method_15_code, exceptionTable := #[], attributes := #[] }
def k11m6 : Method := { name := "coderFromArrayLen", desc := "([BI)B", sig := { parameters := [(.array .byte), .int], returnType := some .byte }, accessFlags := 8, code := some k11c6 }
def k11c7 : Code := { maxStack := 5, maxLocals := 6, code := jdk_52_method_16_code, exceptionTable := #[], attributes := #[] }
def k11m7 : Method := { name := "compress", desc := "([CII)[B", sig := { parameters := [(.array .char), .int, .int], returnType := some (.array .byte) }, accessFlags := 9, code := some k11c7 }
def k11c8 : Code := { maxStack := 3, maxLocals := 7, code := jdk_52_method_21_code, exceptionTable := #[], attributes := #[] }
def k11m8 : Method := { name := "compress", desc := "([CI[BII)I", sig := { parameters := [(.array .char), .int, (.array .byte), .int, .int], returnType := some .int }, accessFlags := 9, code := some k11c8 }
def k11c9 : Code := { maxStack := 3, maxLocals := 2, code := jdk_52_method_24_code, exceptionTable := #[], attributes := #[] }
def k11m9 : Method := { name := "toBytes", desc := "(C)[B", sig := { parameters := [.char], returnType := some (.array .byte) }, accessFlags := 9, code := some k11c9 }
/-- java/lang/StringUTF16 -/
def k11 : Class := { plain "java/lang/StringUTF16" (some 0) with
  accessFlags := 48
  interfaces := #[]
  cf := some (fileOf pool11 12 #[.nestMembers #[627, 629, 369]] #[{ accessFlags := 0, nameIndex := 9, descriptorIndex := 10, attributes := #[] }, { accessFlags := 9, nameIndex := 109, descriptorIndex := 110, attributes := #[] }, { accessFlags := 9, nameIndex := 15, descriptorIndex := 16, attributes := #[] }, { accessFlags := 8, nameIndex := 113, descriptorIndex := 114, attributes := #[] }, { accessFlags := 8, nameIndex := 73, descriptorIndex := 74, attributes := #[] }, { accessFlags := 9, nameIndex := 121, descriptorIndex := 122, attributes := #[] }, { accessFlags := 8, nameIndex := 261, descriptorIndex := 262, attributes := #[] }, { accessFlags := 9, nameIndex := 117, descriptorIndex := 122, attributes := #[] }, { accessFlags := 9, nameIndex := 117, descriptorIndex := 118, attributes := #[] }, { accessFlags := 9, nameIndex := 121, descriptorIndex := 475, attributes := #[] }] 48 6 #[] #[{ accessFlags := 26, nameIndex := 61, descriptorIndex := 62, attributes := #[] }, { accessFlags := 26, nameIndex := 65, descriptorIndex := 62, attributes := #[] }, { accessFlags := 24, nameIndex := 430, descriptorIndex := 62, attributes := #[] }, { accessFlags := 4120, nameIndex := 46, descriptorIndex := 47, attributes := #[] }])
  fields := #[{ name := "HI_BYTE_SHIFT", type := .int, accessFlags := 26, slot := 0, constantValue := 0 }, { name := "LO_BYTE_SHIFT", type := .int, accessFlags := 26, slot := 1, constantValue := 0 }, { name := "MAX_LENGTH", type := .int, accessFlags := 24, slot := 2, constantValue := 0 }, { name := "$assertionsDisabled", type := .boolean, accessFlags := 4120, slot := 3, constantValue := 0 }]
  methods := #[k11m0, k11m1, k11m2, k11m3, k11m4, k11m5, k11m6, k11m7, k11m8, k11m9]
  instanceTypes := #[]
  staticTypes := #[.int, .int, .int, .boolean]
  resolved := Array.replicate 635 none
  statics := some 1 }

def pool12 : Array CpInfo := pool [(2, .class_ 4), (1, u "java/lang/Object"), (0, u "<init>"), (0, u "()V"), (17, .class_ 26), (1, u "jdk/internal/util/Preconditions"), (28, .class_ 56), (0, u "jdk/internal/util/Preconditions$4"), (57, .class_ 115), (0, u "jdk/internal/util/Preconditions$1"), (7, u "SIOOBE_FORMATTER"), (0, u "Ljava/util/function/BiFunction;"), (0, .class_ 126), (0, u "jdk/internal/util/Preconditions$2"), (3, u "AIOOBE_FORMATTER"), (0, .class_ 132), (0, u "jdk/internal/util/Preconditions$3"), (3, u "IOOBE_FORMATTER")] 57

def k12m0 : Method := { name := "<init>", desc := "()V", sig := { parameters := [], returnType := none }, accessFlags := 1, code := none }
/-- jdk/internal/util/Preconditions -/
def k12 : Class := { plain "jdk/internal/util/Preconditions" (some 0) with
  accessFlags := 33
  interfaces := #[]
  cf := some (fileOf pool12 24 #[.nestMembers #[55, 131, 125, 114]] #[{ accessFlags := 1, nameIndex := 5, descriptorIndex := 6, attributes := #[] }] 33 2 #[] #[{ accessFlags := 25, nameIndex := 123, descriptorIndex := 124, attributes := #[] }, { accessFlags := 25, nameIndex := 130, descriptorIndex := 124, attributes := #[] }, { accessFlags := 25, nameIndex := 136, descriptorIndex := 124, attributes := #[] }])
  fields := #[{ name := "SIOOBE_FORMATTER", type := (.object "java/util/function/BiFunction"), accessFlags := 25, slot := 0, constantValue := 0 }, { name := "AIOOBE_FORMATTER", type := (.object "java/util/function/BiFunction"), accessFlags := 25, slot := 1, constantValue := 0 }, { name := "IOOBE_FORMATTER", type := (.object "java/util/function/BiFunction"), accessFlags := 25, slot := 2, constantValue := 0 }]
  methods := #[k12m0]
  instanceTypes := #[]
  staticTypes := #[(.object "java/util/function/BiFunction"), (.object "java/util/function/BiFunction"), (.object "java/util/function/BiFunction")]
  resolved := Array.replicate 194 none
  statics := some 2 }

def pool13 : Array CpInfo := pool [(9, u "<init>"), (6, .class_ 18), (1, u "java/lang/Object"), (0, u "()V"), (1, .class_ 23), (1, u "jdk/internal/util/ArraysSupport"), (0, u "LOG2_ARRAY_LONG_INDEX_SCALE"), (0, u "I"), (2, u "U"), (0, u "Ljdk/internal/misc/Unsafe;"), (8, u "BIG_ENDIAN"), (0, u "Z"), (8, u "LOG2_BYTE_BIT_SIZE"), (4, u "LOG2_ARRAY_INT_INDEX_SCALE"), (54, u "JLA"), (0, u "Ljdk/internal/access/JavaLangAccess;"), (11, u "LOG2_ARRAY_BOOLEAN_INDEX_SCALE"), (9, u "LOG2_ARRAY_BYTE_INDEX_SCALE"), (5, u "LOG2_ARRAY_CHAR_INDEX_SCALE"), (5, u "LOG2_ARRAY_SHORT_INDEX_SCALE"), (18, u "LOG2_ARRAY_FLOAT_INDEX_SCALE"), (24, u "LOG2_ARRAY_DOUBLE_INDEX_SCALE"), (89, u "T_BOOLEAN"), (2, u "T_CHAR"), (1, u "T_FLOAT"), (1, u "T_DOUBLE"), (1, u "T_BYTE"), (1, u "T_SHORT"), (1, u "T_INT"), (1, u "T_LONG"), (1, u "SOFT_MAX_ARRAY_LENGTH")] 83

def k13m0 : Method := { name := "<init>", desc := "()V", sig := { parameters := [], returnType := none }, accessFlags := 2, code := none }
/-- jdk/internal/util/ArraysSupport -/
def k13 : Class := { plain "jdk/internal/util/ArraysSupport" (some 0) with
  accessFlags := 33
  interfaces := #[]
  cf := some (fileOf pool13 21 #[] #[{ accessFlags := 2, nameIndex := 9, descriptorIndex := 19, attributes := #[] }] 33 16 #[] #[{ accessFlags := 24, nameIndex := 28, descriptorIndex := 29, attributes := #[] }, { accessFlags := 26, nameIndex := 38, descriptorIndex := 39, attributes := #[] }, { accessFlags := 25, nameIndex := 121, descriptorIndex := 25, attributes := #[] }, { accessFlags := 25, nameIndex := 131, descriptorIndex := 25, attributes := #[] }, { accessFlags := 25, nameIndex := 137, descriptorIndex := 25, attributes := #[] }, { accessFlags := 25, nameIndex := 143, descriptorIndex := 25, attributes := #[] }, { accessFlags := 25, nameIndex := 53, descriptorIndex := 25, attributes := #[] }, { accessFlags := 25, nameIndex := 24, descriptorIndex := 25, attributes := #[] }, { accessFlags := 25, nameIndex := 162, descriptorIndex := 25, attributes := #[] }, { accessFlags := 25, nameIndex := 187, descriptorIndex := 25, attributes := #[] }, { accessFlags := 26, nameIndex := 48, descriptorIndex := 25, attributes := #[] }, { accessFlags := 25, nameIndex := 277, descriptorIndex := 25, attributes := #[] }, { accessFlags := 25, nameIndex := 280, descriptorIndex := 25, attributes := #[] }, { accessFlags := 25, nameIndex := 282, descriptorIndex := 25, attributes := #[] }, { accessFlags := 25, nameIndex := 284, descriptorIndex := 25, attributes := #[] }, { accessFlags := 25, nameIndex := 286, descriptorIndex := 25, attributes := #[] }, { accessFlags := 25, nameIndex := 288, descriptorIndex := 25, attributes := #[] }, { accessFlags := 25, nameIndex := 290, descriptorIndex := 25, attributes := #[] }, { accessFlags := 25, nameIndex := 292, descriptorIndex := 25, attributes := #[] }, { accessFlags := 26, nameIndex := 108, descriptorIndex := 109, attributes := #[] }, { accessFlags := 25, nameIndex := 294, descriptorIndex := 25, attributes := #[] }])
  fields := #[{ name := "U", type := (.object "jdk/internal/misc/Unsafe"), accessFlags := 24, slot := 0, constantValue := 0 }, { name := "BIG_ENDIAN", type := .boolean, accessFlags := 26, slot := 1, constantValue := 0 }, { name := "LOG2_ARRAY_BOOLEAN_INDEX_SCALE", type := .int, accessFlags := 25, slot := 2, constantValue := 0 }, { name := "LOG2_ARRAY_BYTE_INDEX_SCALE", type := .int, accessFlags := 25, slot := 3, constantValue := 0 }, { name := "LOG2_ARRAY_CHAR_INDEX_SCALE", type := .int, accessFlags := 25, slot := 4, constantValue := 0 }, { name := "LOG2_ARRAY_SHORT_INDEX_SCALE", type := .int, accessFlags := 25, slot := 5, constantValue := 0 }, { name := "LOG2_ARRAY_INT_INDEX_SCALE", type := .int, accessFlags := 25, slot := 6, constantValue := 0 }, { name := "LOG2_ARRAY_LONG_INDEX_SCALE", type := .int, accessFlags := 25, slot := 7, constantValue := 0 }, { name := "LOG2_ARRAY_FLOAT_INDEX_SCALE", type := .int, accessFlags := 25, slot := 8, constantValue := 0 }, { name := "LOG2_ARRAY_DOUBLE_INDEX_SCALE", type := .int, accessFlags := 25, slot := 9, constantValue := 0 }, { name := "LOG2_BYTE_BIT_SIZE", type := .int, accessFlags := 26, slot := 10, constantValue := 0 }, { name := "T_BOOLEAN", type := .int, accessFlags := 25, slot := 11, constantValue := 0 }, { name := "T_CHAR", type := .int, accessFlags := 25, slot := 12, constantValue := 0 }, { name := "T_FLOAT", type := .int, accessFlags := 25, slot := 13, constantValue := 0 }, { name := "T_DOUBLE", type := .int, accessFlags := 25, slot := 14, constantValue := 0 }, { name := "T_BYTE", type := .int, accessFlags := 25, slot := 15, constantValue := 0 }, { name := "T_SHORT", type := .int, accessFlags := 25, slot := 16, constantValue := 0 }, { name := "T_INT", type := .int, accessFlags := 25, slot := 17, constantValue := 0 }, { name := "T_LONG", type := .int, accessFlags := 25, slot := 18, constantValue := 0 }, { name := "JLA", type := (.object "jdk/internal/access/JavaLangAccess"), accessFlags := 26, slot := 19, constantValue := 0 }, { name := "SOFT_MAX_ARRAY_LENGTH", type := .int, accessFlags := 25, slot := 20, constantValue := 0 }]
  methods := #[k13m0]
  instanceTypes := #[]
  staticTypes := #[(.object "jdk/internal/misc/Unsafe"), .boolean, .int, .int, .int, .int, .int, .int, .int, .int, .int, .int, .int, .int, .int, .int, .int, .int, .int, (.object "jdk/internal/access/JavaLangAccess"), .int]
  resolved := Array.replicate 378 none
  statics := none }

def pool14 : Array CpInfo := pool [(1, u "java/lang/Cloneable"), (0, .class_ 1), (0, u "java/lang/Object"), (0, .class_ 3)] 3

/-- java/lang/Cloneable -/
def k14 : Class := { plain "java/lang/Cloneable" (some 0) with
  accessFlags := 1537
  interfaces := #[]
  cf := some (fileOf pool14 2 #[] #[] 1537 4 #[] #[])
  fields := #[]
  methods := #[]
  instanceTypes := #[]
  staticTypes := #[]
  resolved := Array.replicate 8 none
  statics := none }

/-- the primitive byte -/
def k15 : Class := { plain "byte" none with kind := .primitive 'B', accessFlags := 0x411 }
/-- [B -/
def k16 : Class := { plain "[B" (some 0) with kind := .array 15 .byte, interfaces := #[14, 2], accessFlags := 1041 }

/-- the primitive char -/
def k17 : Class := { plain "char" none with kind := .primitive 'C', accessFlags := 0x411 }
/-- [C -/
def k18 : Class := { plain "[C" (some 0) with kind := .array 17 .char, interfaces := #[14, 2], accessFlags := 1041 }

/-- the primitive int -/
def k19 : Class := { plain "int" none with kind := .primitive 'I', accessFlags := 0x411 }
/-- [I -/
def k20 : Class := { plain "[I" (some 0) with kind := .array 19 .int, interfaces := #[14, 2], accessFlags := 1041 }

def heap : Heap := #[{ cls := 7, slots := #[.long 0, .int 1, .null, .int 0, .null, .int 0, .int 0], vm := .statics 7 },
  { cls := 11, slots := #[.int 0, .int 8, .int 0, .int 1], vm := .statics 11 },
  { cls := 12, slots := #[.null, .null, .null], vm := .statics 12 }]
def classes : Array Class := #[k0, k1, k2, k3, k4, k5, k6, k7, k8, k9, k10, k11, k12, k13, k14, k15, k16, k17, k18, k19, k20]
def interned : List (Array UInt16 × Addr) := []
def slotsUsed : Nat := 14
def theMethod : MethodId := ⟨1, 1⟩
def args0 : Array Value := #[.int 5, .int 7, .int 9, .int 2, .int 0]
def aboutOver (below : List Frame) : State where
  vm := { classes := classes, interned := interned.toArray }
  heap := heap
  slotsUsed := slotsUsed
  threads := #[{ frames := .invoking theMethod args0 :: below }]
def below0 : List Frame := [.native { method := ⟨0, 0⟩, args := #[] }]
def about1 : State := aboutOver below0
def p0 : Program := .bare "" "" ""
def e0 : Env := launch0.env 0 0 0
theorem w_frames : about1.frames = Frame.invoking theMethod args0 :: below0 := rfl
set_option maxRecDepth 65536 in
theorem w_args : argsFit about1.vm theMethod args0 = true := by decide +kernel
set_option maxRecDepth 65536 in
theorem w_heap : heapFits about1 = true := by decide +kernel
set_option maxRecDepth 65536 in
theorem w_runnable : about1.curStatus? = some .runnable := by decide +kernel
set_option maxRecDepth 65536 in
theorem w_alone : about1.alone = true := by decide +kernel
set_option maxRecDepth 65536 in
theorem w_named : about1.methodNamed? x = some theMethod := by decide +kernel
set_option maxRecDepth 65536 in
theorem w_hears : about1.hears theMethod below0 = true := by decide +kernel
set_option maxRecDepth 65536 in
theorem w_ripe : about1.ripe theMethod args0 below0 = true := by decide +kernel
theorem w_running : about1.status = .running := rfl
set_option maxRecDepth 65536 in
theorem w_room : about1.hasRoom e0.platform room_1 = true :=
  launch0.hasRoom_least _ room_1 (by decide +kernel) (by decide +kernel) (by decide +kernel) (by decide +kernel) (by decide +kernel) (by decide +kernel)
theorem allAtoms_all (ts : List Jvm.Cond) (a : Array Jvm.Value) (st : Jvm.State) : (allAtoms ts).before a st = ts.all (fun c => c.before a st) := by
  induction ts with
  | nil => rfl
  | cons c t ih =>
    show (Jvm.Cond.and c (allAtoms t)).before a st = _
    rw [Jvm.Cond.before_and, ih, List.all_cons]
def words1 : List Jvm.Cond := Jvm.Cond.code x code maxLocals ret :: tables_1
/-- a 'code' word, met by the world's own term for the bytes: nothing is compared byte by byte -/
theorem code_word {y : MethodName} {bytes : ByteArray} {mx : Nat} {rt : Option FieldType} {a : Array Value} {s : State} {m : MethodId} {meth : Method} {c : Code} (h1 : s.methodNamed? y = some m) (h2 : s.vm.method? m = some meth) (h3 : meth.code = some c) (h4 : c.code = bytes)
    (h5 : (c.maxLocals == mx && c.exceptionTable.isEmpty && decide (c.maxStack ≤ mostOperands) && decide (meth.sig.returnType = rt) && !meth.locks && decide (parseMethodDescriptor y.desc = some meth.sig)) = true) : (Jvm.Cond.code y bytes mx rt).before a s = true := by
  simp only [Bool.and_eq_true, beq_iff_eq, Bool.not_eq_true', decide_eq_true_eq] at h5
  obtain ⟨⟨⟨⟨⟨g1, g2⟩, g3⟩, g4⟩, g5⟩, g6⟩ := h5
  simp [Cond.before, Cond.holds, Cond.value, h1, h2, h3, h4, g1, g2, g3, g4, g5, g6]
def isCode : Jvm.Cond → Bool
  | .code _ _ _ _ => true
  | _ => false
theorem all_split {L : List Jvm.Cond} {P : Jvm.Cond → Bool} (h1 : L.all (fun c => isCode c || P c) = true) (h2 : ∀ c ∈ L.filter isCode, P c = true) : L.all P = true := by
  refine List.all_eq_true.mpr fun c hc => ?_
  have h := List.all_eq_true.mp h1 c hc
  rcases Bool.eq_false_or_eq_true (isCode c) with hi | hi
  · exact h2 c (List.mem_filter.mpr ⟨hc, hi⟩)
  · simpa [hi] using h
set_option maxRecDepth 65536 in
theorem w_c0 : (Jvm.Cond.code x code maxLocals ret).before args0 about1 = true := code_word (m := ⟨1, 1⟩) (meth := k1m1) (c := k1c1) (by decide +kernel) rfl rfl rfl (by decide +kernel)
set_option maxRecDepth 65536 in
theorem w_c1 : (Jvm.Cond.code ({ cls := "java/lang/String", name := "valueOf", desc := "(C)Ljava/lang/String;" } : Jvm.MethodName) jdk_42_method_139_code (1 : Nat) (Option.some (Jvm.ClassFile.FieldType.object "java/lang/String"))).before args0 about1 = true := code_word (m := ⟨7, 4⟩) (meth := k7m4) (c := k7c4) (by decide +kernel) rfl rfl rfl (by decide +kernel)
set_option maxRecDepth 65536 in
theorem w_c2 : (Jvm.Cond.code ({ cls := "java/lang/StringLatin1", name := "canEncode", desc := "(C)Z" } : Jvm.MethodName) jdk_43_method_3_code (1 : Nat) (Option.some Jvm.ClassFile.FieldType.boolean)).before args0 about1 = true := code_word (m := ⟨8, 1⟩) (meth := k8m1) (c := k8c1) (by decide +kernel) rfl rfl rfl (by decide +kernel)
set_option maxRecDepth 65536 in
theorem w_c3 : (Jvm.Cond.code ({ cls := "java/lang/StringLatin1", name := "toBytes", desc := "(C)[B" } : Jvm.MethodName) jdk_43_method_46_code (1 : Nat) (Option.some (Jvm.ClassFile.FieldType.array Jvm.ClassFile.FieldType.byte))).before args0 about1 = true := code_word (m := ⟨8, 3⟩) (meth := k8m3) (c := k8c3) (by decide +kernel) rfl rfl rfl (by decide +kernel)
set_option maxRecDepth 65536 in
theorem w_c4 : (Jvm.Cond.code ({ cls := "java/lang/String", name := "<init>", desc := "([BB)V" } : Jvm.MethodName) jdk_42_method_151_code (3 : Nat) (Option.none : Option Jvm.ClassFile.FieldType)).before args0 about1 = true := code_word (m := ⟨7, 6⟩) (meth := k7m6) (c := k7c6) (by decide +kernel) rfl rfl rfl (by decide +kernel)
set_option maxRecDepth 65536 in
theorem w_c5 : (Jvm.Cond.code ({ cls := "java/lang/Object", name := "<init>", desc := "()V" } : Jvm.MethodName) object_method_1_code (1 : Nat) (Option.none : Option Jvm.ClassFile.FieldType)).before args0 about1 = true := code_word (m := ⟨0, 0⟩) (meth := k0m0) (c := k0c0) (by decide +kernel) rfl rfl rfl (by decide +kernel)
set_option maxRecDepth 65536 in
theorem w_c6 : (Jvm.Cond.code ({ cls := "com/example/tame_chase/tamechase/Predicate", name := "<init>", desc := "(Ljava/lang/String;I)V" } : Jvm.MethodName) prog_52_method_1_code (3 : Nat) (Option.none : Option Jvm.ClassFile.FieldType)).before args0 about1 = true := code_word (m := ⟨9, 0⟩) (meth := k9m0) (c := k9c0) (by decide +kernel) rfl rfl rfl (by decide +kernel)
set_option maxRecDepth 65536 in
theorem w_c7 : (Jvm.Cond.code ({ cls := "java/util/Objects", name := "requireNonNull", desc := "(Ljava/lang/Object;Ljava/lang/String;)Ljava/lang/Object;" } : Jvm.MethodName) jdk_31_method_11_code (2 : Nat) (Option.some (Jvm.ClassFile.FieldType.object "java/lang/Object"))).before args0 about1 = true := code_word (m := ⟨10, 1⟩) (meth := k10m1) (c := k10c1) (by decide +kernel) rfl rfl rfl (by decide +kernel)
set_option maxRecDepth 65536 in
theorem w_c8 : (Jvm.Cond.code ({ cls := "java/lang/String", name := "isEmpty", desc := "()Z" } : Jvm.MethodName) jdk_42_method_55_code (1 : Nat) (Option.some Jvm.ClassFile.FieldType.boolean)).before args0 about1 = true := code_word (m := ⟨7, 2⟩) (meth := k7m2) (c := k7c2) (by decide +kernel) rfl rfl rfl (by decide +kernel)
set_option maxRecDepth 65536 in
theorem w_c9 : (Jvm.Cond.code ({ cls := "com/example/tame_chase/tamechase/Predicate", name := "equals", desc := "(Ljava/lang/Object;)Z" } : Jvm.MethodName) prog_52_method_4_code (3 : Nat) (Option.some Jvm.ClassFile.FieldType.boolean)).before args0 about1 = true := code_word (m := ⟨9, 1⟩) (meth := k9m1) (c := k9c1) (by decide +kernel) rfl rfl rfl (by decide +kernel)
set_option maxRecDepth 65536 in
theorem w_c10 : (Jvm.Cond.code ({ cls := "java/lang/String", name := "<init>", desc := "([C)V" } : Jvm.MethodName) jdk_42_method_3_code (2 : Nat) (Option.none : Option Jvm.ClassFile.FieldType)).before args0 about1 = true := code_word (m := ⟨7, 1⟩) (meth := k7m1) (c := k7c1) (by decide +kernel) rfl rfl rfl (by decide +kernel)
set_option maxRecDepth 65536 in
theorem w_c11 : (Jvm.Cond.code ({ cls := "java/lang/String", name := "<init>", desc := "([CIILjava/lang/Void;)V" } : Jvm.MethodName) jdk_42_method_149_code (6 : Nat) (Option.none : Option Jvm.ClassFile.FieldType)).before args0 about1 = true := code_word (m := ⟨7, 5⟩) (meth := k7m5) (c := k7c5) (by decide +kernel) rfl rfl rfl (by decide +kernel)
set_option maxRecDepth 65536 in
theorem w_c12 : (Jvm.Cond.code ({ cls := "java/lang/StringUTF16", name := "compress", desc := "([CII)[B" } : Jvm.MethodName) jdk_52_method_16_code (6 : Nat) (Option.some (Jvm.ClassFile.FieldType.array Jvm.ClassFile.FieldType.byte))).before args0 about1 = true := code_word (m := ⟨11, 7⟩) (meth := k11m7) (c := k11c7) (by decide +kernel) rfl rfl rfl (by decide +kernel)
set_option maxRecDepth 65536 in
theorem w_c13 : (Jvm.Cond.code ({ cls := "java/lang/StringUTF16", name := "compress", desc := "([CI[BII)I" } : Jvm.MethodName) jdk_52_method_21_code (7 : Nat) (Option.some Jvm.ClassFile.FieldType.int)).before args0 about1 = true := code_word (m := ⟨11, 8⟩) (meth := k11m8) (c := k11c8) (by decide +kernel) rfl rfl rfl (by decide +kernel)
set_option maxRecDepth 65536 in
theorem w_c14 : (Jvm.Cond.code ({ cls := "java/lang/StringUTF16", name := "coderFromArrayLen", desc := "([BI)B" } : Jvm.MethodName) jdk_52_method_15_code (2 : Nat) (Option.some Jvm.ClassFile.FieldType.byte)).before args0 about1 = true := code_word (m := ⟨11, 6⟩) (meth := k11m6) (c := k11c6) (by decide +kernel) rfl rfl rfl (by decide +kernel)
set_option maxRecDepth 65536 in
theorem w_c15 : (Jvm.Cond.code ({ cls := "java/lang/StringUTF16", name := "toBytes", desc := "([CII)[B" } : Jvm.MethodName) jdk_52_method_14_code (5 : Nat) (Option.some (Jvm.ClassFile.FieldType.array Jvm.ClassFile.FieldType.byte))).before args0 about1 = true := code_word (m := ⟨11, 5⟩) (meth := k11m5) (c := k11c5) (by decide +kernel) rfl rfl rfl (by decide +kernel)
set_option maxRecDepth 65536 in
theorem w_c16 : (Jvm.Cond.code ({ cls := "java/lang/StringUTF16", name := "newBytesFor", desc := "(I)[B" } : Jvm.MethodName) jdk_52_method_2_code (1 : Nat) (Option.some (Jvm.ClassFile.FieldType.array Jvm.ClassFile.FieldType.byte))).before args0 about1 = true := code_word (m := ⟨11, 1⟩) (meth := k11m1) (c := k11c1) (by decide +kernel) rfl rfl rfl (by decide +kernel)
set_option maxRecDepth 65536 in
theorem w_c17 : (Jvm.Cond.code ({ cls := "java/lang/StringUTF16", name := "newBytesLength", desc := "(I)I" } : Jvm.MethodName) jdk_52_method_3_code (1 : Nat) (Option.some Jvm.ClassFile.FieldType.int)).before args0 about1 = true := code_word (m := ⟨11, 2⟩) (meth := k11m2) (c := k11c2) (by decide +kernel) rfl rfl rfl (by decide +kernel)
set_option maxRecDepth 65536 in
theorem w_c18 : (Jvm.Cond.code ({ cls := "java/lang/StringUTF16", name := "putChar", desc := "([BII)V" } : Jvm.MethodName) jdk_52_method_4_code (3 : Nat) (Option.none : Option Jvm.ClassFile.FieldType)).before args0 about1 = true := code_word (m := ⟨11, 3⟩) (meth := k11m3) (c := k11c3) (by decide +kernel) rfl rfl rfl (by decide +kernel)
set_option maxRecDepth 65536 in
theorem w_c19 : (Jvm.Cond.code ({ cls := "java/lang/StringUTF16", name := "getChar", desc := "([BI)C" } : Jvm.MethodName) jdk_52_method_5_code (2 : Nat) (Option.some Jvm.ClassFile.FieldType.char)).before args0 about1 = true := code_word (m := ⟨11, 4⟩) (meth := k11m4) (c := k11c4) (by decide +kernel) rfl rfl rfl (by decide +kernel)
set_option maxRecDepth 65536 in
theorem w_c20 : (Jvm.Cond.code ({ cls := "java/lang/StringUTF16", name := "toBytes", desc := "(C)[B" } : Jvm.MethodName) jdk_52_method_24_code (2 : Nat) (Option.some (Jvm.ClassFile.FieldType.array Jvm.ClassFile.FieldType.byte))).before args0 about1 = true := code_word (m := ⟨11, 9⟩) (meth := k11m9) (c := k11c9) (by decide +kernel) rfl rfl rfl (by decide +kernel)
set_option maxRecDepth 65536 in
theorem w_c21 : (Jvm.Cond.code ({ cls := "java/lang/String", name := "equals", desc := "(Ljava/lang/Object;)Z" } : Jvm.MethodName) jdk_42_method_66_code (3 : Nat) (Option.some Jvm.ClassFile.FieldType.boolean)).before args0 about1 = true := code_word (m := ⟨7, 3⟩) (meth := k7m3) (c := k7c3) (by decide +kernel) rfl rfl rfl (by decide +kernel)
set_option maxRecDepth 65536 in
theorem w_c22 : (Jvm.Cond.code ({ cls := "java/lang/StringLatin1", name := "equals", desc := "([B[B)Z" } : Jvm.MethodName) jdk_43_method_13_code (3 : Nat) (Option.some Jvm.ClassFile.FieldType.boolean)).before args0 about1 = true := code_word (m := ⟨8, 2⟩) (meth := k8m2) (c := k8c2) (by decide +kernel) rfl rfl rfl (by decide +kernel)
def codes1 : List Jvm.Cond := [Jvm.Cond.code x code maxLocals ret, Jvm.Cond.code ({ cls := "java/lang/String", name := "valueOf", desc := "(C)Ljava/lang/String;" } : Jvm.MethodName) jdk_42_method_139_code (1 : Nat) (Option.some (Jvm.ClassFile.FieldType.object "java/lang/String")), Jvm.Cond.code ({ cls := "java/lang/StringLatin1", name := "canEncode", desc := "(C)Z" } : Jvm.MethodName) jdk_43_method_3_code (1 : Nat) (Option.some Jvm.ClassFile.FieldType.boolean), Jvm.Cond.code ({ cls := "java/lang/StringLatin1", name := "toBytes", desc := "(C)[B" } : Jvm.MethodName) jdk_43_method_46_code (1 : Nat) (Option.some (Jvm.ClassFile.FieldType.array Jvm.ClassFile.FieldType.byte)), Jvm.Cond.code ({ cls := "java/lang/String", name := "<init>", desc := "([BB)V" } : Jvm.MethodName) jdk_42_method_151_code (3 : Nat) (Option.none : Option Jvm.ClassFile.FieldType), Jvm.Cond.code ({ cls := "java/lang/Object", name := "<init>", desc := "()V" } : Jvm.MethodName) object_method_1_code (1 : Nat) (Option.none : Option Jvm.ClassFile.FieldType), Jvm.Cond.code ({ cls := "com/example/tame_chase/tamechase/Predicate", name := "<init>", desc := "(Ljava/lang/String;I)V" } : Jvm.MethodName) prog_52_method_1_code (3 : Nat) (Option.none : Option Jvm.ClassFile.FieldType), Jvm.Cond.code ({ cls := "java/util/Objects", name := "requireNonNull", desc := "(Ljava/lang/Object;Ljava/lang/String;)Ljava/lang/Object;" } : Jvm.MethodName) jdk_31_method_11_code (2 : Nat) (Option.some (Jvm.ClassFile.FieldType.object "java/lang/Object")), Jvm.Cond.code ({ cls := "java/lang/String", name := "isEmpty", desc := "()Z" } : Jvm.MethodName) jdk_42_method_55_code (1 : Nat) (Option.some Jvm.ClassFile.FieldType.boolean), Jvm.Cond.code ({ cls := "com/example/tame_chase/tamechase/Predicate", name := "equals", desc := "(Ljava/lang/Object;)Z" } : Jvm.MethodName) prog_52_method_4_code (3 : Nat) (Option.some Jvm.ClassFile.FieldType.boolean), Jvm.Cond.code ({ cls := "java/lang/String", name := "<init>", desc := "([C)V" } : Jvm.MethodName) jdk_42_method_3_code (2 : Nat) (Option.none : Option Jvm.ClassFile.FieldType), Jvm.Cond.code ({ cls := "java/lang/String", name := "<init>", desc := "([CIILjava/lang/Void;)V" } : Jvm.MethodName) jdk_42_method_149_code (6 : Nat) (Option.none : Option Jvm.ClassFile.FieldType), Jvm.Cond.code ({ cls := "java/lang/StringUTF16", name := "compress", desc := "([CII)[B" } : Jvm.MethodName) jdk_52_method_16_code (6 : Nat) (Option.some (Jvm.ClassFile.FieldType.array Jvm.ClassFile.FieldType.byte)), Jvm.Cond.code ({ cls := "java/lang/StringUTF16", name := "compress", desc := "([CI[BII)I" } : Jvm.MethodName) jdk_52_method_21_code (7 : Nat) (Option.some Jvm.ClassFile.FieldType.int), Jvm.Cond.code ({ cls := "java/lang/StringUTF16", name := "coderFromArrayLen", desc := "([BI)B" } : Jvm.MethodName) jdk_52_method_15_code (2 : Nat) (Option.some Jvm.ClassFile.FieldType.byte), Jvm.Cond.code ({ cls := "java/lang/StringUTF16", name := "toBytes", desc := "([CII)[B" } : Jvm.MethodName) jdk_52_method_14_code (5 : Nat) (Option.some (Jvm.ClassFile.FieldType.array Jvm.ClassFile.FieldType.byte)), Jvm.Cond.code ({ cls := "java/lang/StringUTF16", name := "newBytesFor", desc := "(I)[B" } : Jvm.MethodName) jdk_52_method_2_code (1 : Nat) (Option.some (Jvm.ClassFile.FieldType.array Jvm.ClassFile.FieldType.byte)), Jvm.Cond.code ({ cls := "java/lang/StringUTF16", name := "newBytesLength", desc := "(I)I" } : Jvm.MethodName) jdk_52_method_3_code (1 : Nat) (Option.some Jvm.ClassFile.FieldType.int), Jvm.Cond.code ({ cls := "java/lang/StringUTF16", name := "putChar", desc := "([BII)V" } : Jvm.MethodName) jdk_52_method_4_code (3 : Nat) (Option.none : Option Jvm.ClassFile.FieldType), Jvm.Cond.code ({ cls := "java/lang/StringUTF16", name := "getChar", desc := "([BI)C" } : Jvm.MethodName) jdk_52_method_5_code (2 : Nat) (Option.some Jvm.ClassFile.FieldType.char), Jvm.Cond.code ({ cls := "java/lang/StringUTF16", name := "toBytes", desc := "(C)[B" } : Jvm.MethodName) jdk_52_method_24_code (2 : Nat) (Option.some (Jvm.ClassFile.FieldType.array Jvm.ClassFile.FieldType.byte)), Jvm.Cond.code ({ cls := "java/lang/String", name := "equals", desc := "(Ljava/lang/Object;)Z" } : Jvm.MethodName) jdk_42_method_66_code (3 : Nat) (Option.some Jvm.ClassFile.FieldType.boolean), Jvm.Cond.code ({ cls := "java/lang/StringLatin1", name := "equals", desc := "([B[B)Z" } : Jvm.MethodName) jdk_43_method_13_code (3 : Nat) (Option.some Jvm.ClassFile.FieldType.boolean)]
set_option maxRecDepth 65536 in
theorem codes_eq : words1.filter isCode = codes1 := rfl
theorem w_codes : ∀ c ∈ words1.filter isCode, c.before args0 about1 = true := by
  rw [codes_eq]
  intro c hc
  simp only [codes1, List.mem_cons, List.not_mem_nil, or_false] at hc
  rcases hc with rfl | rfl | rfl | rfl | rfl | rfl | rfl | rfl | rfl | rfl | rfl | rfl | rfl | rfl | rfl | rfl | rfl | rfl | rfl | rfl | rfl | rfl | rfl
  · exact w_c0
  · exact w_c1
  · exact w_c2
  · exact w_c3
  · exact w_c4
  · exact w_c5
  · exact w_c6
  · exact w_c7
  · exact w_c8
  · exact w_c9
  · exact w_c10
  · exact w_c11
  · exact w_c12
  · exact w_c13
  · exact w_c14
  · exact w_c15
  · exact w_c16
  · exact w_c17
  · exact w_c18
  · exact w_c19
  · exact w_c20
  · exact w_c21
  · exact w_c22
set_option maxRecDepth 65536 in
theorem w_t1 : (words1.take 24).all (fun c => isCode c || c.before args0 about1) = true := by decide +kernel
set_option maxRecDepth 65536 in
theorem w_t2 : ((words1.drop 24).take 24).all (fun c => isCode c || c.before args0 about1) = true := by decide +kernel
set_option maxRecDepth 65536 in
theorem w_t3 : (((words1.drop 24).drop 24).take 24).all (fun c => isCode c || c.before args0 about1) = true := by decide +kernel
set_option maxRecDepth 65536 in
theorem w_t4 : ((((words1.drop 24).drop 24).drop 24).take 24).all (fun c => isCode c || c.before args0 about1) = true := by decide +kernel
set_option maxRecDepth 65536 in
theorem w_t5 : ((((words1.drop 24).drop 24).drop 24).drop 24).all (fun c => isCode c || c.before args0 about1) = true := by decide +kernel
theorem w_tables : (allAtoms (Jvm.Cond.code x code maxLocals ret :: tables_1)).before args0 about1 = true := by
  rw [allAtoms_all]
  show words1.all (fun c => c.before args0 about1) = true
  refine all_split ?_ w_codes
  rw [← List.take_append_drop 24 words1, List.all_append, w_t1, ← List.take_append_drop 24 (words1.drop 24), List.all_append, w_t2, ← List.take_append_drop 24 ((words1.drop 24).drop 24), List.all_append, w_t3, ← List.take_append_drop 24 (((words1.drop 24).drop 24).drop 24), List.all_append, w_t4, w_t5]
  rfl
set_option maxRecDepth 65536 in
theorem w_rest : rest_1_c.before args0 about1 = true := by decide +kernel
set_option maxRecDepth 65536 in
theorem w_case : (Jvm.Cond.and given_1 narrow_1).before args0 about1 = true := by decide +kernel
theorem w_applies : (headSpec (Jvm.Cond.code x code maxLocals ret :: tables_1) room_1).applies x e0.platform about1 = true :=
  (Spec.applies_iff w_frames).mpr ⟨w_running, w_runnable, w_alone, w_named, w_hears, w_ripe, w_room, w_tables⟩
theorem atStart : AtStart classFile x code maxLocals ret World_1 tables_1 room_1 Calls_1 rest_1 Pre_1 launch0 p0 e0 about1 theMethod args0 below0 :=
  ⟨lists_1, trivial, launch0.admits_env _ _ _, launch0.least_env, fairChoices_fair.cas, fairChoices_fair.clock, w_frames, w_args, w_heap, w_applies, trivial, w_rest, w_case⟩
end start1
theorem witness_1 : WitnessClaimed_1 := ⟨start1.p0, start1.e0, start1.about1, start1.theMethod, start1.args0, start1.below0, start1.atStart⟩
end Jvm.Pilot.@@N@@
