import JvmDerived
import JvmDerived.Pilot.@@N@@Statement
import JvmDerived.Pilot.@@N@@Code
set_option linter.unusedVariables false
set_option linter.unusedSimpArgs false
namespace Jvm.RoadKit
open Sem ClassFile Op Lib Jvm.Stand Jvm.Free Jvm.LawKit
section New
variable {p : Program} {l : Launch} {e : Env} {R : Room} {s : State} {m : MethodId} {args : Array Value} {below : List Frame} {meth : Method} {c : Code} {T : State} {locs : List Loc} {cells slots : Nat}
theorem retI (X : Stand p l e R s m args below meth c T locs cells slots) (hx : p.tables.exec = Jvm.exec) {pc : Nat} {Ls : Array Slot} {z : Int32} {rest : List Value} (hret : meth.sig.returnType = some .int) (hd : decode c.code pc = .ok (.ireturn, 1)) {fs : List Frame}
    (hl : ∀ (f : JFrame) (acts : List Action), f.method = m → f.locked = none → f.entered = [] → (doReturn e (T.setTop f) acts (some (.int z))).1 = T.setFrames fs) : Steps p.tables e below (T.setTop (mkF m pc Ls (.int z :: rest))) (T.setFrames fs) := by
  have hm' : T.vm.method? m = some meth := X.method'
  have hn : narrow .int (.int z) = .int z := rfl
  show Steps p.tables e below (T.setTop { method := m, pc := pc, locals := Ls, stack := _ :: rest, locked := none }) _
  jvm_step X.here [X.here.top, hx, hd, hm', hret, hn]
  first | (intro acts; rw [hl _ acts rfl rfl rfl]) | rw [hl _ _ rfl rfl rfl]
  exact Steps.refl _
end New
end Jvm.RoadKit
namespace Jvm.Pilot.@@N@@
open Jvm Jvm.ClassFile Sem Op Lib Jvm.Free Jvm.Stand Jvm.LawKit Jvm.RoadKit Bundle Jvm.Pilot.@@N@@.Jvm.D
section OwnLayer
variable {p : Program} {l : Launch} {e : Env} {R : Room} {s : State} {m : MethodId} {args : Array Value} {below : List Frame} {meth : Method} {c : Code} {Z : State} {a0 : Array Value} {EL : List (String × Nat)} {n0 : Nat} {kn wd : Bool} {own : String} {bytes : ByteArray} {ml : Nat} {ws : List Addr} {T : State} {h : Heap} {k n : Nat} {Φ : Outcome → State → Prop} {pc pc' : Nat} {Ls : Array Slot} {st rest : List Value}
theorem known_vm {vm0 : Vm} (hW : s.Warmed39 vm0) (q : s.vm.MethodsKnown ∧ s.vm.FramesKnown below) : vm0.MethodsKnown ∧ vm0.FramesKnown below := ⟨Vm.MethodsKnown.alikeC hW.alike q.1, Vm.FramesKnown.alikeC hW.alike q.2⟩
/-- where a walk stands: all that its steps ask -/
def Wk (p : Program) (l : Launch) (e : Env) (R : Room) (s : State) (m : MethodId) (args : Array Value) (below : List Frame) (meth : Method) (c : Code) (Z : State) (a0 : Array Value) (EL : List (String × Nat)) (n0 : Nat) (kn wd : Bool) (own : String) (bytes : ByteArray) (ml : Nat) (ws : List Addr) (T : State) (h : Heap) (k n : Nat) : Prop :=
  (p.tables.exec = Jvm.exec ∧ c.code = bytes ∧ c.maxLocals = ml ∧ Z.vm.findClass own = some m.cls ∧ EW Z a0 EL ∧ meth.locks = false ∧ (kn = true → s.vm.MethodsKnown ∧ s.vm.FramesKnown below)) ∧
  ∃ (vm0 : Vm) (k0 : Nat) (locs : List Loc), Stand p l e R (s.setVm vm0) m args below meth c T locs k n ∧ T.heap = h ∧ s.Since vm0 k0 ∧ k0 ≤ h.size ∧ Z.Warmed39 vm0 ∧ CHr Z EL s.vm s.heap vm0 h ∧ (∀ x ∈ ws, x < h.size ∧ Safe Z EL vm0 h x) ∧ Fr n0 locs ∧ (wd = false → s.WarmedH vm0) ∧ Old Z n0 h
/-- from this frame the method comes to its end, and Φ holds there -/
def Go (p : Program) (e : Env) (below : List Frame) (Φ : Outcome → State → Prop) (T : State) (f : JFrame) : Prop := ∃ s₂ o, Steps p.tables e below (T.setTop f) s₂ ∧ s₂.status = .running ∧ Ended s₂ below o ∧ Φ o s₂
/-- what a contract promises -/
def Po (s : State) (Z : State) (EL : List (String × Nat)) (n0 : Nat) (wd : Bool) (rc rs : Nat) (Q : Option Value → Heap → Prop) (o : Outcome) (t : State) : Prop :=
  ∃ v L, o = .returned v ∧ Q v t.heap ∧ Fr n0 L ∧ CHr Z EL s.vm s.heap t.vm t.heap ∧ (wd = false → s.WarmedH t.vm) ∧ Old Z n0 t.heap ∧ ReturnedEndW s o t L rc rs
/-- a contract: the method y, called with these arguments at this heap -/
def Ct (l : Launch) (Z : State) (a0 : Array Value) (EL : List (String × Nat)) (n0 : Nat) (kn wd : Bool) (y : MethodName) (bytes : ByteArray) (ml : Nat) (ret : Option FieldType) (cs : List Jvm.Cond) (rm : Room) (ws : List Addr) (as' : Array Value) (h : Heap) (Q : Option Value → Heap → Prop) : Prop :=
  MetFree l y (head1 (Jvm.Cond.code y bytes ml ret :: cs) rm) (fun a U => a = as' ∧ Z.Warmed39 U.vm ∧ U.heap = h ∧ CHv Z EL U.vm h ∧ Old Z n0 h ∧ ∀ x ∈ ws, x < h.size ∧ Safe Z EL U.vm h x) (fun _ _ bl s _ => kn = true → s.vm.MethodsKnown ∧ s.vm.FramesKnown bl) (fun _ U o U' => Po U Z EL n0 wd rm.cells rm.slots Q o U')
theorem Go.back {f f' : JFrame} {T' : State} (hs : ∀ t, Steps p.tables e below (T'.setTop f') t → Steps p.tables e below (T.setTop f) t) (G : Go p e below Φ T' f') : Go p e below Φ T f := by
  obtain ⟨s₂, o, h1, h2⟩ := G
  exact ⟨s₂, o, hs _ h1, h2⟩
/-- a plain step -/
theorem g1 {f f' : JFrame} (W : Wk p l e R s m args below meth c Z a0 EL n0 kn wd own bytes ml ws T h k n) (hs : ∀ t, At T m c below → p.tables.exec = Jvm.exec → c.code = bytes → Steps p.tables e below (T.setTop f') t → Steps p.tables e below (T.setTop f) t) (G : Go p e below Φ T f') : Go p e below Φ T f := by
  obtain ⟨⟨hx, hb, -⟩, vm0, k0, locs, X, -⟩ := W
  exact G.back fun t => hs t X.here hx hb
/-- a step that reads the heap -/
theorem g2 {f f' : JFrame} (W : Wk p l e R s m args below meth c Z a0 EL n0 kn wd own bytes ml ws T h k n) (hs : ∀ (vm0 : Vm) (locs : List Loc), Stand p l e R (s.setVm vm0) m args below meth c T locs k n → p.tables.exec = Jvm.exec → c.code = bytes → Z.Warmed39 vm0 → T.heap = h → vm0.findClass own = some m.cls → ∀ t, Steps p.tables e below (T.setTop f') t → Steps p.tables e below (T.setTop f) t) (G : Go p e below Φ T f') : Go p e below Φ T f := by
  obtain ⟨⟨hx, hb, -, hO, -⟩, vm0, k0, locs, X, eT, -, -, hZ, -⟩ := W
  exact G.back (hs vm0 locs X hx hb hZ eT ((hZ.alike.findClass own _).trans hO))
/-- a step after which the state is another, the heap the same -/
theorem g3 {f f' : JFrame} (W : Wk p l e R s m args below meth c Z a0 EL n0 kn wd own bytes ml ws T h k n) (hs : ∀ (vm0 : Vm) (locs : List Loc), Stand p l e R (s.setVm vm0) m args below meth c T locs k n → p.tables.exec = Jvm.exec → c.code = bytes → c.maxLocals = ml → Z.Warmed39 vm0 → T.heap = h → vm0.findClass own = some m.cls → ∃ T', Stand p l e R (s.setVm vm0) m args below meth c T' locs k n ∧ T'.heap = h ∧ ∀ t, Steps p.tables e below (T'.setTop f') t → Steps p.tables e below (T.setTop f) t)
    (G : ∀ T', Wk p l e R s m args below meth c Z a0 EL n0 kn wd own bytes ml ws T' h k n → Go p e below Φ T' f') : Go p e below Φ T f := by
  obtain ⟨⟨hx, hb, hml, hO, hrest⟩, vm0, k0, locs, X, eT, hS, hk, hZ, hr⟩ := W
  obtain ⟨T', X', e', q⟩ := hs vm0 locs X hx hb hml hZ eT ((hZ.alike.findClass own _).trans hO)
  exact (G T' ⟨⟨hx, hb, hml, hO, hrest⟩, vm0, k0, locs, X', e', hS, hk, hZ, hr⟩).back q
/-- the object may be written: it is no booked constant's -/
def Sf (Z : State) (EL : List (String × Nat)) (ws : List Addr) (h : Heap) (a : Addr) : Prop := a ∈ ws ∨ EL = [] ∨ (∃ C, Exa Z h a C ∧ C ≠ "java/lang/String" ∧ C ≠ "[B") ∨ (∃ cl ty, Arr Z h a cl ty ∧ ty ≠ .byte)
theorem Sf.safe {a : Addr} {vm0 : Vm} (hZ : Z.Warmed39 vm0) (hs : ∀ x ∈ ws, x < h.size ∧ Safe Z EL vm0 h x) (q : Sf Z EL ws h a) : Safe Z EL vm0 h a := by
  rcases q with q | rfl | ⟨C, E, h1, h2⟩ | ⟨cl, ty, A, ht⟩
  · exact (hs a q).2
  · intro B
    obtain ⟨p, hp, -⟩ := B
    cases hp
  · exact Safe.exa hZ.alike E h1 h2
  · exact Safe.arr hZ.alike A ht
/-- a step that writes one place -/
theorem g4 {f f' : JFrame} {a : Addr} {sl : Nat} {v : Value} (W : Wk p l e R s m args below meth c Z a0 EL n0 kn wd own bytes ml ws T h k n) (hn : n0 ≤ a) (hsf : Sf Z EL ws h a)
    (hs : ∀ (vm0 : Vm) (locs : List Loc), Stand p l e R (s.setVm vm0) m args below meth c T locs k n → p.tables.exec = Jvm.exec → c.code = bytes → Z.Warmed39 vm0 → T.heap = h → vm0.findClass own = some m.cls → ∃ T' h', Stand p l e R (s.setVm vm0) m args below meth c T' (locs ++ [⟨a, sl⟩]) k n ∧ T'.heap = h' ∧ Wr h h' a sl v ∧ ∀ t, Steps p.tables e below (T'.setTop f') t → Steps p.tables e below (T.setTop f) t)
    (G : ∀ T' h', Wk p l e R s m args below meth c Z a0 EL n0 kn wd own bytes ml ws T' h' k n → Wr h h' a sl v → Go p e below Φ T' f') : Go p e below Φ T f := by
  obtain ⟨⟨hx, hb, hml, hO, hrest⟩, vm0, k0, locs, X, eT, hS, hk, hZ, hC, hws, hF, hwd, hOl⟩ := W
  obtain ⟨T', h', X', e', Wr', q⟩ := hs vm0 locs X hx hb hZ eT ((hZ.alike.findClass own _).trans hO)
  have sa := hsf.safe hZ hws
  exact (G T' h' ⟨⟨hx, hb, hml, hO, hrest⟩, vm0, k0, _, X', e', hS, by rw [Wr'.size]; exact hk, hZ, hC.trans (CHr.wr Wr' sa hC.1), fun x hx' => ⟨by rw [Wr'.size]; exact (hws x hx').1, Safe.wr Wr' sa hC.1 (hws x hx').2⟩, Fr.snoc X' hF hn, hwd, hOl.wr Wr' hn⟩ Wr').back q
/-- a step that makes one cell -/
theorem g5 {f : JFrame} {f' : Addr → JFrame} {nc : Nat} {P : Heap → Addr → Prop} (W : Wk p l e R s m args below meth c Z a0 EL n0 kn wd own bytes ml ws T h k n) (hlt : ∀ h', P h' h.size → h.size < h'.size)
    (hs : ∀ (vm0 : Vm) (locs : List Loc), Stand p l e R (s.setVm vm0) m args below meth c T locs k n → p.tables.exec = Jvm.exec → c.code = bytes → Z.Warmed39 vm0 → T.heap = h → vm0.findClass own = some m.cls → ∃ T' h', Stand p l e R (s.setVm vm0) m args below meth c T' locs (k + 1) (n + nc) ∧ T'.heap = h' ∧ Ext h h' ∧ P h' h.size ∧ ∀ t, Steps p.tables e below (T'.setTop (f' h.size)) t → Steps p.tables e below (T.setTop f) t)
    (G : ∀ T' h' a, a = h.size → Wk p l e R s m args below meth c Z a0 EL n0 kn wd own bytes ml (a :: ws) T' h' (k + 1) (n + nc) → Ext h h' → P h' a → Go p e below Φ T' (f' a)) : Go p e below Φ T f := by
  obtain ⟨⟨hx, hb, hml, hO, hrest⟩, vm0, k0, locs, X, eT, hS, hk, hZ, hC, hws, hF, hwd, hOl⟩ := W
  obtain ⟨T', h', X', e', E, P', q⟩ := hs vm0 locs X hx hb hZ eT ((hZ.alike.findClass own _).trans hO)
  refine (G T' h' h.size rfl ⟨⟨hx, hb, hml, hO, hrest⟩, vm0, k0, _, X', e', hS, Nat.le_trans hk E.1, hZ, hC.trans (CHr.ext E hC.1), fun x hx' => ?_, hF, hwd, hOl.ext E⟩ E P').back q
  rcases List.mem_cons.mp hx' with rfl | hx'
  · exact ⟨hlt h' P', Safe.ext E hC.1 (Safe.new (Nat.le_refl _))⟩
  · exact ⟨Nat.lt_of_lt_of_le (hws x hx').1 E.1, Safe.ext E hC.1 (hws x hx').2⟩
theorem Wk.size0 (W : Wk p l e R s m args below meth c Z a0 EL n0 kn wd own bytes ml ws T h k n) : s.heap.size ≤ h.size := by
  obtain ⟨-, vm0, k0, locs, X, eT, hS, hk, hZ, hC, -⟩ := W
  exact hC.2.1
theorem Wk.old (W : Wk p l e R s m args below meth c Z a0 EL n0 kn wd own bytes ml ws T h k n) : Old Z n0 h := by
  obtain ⟨-, vm0, k0, locs, X, eT, hS, hk, hZ, hC, hws, hF, hwd, hOl⟩ := W
  exact hOl
theorem Wk.lt {a : Addr} (W : Wk p l e R s m args below meth c Z a0 EL n0 kn wd own bytes ml ws T h k n) (q : a ∈ ws) : a < h.size := by
  obtain ⟨-, vm0, k0, locs, X, eT, hS, hk, hZ, hC, hws, -⟩ := W
  exact (hws a q).1
theorem Wk.n0le (W : Wk p l e R s m args below meth c Z a0 EL n0 kn wd own bytes ml ws T h k n) : n0 ≤ h.size := W.old.1 ▸ W.old.2.1
theorem Wk.less {ws' : List Addr} (W : Wk p l e R s m args below meth c Z a0 EL n0 kn wd own bytes ml ws T h k n) (hq : ∀ x ∈ ws', x ∈ ws) : Wk p l e R s m args below meth c Z a0 EL n0 kn wd own bytes ml ws' T h k n := by
  obtain ⟨h1, vm0, k0, locs, X, eT, hS, hk, hZ, hC, hws, hF, hwd⟩ := W
  exact ⟨h1, vm0, k0, locs, X, eT, hS, hk, hZ, hC, fun x hx => hws x (hq x hx), hF, hwd⟩
theorem Wk.up {k' n' : Nat} (W : Wk p l e R s m args below meth c Z a0 EL n0 kn wd own bytes ml ws T h k n) (hk' : k ≤ k') (hn' : n ≤ n') : Wk p l e R s m args below meth c Z a0 EL n0 kn wd own bytes ml ws T h k' n' := by
  obtain ⟨h1, vm0, k0, locs, X, r⟩ := W
  exact ⟨h1, vm0, k0, locs, X.more hk' hn', r⟩
/-- getfield -/
theorem gGetF {R0 O nm d host : String} {index : Nat} {a : Addr} {v : Value} (W : Wk p l e R s m args below meth c Z a0 EL n0 kn wd own bytes ml ws T h k n) (w : (Jvm.Cond.fieldLink own index R0 nm d).before a0 Z = true ∨ (Jvm.Cond.fieldLinkNest own index R0 nm d host).before a0 Z = true) (via : Via Z R0 O nm d) (F : Fld Z h a O nm d v)
    (hd : decode bytes pc = .ok (.getfield index, 3)) (hp : pc + 3 = pc') (G : ∀ T', Wk p l e R s m args below meth c Z a0 EL n0 kn wd own bytes ml ws T' h k n → Go p e below Φ T' (mkF m pc' Ls (v :: rest))) : Go p e below Φ T (mkF m pc Ls (.ref a :: rest)) := by
  subst hp
  exact g3 W (fun vm0 locs X hx hb' _ hZ eT hO => getF X hx hZ hO w via eT F (g := mkF m pc Ls (.ref a :: rest)) rfl rfl (hb hb' hd)) G
/-- getstatic -/
theorem gGetS {R0 O nm d host : String} {index : Nat} {v : Value} (W : Wk p l e R s m args below meth c Z a0 EL n0 kn wd own bytes ml ws T h k n) (w : (Jvm.Cond.fieldLink own index R0 nm d).before a0 Z = true ∨ (Jvm.Cond.fieldLinkNest own index R0 nm d host).before a0 Z = true) (via : Via Z R0 O nm d) (F : Sta Z h O nm d v)
    (hd : decode bytes pc = .ok (.getstatic index, 3)) (hp : pc + 3 = pc') (G : ∀ T', Wk p l e R s m args below meth c Z a0 EL n0 kn wd own bytes ml ws T' h k n → Go p e below Φ T' (mkF m pc' Ls (v :: st))) : Go p e below Φ T (mkF m pc Ls st) := by
  subst hp
  exact g3 W (fun vm0 locs X hx hb' _ hZ eT hO => getS2 X hx hZ hO w via eT F (g := mkF m pc Ls st) rfl (hb hb' hd)) G
/-- checkcast of an object -/
theorem gCast {K : String} {index : Nat} {a : Addr} (W : Wk p l e R s m args below meth c Z a0 EL n0 kn wd own bytes ml ws T h k n) (w : (Jvm.Cond.classLink own index K).before a0 Z = true) (F : Ins Z h a K true)
    (hd : decode bytes pc = .ok (.checkcast index, 3)) (hp : pc + 3 = pc') (G : ∀ T', Wk p l e R s m args below meth c Z a0 EL n0 kn wd own bytes ml ws T' h k n → Go p e below Φ T' (mkF m pc' Ls (.ref a :: rest))) : Go p e below Φ T (mkF m pc Ls (.ref a :: rest)) := by
  subst hp
  exact g3 W (fun vm0 locs X hx hb' _ hZ eT hO => castY X hx hZ hO w eT F (g := mkF m pc Ls (.ref a :: rest)) rfl rfl (hb hb' hd)) G
/-- instanceof, yes -/
theorem gInsY {K : String} {index : Nat} {a : Addr} (W : Wk p l e R s m args below meth c Z a0 EL n0 kn wd own bytes ml ws T h k n) (w : (Jvm.Cond.classLink own index K).before a0 Z = true) (F : Ins Z h a K true)
    (hd : decode bytes pc = .ok (.instanceof index, 3)) (hp : pc + 3 = pc') (G : ∀ T', Wk p l e R s m args below meth c Z a0 EL n0 kn wd own bytes ml ws T' h k n → Go p e below Φ T' (mkF m pc' Ls (.int 1 :: rest))) : Go p e below Φ T (mkF m pc Ls (.ref a :: rest)) := by
  subst hp
  exact g3 W (fun vm0 locs X hx hb' _ hZ eT hO => instY X hx hZ hO w eT F (g := mkF m pc Ls (.ref a :: rest)) rfl rfl (hb hb' hd)) G
/-- putfield -/
theorem gPutF {R0 O nm d host C : String} {index kk : Nat} {ty : FieldType} {a : Addr} {v old : Value} (W : Wk p l e R s m args below meth c Z a0 EL n0 kn wd own bytes ml ws T h k n) (hn : n0 ≤ a) (hsf : Sf Z EL ws h a) (w : (Jvm.Cond.fieldLink own index R0 nm d).before a0 Z = true ∨ (Jvm.Cond.fieldLinkNest own index R0 nm d host).before a0 Z = true) (via : Via Z R0 O nm d) (F : Fld Z h a O nm d old) (E : Exa Z h a C)
    (L : (Jvm.Cond.lays C O nm d).before a0 Z = true ∨ ((Jvm.Cond.laysFinal C O nm d).before a0 Z = true ∧ own = O ∧ meth.name = "<init>")) (wi : (Jvm.Cond.instantiable C kk).before a0 Z = true) (hty : parseFieldDescriptor d = some ty) (hnr : narrow ty v = v) (hf : fits ty v = true)
    (hd : decode bytes pc = .ok (.putfield index, 3)) (hp : pc + 3 = pc') (G : ∀ T' h', Wk p l e R s m args below meth c Z a0 EL n0 kn wd own bytes ml ws T' h' k n → Wr h h' a (Jvm.RoadKit.slotOf Z O nm d) v → Go p e below Φ T' (mkF m pc' Ls rest)) : Go p e below Φ T (mkF m pc Ls (v :: .ref a :: rest)) := by
  subst hp
  exact g4 W hn hsf (fun vm0 locs X hx hb' hZ eT hO => putF X hx hZ hO w via eT F E L wi hty hnr hf (g := mkF m pc Ls (v :: .ref a :: rest)) rfl rfl (hb hb' hd)) G
theorem gPutFN {R0 O nm d C : String} {index kk : Nat} {ty : FieldType} {a : Addr} {v v' old : Value} (W : Wk p l e R s m args below meth c Z a0 EL n0 kn wd own bytes ml ws T h k n) (hn : n0 ≤ a) (hsf : Sf Z EL ws h a) (w : (Jvm.Cond.fieldLink own index R0 nm d).before a0 Z = true) (via : Via Z R0 O nm d) (F : Fld Z h a O nm d old) (E : Exa Z h a C)
    (L : (Jvm.Cond.lays C O nm d).before a0 Z = true ∨ ((Jvm.Cond.laysFinal C O nm d).before a0 Z = true ∧ own = O ∧ meth.name = "<init>")) (wi : (Jvm.Cond.instantiable C kk).before a0 Z = true) (hty : parseFieldDescriptor d = some ty) (hnr : narrow ty v = v') (hf : fits ty v' = true)
    (hd : decode bytes pc = .ok (.putfield index, 3)) (hp : pc + 3 = pc') (G : ∀ T' h', Wk p l e R s m args below meth c Z a0 EL n0 kn wd own bytes ml ws T' h' k n → Wr h h' a (Jvm.RoadKit.slotOf Z O nm d) v' → Go p e below Φ T' (mkF m pc' Ls rest)) : Go p e below Φ T (mkF m pc Ls (v :: .ref a :: rest)) := by
  subst hp
  exact g4 W hn hsf (fun vm0 locs X hx hb' hZ eT hO => putFN X hx hZ hO w via eT F E L wi hty hnr hf (g := mkF m pc Ls (v :: .ref a :: rest)) rfl rfl (hb hb' hd)) G
/-- new -/
theorem gNew {C : String} {index nc : Nat} (W : Wk p l e R s m args below meth c Z a0 EL n0 kn wd own bytes ml ws T h k n) (w : (Jvm.Cond.classLink own index C).before a0 Z = true) (wi : (Jvm.Cond.instantiable C nc).before a0 Z = true) (wz : (Jvm.Cond.initialized C).before a0 Z = true)
    (hd : decode bytes pc = .ok (.new index, 3)) (hp : pc + 3 = pc') (hc : k + 1 ≤ R.cells) (hl : n + nc ≤ R.slots)
    (G : ∀ T' h' a, a = h.size → Wk p l e R s m args below meth c Z a0 EL n0 kn wd own bytes ml (a :: ws) T' h' (k + 1) (n + nc) → Ext h h' → (Exa Z h' a C ∧ (∀ {O nm d : String} {ty : FieldType}, Laid Z a0 C O nm d → parseFieldDescriptor d = some ty → Fld Z h' a O nm d (defaultValue ty)) ∧ Unt h' a) → Go p e below Φ T' (mkF m pc' Ls (.ref a :: st))) : Go p e below Φ T (mkF m pc Ls st) := by
  subst hp
  refine g5 W (f' := fun a => mkF m (pc + 3) Ls (.ref a :: st)) (P := fun h' a => Exa Z h' a C ∧ (∀ {O nm d : String} {ty : FieldType}, Laid Z a0 C O nm d → parseFieldDescriptor d = some ty → Fld Z h' a O nm d (defaultValue ty)) ∧ Unt h' a) (fun h' q => q.1.lt) (fun vm0 locs X hx hb' hZ eT hO => ?_) G
  obtain ⟨T', h', X', e', E, A, D, U, q⟩ := newO X hx hZ hO w wi wz eT (g := mkF m pc Ls st) rfl (hb hb' hd) hc hl
  exact ⟨T', h', X', e', E, ⟨A, D, U⟩, q⟩
/-- newarray -/
theorem gNewP {aty : ArrayType} {z : Int32} {cap : Nat} {ad : String} (W : Wk p l e R s m args below meth c Z a0 EL n0 kn wd own bytes ml ws T h k n) (w : (Jvm.Cond.arrayClass (newarray.typeOf aty)).before a0 Z = true) (had : "[" ++ (newarray.typeOf aty).toString = ad)
    (hd : decode bytes pc = .ok (.newarray aty, 2)) (hp : pc + 2 = pc') (hz : ¬ z < 0) (hcap : z.toNatClampNeg ≤ cap) (hb8 : cap * 8 ≤ 536870912) (hc : k + 1 ≤ R.cells) (hl : n + cap ≤ R.slots)
    (G : ∀ T' h' a, a = h.size → Wk p l e R s m args below meth c Z a0 EL n0 kn wd own bytes ml (a :: ws) T' h' (k + 1) (n + cap) → Ext h h' → (∃ kA, Arv Z h' a kA (newarray.typeOf aty) z [] (defaultValue (newarray.typeOf aty)) ∧ Exa Z h' a ad) → Go p e below Φ T' (mkF m pc' Ls (.ref a :: rest))) : Go p e below Φ T (mkF m pc Ls (.int z :: rest)) := by
  subst hp
  refine g5 W (f' := fun a => mkF m (pc + 2) Ls (.ref a :: rest)) (P := fun h' a => ∃ kA, Arv Z h' a kA (newarray.typeOf aty) z [] (defaultValue (newarray.typeOf aty)) ∧ Exa Z h' a ad) (fun h' q => by obtain ⟨_, q, -⟩ := q; exact q.lt) (fun vm0 locs X hx hb' hZ eT hO => ?_) G
  obtain ⟨T', h', cA, X', e', E, A, D, q⟩ := newPE X hx hZ w eT (g := mkF m pc Ls (.int z :: rest)) rfl (hb hb' hd) rfl hz hcap hb8 hc hl had
  exact ⟨T', h', X', e', E, ⟨cA, Arv.new A hz, D⟩, q⟩
/-- anewarray -/
theorem gNewR {C : String} {index : Nat} {z : Int32} {cap : Nat} {ad : String} (W : Wk p l e R s m args below meth c Z a0 EL n0 kn wd own bytes ml ws T h k n) (w1 : (Jvm.Cond.classLink own index C).before a0 Z = true) (w2 : (Jvm.Cond.arrayOver (.object C)).before a0 Z = true) (had : "[" ++ (FieldType.object C).toString = ad)
    (hd : decode bytes pc = .ok (.anewarray index, 3)) (hp : pc + 3 = pc') (hz : ¬ z < 0) (hcap : z.toNatClampNeg ≤ cap) (hb8 : cap * 8 ≤ 536870912) (hc : k + 1 ≤ R.cells) (hl : n + cap ≤ R.slots)
    (G : ∀ T' h' a, a = h.size → Wk p l e R s m args below meth c Z a0 EL n0 kn wd own bytes ml (a :: ws) T' h' (k + 1) (n + cap) → Ext h h' → (∃ kA, Arv Z h' a kA (.object C) z [] .null ∧ Exa Z h' a ad ∧ Ovr Z kA C) → Go p e below Φ T' (mkF m pc' Ls (.ref a :: rest))) : Go p e below Φ T (mkF m pc Ls (.int z :: rest)) := by
  subst hp
  refine g5 W (f' := fun a => mkF m (pc + 3) Ls (.ref a :: rest)) (P := fun h' a => ∃ kA, Arv Z h' a kA (.object C) z [] .null ∧ Exa Z h' a ad ∧ Ovr Z kA C) (fun h' q => by obtain ⟨_, q, -⟩ := q; exact q.lt) (fun vm0 locs X hx hb' hZ eT hO => ?_) G
  obtain ⟨T', h', cA, X', e', E, A, D, O, q⟩ := newRE X hx hZ hO w1 w2 eT (g := mkF m pc Ls (.int z :: rest)) rfl (hb hb' hd) rfl hz hcap hb8 hc hl had
  exact ⟨T', h', X', e', E, ⟨cA, Arv.new A hz, D, O⟩, q⟩
/-- Object.<init> -/
theorem gInitO {index : Nat} {a : Addr} {wt : Nat} (W : Wk p l e R s m args below meth c Z a0 EL n0 kn wd own bytes ml ws T h k n) (w1 : (Jvm.Cond.methodLink own index Lib.objectInit).before a0 Z = true) (w2 : (Jvm.Cond.instanceMethod Lib.objectInit).before a0 Z = true) (w3 : (Jvm.Cond.code Lib.objectInit ⟨#[0xb1]⟩ 1 none).before a0 Z = true)
    (hd : decode bytes pc = .ok (.invokespecial index, 3)) (hp : pc + 3 = pc') (hsz : Ls.size = ml) (hf : 1 ≤ R.frames) (hW : (rest.map fun v => v.category).sum ≤ wt) (hl : wt + 12 ≤ R.locals)
    (G : ∀ T', Wk p l e R s m args below meth c Z a0 EL n0 kn wd own bytes ml ws T' h k n → Go p e below Φ T' (mkF m pc' Ls rest)) : Go p e below Φ T (mkF m pc Ls (.ref a :: rest)) := by
  subst hp
  exact g3 W (fun vm0 locs X hx hb' hml hZ eT hO => initO X hx hZ hO w1 w2 w3 eT (g := mkF m pc Ls (.ref a :: rest)) rfl (hsz.trans hml.symm) rfl (hb hb' hd) hf (W := wt) (by simpa using hW) hl) G
/-- a store into an array -/
theorem gStC {a : Addr} {kA : ClassId} {z j x : Int32} {vs : List Value} {dv : Value} (W : Wk p l e R s m args below meth c Z a0 EL n0 kn wd own bytes ml ws T h k n) (hn : n0 ≤ a) (A : Arv Z h a kA .char z vs dv) (hj : ¬ j < 0 ∧ j < z) {i : Nat} (hi : j.toNatClampNeg = i) (hv : i < vs.length)
    (hd : decode bytes pc = .ok (.castore, 1)) (hp : pc + 1 = pc') (G : ∀ T' h', Wk p l e R s m args below meth c Z a0 EL n0 kn wd own bytes ml ws T' h' k n → Keep h h' [a] → Arv Z h' a kA .char z (vs.set i (.int (nar .char x))) dv → Go p e below Φ T' (mkF m pc' Ls rest)) : Go p e below Φ T (mkF m pc Ls (.int x :: .int j :: .ref a :: rest)) := by
  subst hp
  obtain ⟨cl, Ar, q1, S, q3, H, Gf⟩ := A
  exact g4 W hn (Or.inr (Or.inr (Or.inr ⟨cl, .char, Ar, by decide⟩))) (fun vm0 locs X hx hb' hZ eT hO => stC X hx hZ eT Ar (j := j) (x := x) (inb_of S hj) (g := mkF m pc Ls (.int x :: .int j :: .ref a :: rest)) rfl rfl (hb hb' hd))
    (fun T' h' W' w => G T' h' W' (Keep.of_wr w) (Arv.set Ar q1 S q3 H Gf (fits_nar_char x) w i hi hv))
theorem gStB {a : Addr} {kA : ClassId} {z j x : Int32} {vs : List Value} {dv : Value} (W : Wk p l e R s m args below meth c Z a0 EL n0 kn wd own bytes ml ws T h k n) (hn : n0 ≤ a) (hsf : a ∈ ws) (A : Arv Z h a kA .byte z vs dv) (hj : ¬ j < 0 ∧ j < z) {i : Nat} (hi : j.toNatClampNeg = i) (hv : i < vs.length)
    (hd : decode bytes pc = .ok (.bastore, 1)) (hp : pc + 1 = pc') (G : ∀ T' h', Wk p l e R s m args below meth c Z a0 EL n0 kn wd own bytes ml ws T' h' k n → Keep h h' [a] → Arv Z h' a kA .byte z (vs.set i (.int x.toInt8.toInt32)) dv → Go p e below Φ T' (mkF m pc' Ls rest)) : Go p e below Φ T (mkF m pc Ls (.int x :: .int j :: .ref a :: rest)) := by
  subst hp
  obtain ⟨cl, Ar, q1, S, q3, H, Gf⟩ := A
  exact g4 W hn (Or.inl hsf) (fun vm0 locs X hx hb' hZ eT hO => stB X hx hZ eT Ar (j := j) (x := x) (inb_of S hj) (g := mkF m pc Ls (.int x :: .int j :: .ref a :: rest)) rfl rfl (hb hb' hd))
    (fun T' h' W' w => G T' h' W' (Keep.of_wr w) (Arv.set Ar q1 S q3 H Gf (fits_nar_byte x) w i hi hv))
theorem gStI {a : Addr} {kA : ClassId} {z j x : Int32} {vs : List Value} {dv : Value} (W : Wk p l e R s m args below meth c Z a0 EL n0 kn wd own bytes ml ws T h k n) (hn : n0 ≤ a) (A : Arv Z h a kA .int z vs dv) (hj : ¬ j < 0 ∧ j < z) {i : Nat} (hi : j.toNatClampNeg = i) (hv : i < vs.length)
    (hd : decode bytes pc = .ok (.iastore, 1)) (hp : pc + 1 = pc') (G : ∀ T' h', Wk p l e R s m args below meth c Z a0 EL n0 kn wd own bytes ml ws T' h' k n → Keep h h' [a] → Arv Z h' a kA .int z (vs.set i (.int x)) dv → Go p e below Φ T' (mkF m pc' Ls rest)) : Go p e below Φ T (mkF m pc Ls (.int x :: .int j :: .ref a :: rest)) := by
  subst hp
  obtain ⟨cl, Ar, q1, S, q3, H, Gf⟩ := A
  exact g4 W hn (Or.inr (Or.inr (Or.inr ⟨cl, .int, Ar, by decide⟩))) (fun vm0 locs X hx hb' hZ eT hO => stI X hx hZ eT Ar (j := j) (x := x) (inb_of S hj) (g := mkF m pc Ls (.int x :: .int j :: .ref a :: rest)) rfl rfl (hb hb' hd))
    (fun T' h' W' w => G T' h' W' (Keep.of_wr w) (Arv.set Ar q1 S q3 H Gf rfl w i hi hv))
theorem gStJ {a : Addr} {kA : ClassId} {z j : Int32} {x : Int64} {vs : List Value} {dv : Value} (W : Wk p l e R s m args below meth c Z a0 EL n0 kn wd own bytes ml ws T h k n) (hn : n0 ≤ a) (A : Arv Z h a kA .long z vs dv) (hj : ¬ j < 0 ∧ j < z) {i : Nat} (hi : j.toNatClampNeg = i) (hv : i < vs.length)
    (hd : decode bytes pc = .ok (.lastore, 1)) (hp : pc + 1 = pc') (G : ∀ T' h', Wk p l e R s m args below meth c Z a0 EL n0 kn wd own bytes ml ws T' h' k n → Keep h h' [a] → Arv Z h' a kA .long z (vs.set i (.long x)) dv → Go p e below Φ T' (mkF m pc' Ls rest)) : Go p e below Φ T (mkF m pc Ls (.long x :: .int j :: .ref a :: rest)) := by
  subst hp
  obtain ⟨cl, Ar, q1, S, q3, H, Gf⟩ := A
  exact g4 W hn (Or.inr (Or.inr (Or.inr ⟨cl, .long, Ar, by decide⟩))) (fun vm0 locs X hx hb' hZ eT hO => stJ X hx hZ eT Ar (j := j) (x := x) (inb_of S hj) (g := mkF m pc Ls (.long x :: .int j :: .ref a :: rest)) rfl rfl (hb hb' hd))
    (fun T' h' W' w => G T' h' W' (Keep.of_wr w) (Arv.set Ar q1 S q3 H Gf rfl w i hi hv))
/-- what an array holds at a place -/
theorem Arv.look {a : Addr} {kA : ClassId} {ty : FieldType} {z j : Int32} {vs : List Value} {dv v : Value} (A : Arv Z h a kA ty z vs dv) (hj : ¬ j < 0 ∧ j < z) (hv : vs.getD j.toNatClampNeg dv = v) : ∃ cl : Cell, Arr Z h a cl ty ∧ ¬ (j < 0 ∨ cl.slots.size ≤ j.toNatClampNeg) ∧ cl.slots[j.toNatClampNeg]? = some v := by
  obtain ⟨cl, Ar, q1, S, q3, H, Gf⟩ := A
  exact ⟨cl, Ar, inb_of S hj, H.at (inb_of S hj) hv⟩
theorem gLdC {a : Addr} {kA : ClassId} {z j : Int32} {vs : List Value} {dv v : Value} (W : Wk p l e R s m args below meth c Z a0 EL n0 kn wd own bytes ml ws T h k n) (A : Arv Z h a kA .char z vs dv) (hj : ¬ j < 0 ∧ j < z) (hv : vs.getD j.toNatClampNeg dv = v)
    (hd : decode bytes pc = .ok (.caload, 1)) (hp : pc + 1 = pc') (G : Go p e below Φ T (mkF m pc' Ls (v :: rest))) : Go p e below Φ T (mkF m pc Ls (.int j :: .ref a :: rest)) := by
  subst hp
  obtain ⟨cl, Ar, i1, i2⟩ := Arv.look A hj hv
  exact g2 W (fun vm0 locs X hx hb' hZ eT hO t q => X.caload hx (by rw [eT]; exact Ar.1) (State.isArrayOf_alike hZ.alike Ar.2.1) Ar.2.2 i1 i2 (g := mkF m pc Ls (.int j :: .ref a :: rest)) rfl rfl (hb hb' hd) t q) G
theorem gLdB {a : Addr} {kA : ClassId} {z j : Int32} {vs : List Value} {dv v : Value} (W : Wk p l e R s m args below meth c Z a0 EL n0 kn wd own bytes ml ws T h k n) (A : Arv Z h a kA .byte z vs dv) (hj : ¬ j < 0 ∧ j < z) (hv : vs.getD j.toNatClampNeg dv = v)
    (hd : decode bytes pc = .ok (.baload, 1)) (hp : pc + 1 = pc') (G : Go p e below Φ T (mkF m pc' Ls (v :: rest))) : Go p e below Φ T (mkF m pc Ls (.int j :: .ref a :: rest)) := by
  subst hp
  obtain ⟨cl, Ar, i1, i2⟩ := Arv.look A hj hv
  exact g2 W (fun vm0 locs X hx hb' hZ eT hO t q => X.baloadBytes hx (by rw [eT]; exact Ar.1) (State.isArrayOf_alike hZ.alike Ar.2.1) Ar.2.2 i1 i2 (g := mkF m pc Ls (.int j :: .ref a :: rest)) rfl rfl (hb hb' hd) t q) G
theorem gLdI {a : Addr} {kA : ClassId} {z j : Int32} {vs : List Value} {dv v : Value} (W : Wk p l e R s m args below meth c Z a0 EL n0 kn wd own bytes ml ws T h k n) (A : Arv Z h a kA .int z vs dv) (hj : ¬ j < 0 ∧ j < z) (hv : vs.getD j.toNatClampNeg dv = v)
    (hd : decode bytes pc = .ok (.iaload, 1)) (hp : pc + 1 = pc') (G : Go p e below Φ T (mkF m pc' Ls (v :: rest))) : Go p e below Φ T (mkF m pc Ls (.int j :: .ref a :: rest)) := by
  subst hp
  obtain ⟨cl, Ar, i1, i2⟩ := Arv.look A hj hv
  exact g2 W (fun vm0 locs X hx hb' hZ eT hO t q => X.iaload hx (by rw [eT]; exact Ar.1) (State.isArrayOf_alike hZ.alike Ar.2.1) Ar.2.2 i1 i2 (g := mkF m pc Ls (.int j :: .ref a :: rest)) rfl rfl (hb hb' hd) t q) G
theorem gLdJ {a : Addr} {kA : ClassId} {z j : Int32} {vs : List Value} {dv v : Value} (W : Wk p l e R s m args below meth c Z a0 EL n0 kn wd own bytes ml ws T h k n) (A : Arv Z h a kA .long z vs dv) (hj : ¬ j < 0 ∧ j < z) (hv : vs.getD j.toNatClampNeg dv = v)
    (hd : decode bytes pc = .ok (.laload, 1)) (hp : pc + 1 = pc') (G : Go p e below Φ T (mkF m pc' Ls (v :: rest))) : Go p e below Φ T (mkF m pc Ls (.int j :: .ref a :: rest)) := by
  subst hp
  obtain ⟨cl, Ar, i1, i2⟩ := Arv.look A hj hv
  exact g2 W (fun vm0 locs X hx hb' hZ eT hO t q => X.laload hx (by rw [eT]; exact Ar.1) (State.isArrayOf_alike hZ.alike Ar.2.1) Ar.2.2 i1 i2 (g := mkF m pc Ls (.int j :: .ref a :: rest)) rfl rfl (hb hb' hd) t q) G
theorem gLdA {a : Addr} {kA : ClassId} {ty : FieldType} {z j : Int32} {vs : List Value} {dv v : Value} (W : Wk p l e R s m args below meth c Z a0 EL n0 kn wd own bytes ml ws T h k n) (A : Arv Z h a kA ty z vs dv) (hty : ty.isReference = true) (hj : ¬ j < 0 ∧ j < z) (hv : vs.getD j.toNatClampNeg dv = v)
    (hd : decode bytes pc = .ok (.aaload, 1)) (hp : pc + 1 = pc') (G : Go p e below Φ T (mkF m pc' Ls (v :: rest))) : Go p e below Φ T (mkF m pc Ls (.int j :: .ref a :: rest)) := by
  subst hp
  obtain ⟨cl, Ar, i1, i2⟩ := Arv.look A hj hv
  exact g2 W (fun vm0 locs X hx hb' hZ eT hO t q => X.aaload hx (by rw [eT]; exact Ar.1) (State.isArrayOf_alike hZ.alike Ar.2.1) hty Ar.2.2 i1 i2 (g := mkF m pc Ls (.int j :: .ref a :: rest)) rfl rfl (hb hb' hd) t q) G
theorem gLen {a : Addr} {kA : ClassId} {ty : FieldType} {z : Int32} {vs : List Value} {dv : Value} (W : Wk p l e R s m args below meth c Z a0 EL n0 kn wd own bytes ml ws T h k n) (A : Arv Z h a kA ty z vs dv)
    (hd : decode bytes pc = .ok (.arraylength, 1)) (hp : pc + 1 = pc') (G : Go p e below Φ T (mkF m pc' Ls (.int z :: rest))) : Go p e below Φ T (mkF m pc Ls (.ref a :: rest)) := by
  subst hp
  obtain ⟨cl, Ar, q1, S, q3, H, Gf⟩ := A
  refine g2 W (fun vm0 locs X hx hb' hZ eT hO t q => X.arraylength hx (by rw [eT]; exact Ar.1) (State.isArrayOf_alike hZ.alike Ar.2.1) (g := mkF m pc Ls (.ref a :: rest)) rfl rfl (hb hb' hd) t ?_) G
  rw [len_of S q3]
  exact q
/-- ldc of a String constant that may be read -/
theorem gLdcS {index : Nat} {text : String} {vs : List Value} {z : Int32} {nn : Nat} (W : Wk p l e R s m args below meth c Z a0 EL n0 kn true own bytes ml ws T h k n) (w : (Jvm.Cond.stringLink own index text).before a0 Z = true) (wS : ∀ a ∈ Bundle.stringAtoms, a.before a0 Z = true) (hmem : (own, index) ∈ EL)
    (ht : (∀ c ∈ text.toList, c.toNat < 256) ∧ text.toList.map (fun c => Value.int (Jvm.Lit.byteI c.toNat.toUInt16)) = vs) (hz : ¬ z < 0) (hlz : z.toNatClampNeg = vs.length) (hd : decode bytes pc = .ok (.ldc index, 2)) (hp : pc + 2 = pc') (hn : 4 * text.toList.length ≤ nn) (hbig : nn ≤ 536870912) (hc : k + 2 ≤ R.cells) (hl : n + (nn + 4) ≤ R.slots)
    (G : ∀ T' h' a b kB, Wk p l e R s m args below meth c Z a0 EL n0 kn true own bytes ml ws T' h' (k + 2) (n + (nn + 4)) → Ext h h' → Exa Z h' a "java/lang/String" → Fld Z h' a "java/lang/String" "coder" "B" (.int 0) → Fld Z h' a "java/lang/String" "value" "[B" (.ref b) → Arv Z h' b kB .byte z vs (.int 0) → (∀ x ∈ ws, x ≠ a ∧ x ≠ b) → Go p e below Φ T' (mkF m pc' Ls (.ref a :: st))) : Go p e below Φ T (mkF m pc Ls st) := by
  subst hp
  obtain ⟨⟨hx, hb', hml, hO, hE, hrest⟩, vm0, k0, locs, X, eT, hS, hk, hZ, hC, hws, hF, hwd, hOl⟩ := W
  obtain ⟨a, T', h', k1, b, kB, X', e', E, hS', hk', hZ', -, A, F1, F2, V, -, -, hC', -, hne, q⟩ := ldcCH X hx hZ ((hZ.alike.findClass own _).trans hO) w wS eT hS hk hE hmem hC.1 ht hz hlz (g := mkF m pc Ls st) rfl (hb hb' hd) hn hbig hc hl
  have sz : ∀ x ∈ ws, x < h'.size ∧ Safe Z EL T'.vm h' x := fun x hx' => ⟨Nat.lt_of_lt_of_le (hws x hx').1 E.1, hC'.safe (hws x hx').1 (hws x hx').2⟩
  exact (G T' h' a b kB ⟨⟨hx, hb', hml, hO, hE, hrest⟩, T'.vm, k1, locs, X', e', hS', hk', hZ', hC.trans hC', sz, hF, (fun q => by cases q), hOl.ext E⟩ E A F1 F2 V (fun x hx' => hne x (sz x hx').2)).back q
/-- the end -/
theorem gEnd {f : JFrame} {v : Option Value} {rc rs : Nat} {Q : Option Value → Heap → Prop} (W : Wk p l e R s m args below meth c Z a0 EL n0 kn wd own bytes ml ws T h k n) (hv : meth.sig.returnType = none → v = none) (hk : k ≤ rc) (hn : n ≤ rs) (hq : Q v h)
    (hs : ∀ (vm0 : Vm) (locs : List Loc) (fs : List Frame), Stand p l e R (s.setVm vm0) m args below meth c T locs k n → p.tables.exec = Jvm.exec → c.code = bytes → (∀ (f : JFrame) (acts : List Action), f.method = m → f.locked = none → f.entered = [] → (doReturn e (T.setTop f) acts v).1 = T.setFrames fs) → Steps p.tables e below (T.setTop f) (T.setFrames fs)) :
    Go p e below (Po s Z EL n0 wd rc rs Q) T f := by
  obtain ⟨⟨hx, hb', hml, hO, hE, hlk, hrest⟩, vm0, k0, locs, X, eT, hS, hk0, hZ, hC, hws, hF, hwd, hOl⟩ := W
  obtain ⟨fs, hr, hrun, hend, hret⟩ := X.leaveW hS (by rw [eT]; exact hk0) hv hlk
  refine ⟨T.setFrames fs, _, hs vm0 locs fs X hx hb' hr, hrun, hend, v, locs, rfl, by rw [show (T.setFrames fs).heap = T.heap from rfl, eT]; exact hq, hF, ?_, fun q => State.WarmedH.trans (hwd q) (show (s.setVm vm0).WarmedH T.vm from X.warmed), by rw [show (T.setFrames fs).heap = T.heap from rfl, eT]; exact hOl, hret.1, hret.2.1, hret.2.2.1, hret.2.2.2.mono hk hn⟩
  have q := hC.trans (CHv.at X hZ hE hC.1)
  rw [show (T.setFrames fs).heap = T.heap from rfl, show (T.setFrames fs).vm = T.vm from rfl, eT]
  exact q
theorem gRetN {x : Int32} {t : FieldType} {rc rs : Nat} {Q : Option Value → Heap → Prop} (W : Wk p l e R s m args below meth c Z a0 EL n0 kn wd own bytes ml ws T h k n) (hret : meth.sig.returnType = some t) (ht : t = .boolean ∨ t = .byte ∨ t = .char ∨ t = .short) (hd : decode bytes pc = .ok (.ireturn, 1)) (hk : k ≤ rc) (hn : n ≤ rs) (hq : Q (some (.int (nar t x))) h) :
    Go p e below (Po s Z EL n0 wd rc rs Q) T (mkF m pc Ls (.int x :: rest)) :=
  gEnd W (fun q => by rw [hret] at q; cases q) hk hn hq (fun vm0 locs fs X hx hb' hr => retN X hx hret ht (hb hb' hd) hr)
theorem gRetI {x : Int32} {rc rs : Nat} {Q : Option Value → Heap → Prop} (W : Wk p l e R s m args below meth c Z a0 EL n0 kn wd own bytes ml ws T h k n) (hret : meth.sig.returnType = some .int) (hd : decode bytes pc = .ok (.ireturn, 1)) (hk : k ≤ rc) (hn : n ≤ rs) (hq : Q (some (.int x)) h) :
    Go p e below (Po s Z EL n0 wd rc rs Q) T (mkF m pc Ls (.int x :: rest)) :=
  gEnd W (fun q => by rw [hret] at q; cases q) hk hn hq (fun vm0 locs fs X hx hb' hr => retI X hx hret (hb hb' hd) hr)
theorem gRetV {rc rs : Nat} {Q : Option Value → Heap → Prop} (W : Wk p l e R s m args below meth c Z a0 EL n0 kn wd own bytes ml ws T h k n) (hret : meth.sig.returnType = none) (hd : decode bytes pc = .ok (.return_, 1)) (hk : k ≤ rc) (hn : n ≤ rs) (hq : Q none h) :
    Go p e below (Po s Z EL n0 wd rc rs Q) T (mkF m pc Ls []) :=
  gEnd W (fun _ => rfl) hk hn hq (fun vm0 locs fs X hx hb' hr => X.returnOut hx hret (hb hb' hd) hr)
theorem gRetJ {x : Int64} {rc rs : Nat} {Q : Option Value → Heap → Prop} (W : Wk p l e R s m args below meth c Z a0 EL n0 kn wd own bytes ml ws T h k n) (hret : meth.sig.returnType = some .long) (hd : decode bytes pc = .ok (.lreturn, 1)) (hk : k ≤ rc) (hn : n ≤ rs) (hq : Q (some (.long x)) h) :
    Go p e below (Po s Z EL n0 wd rc rs Q) T (mkF m pc Ls (.long x :: rest)) :=
  gEnd W (fun q => by rw [hret] at q; cases q) hk hn hq (fun vm0 locs fs X hx hb' hr => by
    have hd' := hb hb' hd
    jvm_step X.here [X.here.top, hx, hd', X.method', hret, narrow]
    first | (intro acts; rw [hr _ acts rfl rfl rfl]) | rw [hr _ _ rfl rfl rfl]
    exact Steps.refl _)
theorem gRetA {v : Value} {t : FieldType} {rc rs : Nat} {Q : Option Value → Heap → Prop} (W : Wk p l e R s m args below meth c Z a0 EL n0 kn wd own bytes ml ws T h k n) (hret : meth.sig.returnType = some t) (ht : t.isReference = true) (hv : v.isRef = true) (hd : decode bytes pc = .ok (.areturn, 1)) (hk : k ≤ rc) (hn : n ≤ rs) (hq : Q (some v) h) :
    Go p e below (Po s Z EL n0 wd rc rs Q) T (mkF m pc Ls (v :: rest)) :=
  gEnd W (fun q => by rw [hret] at q; cases q) hk hn hq (fun vm0 locs fs X hx hb' hr => by
    have hd' := hb hb' hd
    jvm_step X.here [X.here.top, hx, hd', X.method', hret, ht, hv]
    first | (intro acts; rw [hr _ acts rfl rfl rfl]) | rw [hr _ _ rfl rfl rfl]
    exact Steps.refl _)
/-- a callee by its contract: what the walk's own laws ask of it -/
theorem Ct.backS {y : MethodName} {bytes' : ByteArray} {ml' : Nat} {ret' : Option FieldType} {rm : Room} {ws' : List Addr} {as' : Array Value} {Q : Option Value → Heap → Prop} {len wt : Nat} {vm0 : Vm} (C : Ct l Z a0 EL n0 kn wd y bytes' ml' ret' [] rm ws' as' h Q)
    (hZ : Z.Warmed39 vm0) (wc : (Jvm.Cond.code y bytes' ml' ret').before a0 Z = true) (wz : (Jvm.Cond.initialized y.cls).before a0 Z = true) (hf : rm.frames + 1 ≤ R.frames) (hl : wt + (ml' + 11) + rm.locals ≤ R.locals) (hEL : EW Z a0 EL) (H : CHv Z EL vm0 h) (hOl : Old Z n0 h) (hws : ∀ x ∈ ws', x < h.size ∧ Safe Z EL vm0 h x) (hkn : kn = true → vm0.MethodsKnown ∧ vm0.FramesKnown below) :
    BackS l R p e below (s.setVm vm0) args y len wt (fun A a => a = as' ∧ A.U.heap = h ∧ A.cells + rm.cells ≤ R.cells ∧ A.slots + rm.slots ≤ R.slots)
      (fun A _ v B => ∃ L, Q v B.U.heap ∧ Fr n0 L ∧ B.locs = A.locs ++ L ∧ B.cells = A.cells + rm.cells ∧ B.slots = A.slots + rm.slots ∧ CHr Z EL vm0 h B.U.vm B.U.heap ∧ (wd = false → (s.setVm vm0).WarmedH B.U.vm) ∧ Old Z n0 B.U.heap) := by
  refine BackS.of_freeWG (bytes := bytes') (maxL := ml') (ret := ret') (E := fun _ first o t L k n => k = rm.cells ∧ n = rm.slots ∧ (∃ v, o = .returned v ∧ Q v t.heap ∧ Fr n0 L) ∧ CHr Z EL first.vm first.heap t.vm t.heap ∧ (wd = false → first.WarmedH t.vm) ∧ Old Z n0 t.heap) C hf hl ?_ ?_ ?_ ?_ ?_
  · intro m meth c A a Y hp
    have hU : Z.Warmed39 A.U.vm := wtrans (s := s.setVm vm0) hZ Y.warmed
    exact ⟨by show (Jvm.Cond.and _ .tt).before a A.U = true; rw [Cond.before_and, mv hU wc]; rfl, mv hU wc, mv hU wz, hp.2.2.1, hp.2.2.2⟩
  · intro m meth c A a g mk Y hp
    have q := CHv.at Y hZ hEL H
    exact ⟨hp.1, wtrans (s := s.setVm vm0) hZ Y.warmed, hp.2.1, q.1, hOl, fun x hx => ⟨(hws x hx).1, q.safe (hws x hx).1 (hws x hx).2⟩⟩
  · intro m meth c A a g mk Y _ hg q
    exact known_frames Y hg (hkn q).1 (hkn q).2
  · intro a first o t hq
    obtain ⟨v, L, h1, h2, h3, h4, h5, h7, h6⟩ := hq
    exact ⟨L, _, _, h6, rfl, rfl, ⟨v, h1, h2, h3⟩, h4, h5, h7⟩
  · intro m meth c A a g mk v t L k n Y hp _ _ hE
    obtain ⟨e1, e2, ⟨v', e3, e4, e5⟩, e6, e7, e8⟩ := hE
    cases e3; subst e1 e2
    refine ⟨L, e4, e5, rfl, rfl, rfl, (CHv.at Y hZ hEL H).trans ?_, fun q => State.WarmedH.trans Y.warmed (show A.U.WarmedH _ from e7 q), e8⟩
    rw [← hp.2.1]; exact e6
/-- behind a call -/
theorem Wk.after {T' : State} {locs L : List Loc} {vm0 : Vm} {k0 k' n' : Nat} (hall : p.tables.exec = Jvm.exec ∧ c.code = bytes ∧ c.maxLocals = ml ∧ Z.vm.findClass own = some m.cls ∧ EW Z a0 EL ∧ meth.locks = false ∧ (kn = true → s.vm.MethodsKnown ∧ s.vm.FramesKnown below)) (hS : s.Since vm0 k0) (hk : k0 ≤ h.size) (hZ : Z.Warmed39 vm0) (hC : CHr Z EL s.vm s.heap vm0 h) (hws : ∀ x ∈ ws, x < h.size ∧ Safe Z EL vm0 h x) (hF : Fr n0 locs) (hwd : wd = false → s.WarmedH vm0)
    (X' : Stand p l e R ((s.setVm vm0).setVm T'.vm) m args below meth c T' (locs ++ L) k' n') (h2 : (s.setVm vm0).Since T'.vm T'.heap.size) (hg : h.size ≤ T'.heap.size) (hF' : Fr n0 L) (hC' : CHr Z EL vm0 h T'.vm T'.heap) (hwd' : wd = false → (s.setVm vm0).WarmedH T'.vm) (hOl : Old Z n0 T'.heap) :
    Wk p l e R s m args below meth c Z a0 EL n0 kn wd own bytes ml ws T' T'.heap k' n' :=
  ⟨hall, T'.vm, T'.heap.size, locs ++ L, X', rfl, hS.trans h2 (Nat.le_trans hk hg), Nat.le_refl _, State.Warmed39.trans (t := s.setVm vm0) hZ h2.1, hC.trans hC', fun x hx => ⟨Nat.lt_of_lt_of_le (hws x hx).1 hg, hC'.safe (hws x hx).1 (hws x hx).2⟩, hF.app hF', (fun q => State.WarmedH.trans (hwd q) (hwd' q)), hOl⟩
/-- a static call -/
theorem gStatic {index : Nat} {y : MethodName} {bytes' : ByteArray} {ml' : Nat} {ret' : Option FieldType} {rm : Room} {ws' : List Addr} {as' : Array Value} {Q : Option Value → Heap → Prop} {argsL : List Value} {wt : Nat} {ps : List FieldType} {rt : Option FieldType} (W : Wk p l e R s m args below meth c Z a0 EL n0 kn wd own bytes ml ws T h k n)
    (w1 : (Jvm.Cond.methodLink own index y).before a0 Z = true) (w2 : (Jvm.Cond.static y).before a0 Z = true) (w3 : (Jvm.Cond.initialized y.cls).before a0 Z = true) (w4 : (Jvm.Cond.code y bytes' ml' ret').before a0 Z = true) (hy : y.cls ≠ "java/lang/invoke/MethodHandle" ∧ y.cls ≠ "java/lang/invoke/VarHandle") (hdsc : parseMethodDescriptor y.desc = some ⟨ps, rt⟩)
    (C : Ct l Z a0 EL n0 kn wd y bytes' ml' ret' [] rm ws' as' h Q) (hsub : ∀ x ∈ ws', x ∈ ws) (hd : decode bytes pc = .ok (.invokestatic index, 3)) (hp : pc + 3 = pc') (hsz : Ls.size = ml) (has : argsL.toArray = as') (hlen : argsL.length = ps.length) (hst : st = argsL.reverse ++ rest) (hW : (rest.map fun v => v.category).sum ≤ wt)
    (hf : rm.frames + 1 ≤ R.frames) (hl : wt + (ml' + 11) + rm.locals ≤ R.locals) (hc : k + rm.cells ≤ R.cells) (hs : n + rm.slots ≤ R.slots)
    (G : ∀ v T' h', Wk p l e R s m args below meth c Z a0 EL n0 kn wd own bytes ml ws T' h' (k + rm.cells) (n + rm.slots) → h.size ≤ h'.size → Q v h' → Go p e below Φ T' (mkF m pc' Ls (v.toList ++ rest))) : Go p e below Φ T (mkF m pc Ls st) := by
  subst hp has
  obtain ⟨hall, vm0, k0, locs, X, eT, hS, hk, hZ, hC, hws, hF, hwd, hOl⟩ := W
  have hall' := hall
  obtain ⟨hx, hb', hml, hO, hE, hlk, hkn⟩ := hall'
  have hkn' : kn = true → vm0.MethodsKnown ∧ vm0.FramesKnown below := fun q => known_vm hS.1 (hkn q)
  obtain ⟨v, vm₁, ⟨T', L', c', n'⟩, -, X', h2, hg, ⟨L, hQ, hF', l', y', z', hC', hwd', hOl'⟩, stp⟩ := callSS X hx (y := y) ((hZ.alike.findClass own _).trans hO) (mv (s := s.setVm vm0) hZ w1) (mv (s := s.setVm vm0) hZ w2) (mv (s := s.setVm vm0) hZ w3) (mv (s := s.setVm vm0) hZ w4) hy
    (C.backS (p := p) (e := e) (R := R) (s := s) (args := args) (below := below) (wt := wt) hZ w4 w3 hf hl hE hC.1 hOl (fun x q => hws x (hsub x q)) hkn') (g := mkF m pc Ls st) rfl (hsz.trans hml.symm) (argsL := argsL) (rest := rest) (lenOf hdsc hlen) hst (by simpa using hW) (hb hb' hd) (fun _ _ => ⟨rfl, eT, hc, hs⟩)
  dsimp only [Pt.U, Pt.locs, Pt.cells, Pt.slots] at X' h2 hg l' y' z' stp hQ hC' hwd' hOl'
  subst l' y' z'
  rw [eT] at hg
  exact (G v T' T'.heap (Wk.after hall hS hk hZ hC hws hF hwd X' h2 hg hF' hC' hwd' hOl') hg hQ).back fun t q => stp.trans q
/-- a constructor -/
theorem gSpecial {index : Nat} {y : MethodName} {bytes' : ByteArray} {ml' : Nat} {rm : Room} {ws' : List Addr} {as' : Array Value} {Q : Option Value → Heap → Prop} {argsL : List Value} {a : Addr} {wt : Nat} {ps : List FieldType} {rt : Option FieldType} (W : Wk p l e R s m args below meth c Z a0 EL n0 kn wd own bytes ml ws T h k n) (hy1 : y.name = "<init>")
    (w1 : (Jvm.Cond.methodLink own index y).before a0 Z = true) (w2 : (Jvm.Cond.instanceMethod y).before a0 Z = true) (w3 : (Jvm.Cond.initialized y.cls).before a0 Z = true) (w4 : (Jvm.Cond.code y bytes' ml' none).before a0 Z = true) (hy : y.cls ≠ "java/lang/invoke/MethodHandle" ∧ y.cls ≠ "java/lang/invoke/VarHandle") (hdsc : parseMethodDescriptor y.desc = some ⟨ps, rt⟩)
    (C : Ct l Z a0 EL n0 kn wd y bytes' ml' none [] rm ws' as' h Q) (hsub : ∀ x ∈ ws', x ∈ ws) (hd : decode bytes pc = .ok (.invokespecial index, 3)) (hp : pc + 3 = pc') (hsz : Ls.size = ml) (has : (.ref a :: argsL).toArray = as') (hlen : argsL.length = ps.length) (hst : st = argsL.reverse ++ .ref a :: rest) (hW : (rest.map fun v => v.category).sum ≤ wt)
    (hf : rm.frames + 1 ≤ R.frames) (hl : wt + (ml' + 11) + rm.locals ≤ R.locals) (hc : k + rm.cells ≤ R.cells) (hs : n + rm.slots ≤ R.slots)
    (G : ∀ v T' h', Wk p l e R s m args below meth c Z a0 EL n0 kn wd own bytes ml ws T' h' (k + rm.cells) (n + rm.slots) → h.size ≤ h'.size → Q v h' → Go p e below Φ T' (mkF m pc' Ls (v.toList ++ rest))) : Go p e below Φ T (mkF m pc Ls st) := by
  subst hp has
  obtain ⟨hall, vm0, k0, locs, X, eT, hS, hk, hZ, hC, hws, hF, hwd, hOl⟩ := W
  have hall' := hall
  obtain ⟨hx, hb', hml, hO, hE, hlk, hkn⟩ := hall'
  have hkn' : kn = true → vm0.MethodsKnown ∧ vm0.FramesKnown below := fun q => known_vm hS.1 (hkn q)
  obtain ⟨v, vm₁, ⟨T', L', c', n'⟩, -, X', h2, hg, ⟨L, hQ, hF', l', y', z', hC', hwd', hOl'⟩, stp⟩ := X.specialBackS hx (y := y) hy1 ((hZ.alike.findClass own _).trans hO) (mv (s := s.setVm vm0) hZ w1) (mv (s := s.setVm vm0) hZ w2) (mv (s := s.setVm vm0) hZ w4) hy
    (C.backS (p := p) (e := e) (R := R) (s := s) (args := args) (below := below) (wt := wt) hZ w4 w3 hf hl hE hC.1 hOl (fun x q => hws x (hsub x q)) hkn') (g := mkF m pc Ls st) rfl (hsz.trans hml.symm) (Steps.refl _) (a := a) (argsL := argsL) (rest := rest) (lenOf hdsc hlen) hst (by simpa using hW) (hb hb' hd) (fun _ _ => ⟨rfl, eT, hc, hs⟩)
  dsimp only [Pt.U, Pt.locs, Pt.cells, Pt.slots] at X' h2 hg l' y' z' stp hQ hC' hwd' hOl'
  subst l' y' z'
  rw [eT] at hg
  exact (G v T' T'.heap (Wk.after hall hS hk hZ hC hws hF hwd X' h2 hg hF' hC' hwd' hOl') hg hQ).back fun t q => stp.trans q
/-- an instance method of the class that declares it -/
theorem gVirtual {index : Nat} {y z : MethodName} {C' : String} {bytes' : ByteArray} {ml' : Nat} {ret' : Option FieldType} {rm : Room} {ws' : List Addr} {as' : Array Value} {Q : Option Value → Heap → Prop} {argsL : List Value} {a : Addr} {wt : Nat} {ps : List FieldType} {rt : Option FieldType} (W : Wk p l e R s m args below meth c Z a0 EL n0 kn wd own bytes ml ws T h k n) (E : Exa Z h a C')
    (w1 : (Jvm.Cond.methodLink own index y).before a0 Z = true) (w2 : (Jvm.Cond.declares y).before a0 Z = true) (nf : ∀ s : State, Z.Warmed39 s.vm → NotFace s y) (w5 : (Jvm.Cond.selects C' y z).before a0 Z = true) (w6 : (Jvm.Cond.instanceMethod z).before a0 Z = true) (w3 : (Jvm.Cond.initialized z.cls).before a0 Z = true) (w4 : (Jvm.Cond.code z bytes' ml' ret').before a0 Z = true) (hy : y.cls ≠ "java/lang/invoke/MethodHandle" ∧ y.cls ≠ "java/lang/invoke/VarHandle") (hdsc : parseMethodDescriptor y.desc = some ⟨ps, rt⟩)
    (C : Ct l Z a0 EL n0 kn wd z bytes' ml' ret' [] rm ws' as' h Q) (hsub : ∀ x ∈ ws', x ∈ ws) (hd : decode bytes pc = .ok (.invokevirtual index, 3)) (hp : pc + 3 = pc') (hsz : Ls.size = ml) (has : (.ref a :: argsL).toArray = as') (hlen : argsL.length = ps.length) (hst : st = argsL.reverse ++ .ref a :: rest) (hW : (rest.map fun v => v.category).sum ≤ wt)
    (hf : rm.frames + 1 ≤ R.frames) (hl : wt + (ml' + 11) + rm.locals ≤ R.locals) (hc : k + rm.cells ≤ R.cells) (hs : n + rm.slots ≤ R.slots)
    (G : ∀ v T' h', Wk p l e R s m args below meth c Z a0 EL n0 kn wd own bytes ml ws T' h' (k + rm.cells) (n + rm.slots) → h.size ≤ h'.size → Q v h' → Go p e below Φ T' (mkF m pc' Ls (v.toList ++ rest))) : Go p e below Φ T (mkF m pc Ls st) := by
  subst hp has
  obtain ⟨hall, vm0, k0, locs, X, eT, hS, hk, hZ, hC, hws, hF, hwd, hOl⟩ := W
  have hall' := hall
  obtain ⟨hx, hb', hml, hO, hE, hlk, hkn⟩ := hall'
  have hkn' : kn = true → vm0.MethodsKnown ∧ vm0.FramesKnown below := fun q => known_vm hS.1 (hkn q)
  obtain ⟨cq, kq, qa, qb, qc⟩ := isOf (s := s.setVm vm0) hZ eT E
  obtain ⟨v, vm₁, ⟨T', L', c', n'⟩, -, X', h2, hg, ⟨L, hQ, hF', l', y', z', hC', hwd', hOl'⟩, stp⟩ := X.virtualBackS hx (y := y) (z := z) ((hZ.alike.findClass own _).trans hO) (mv (s := s.setVm vm0) hZ w1) (mv (s := s.setVm vm0) hZ w2) (nf (s.setVm vm0) hZ) (mv (s := s.setVm vm0) hZ w5) (mv (s := s.setVm vm0) hZ w6) hy
    (C.backS (p := p) (e := e) (R := R) (s := s) (args := args) (below := below) (wt := wt) hZ w4 w3 hf hl hE hC.1 hOl (fun x q => hws x (hsub x q)) hkn') qa qc (g := mkF m pc Ls st) rfl (hsz.trans hml.symm) (Steps.refl _) (argsL := argsL) (rest := rest) (lenOf hdsc hlen) hst (by simpa using hW) (hb hb' hd) (fun _ _ => ⟨rfl, eT, hc, hs⟩)
  dsimp only [Pt.U, Pt.locs, Pt.cells, Pt.slots] at X' h2 hg l' y' z' stp hQ hC' hwd' hOl'
  subst l' y' z'
  rw [eT] at hg
  exact (G v T' T'.heap (Wk.after hall hS hk hZ hC hws hF hwd X' h2 hg hF' hC' hwd' hOl') hg hQ).back fun t q => stp.trans q
/-- a contract out of a walk -/
theorem Ct.of {y : MethodName} {ret : Option FieldType} {cs : List Jvm.Cond} {rm : Room} {as' : Array Value} {Q : Option Value → Heap → Prop} (hpl : plainFor y = true) (hEL : EW Z a0 EL)
    (body : ∀ (p : Program) (e : Env) (s : State) (m : MethodId) (below : List Frame) (meth : Method) (c : Code) (T : State), Wk p l e rm s m as' below meth c Z a0 EL n0 kn wd y.cls bytes ml ws T h 0 0 → meth.sig.returnType = ret → meth.name = y.name → s.heap = h → Go p e below (Po s Z EL n0 wd rm.cells rm.slots Q) T (entryFrame m as' ml)) :
    Ct l Z a0 EL n0 kn wd y bytes ml ret cs rm ws as' h Q := by
  refine MetFree.of_bodySF hpl hisR ?_
  intro p e s m args below meth c s₁ Bd hml hP hK
  obtain ⟨rfl, hZ, hh, hC, hOl, hws⟩ := hP
  have hown : s.vm.findClass y.cls = some m.cls := findClass_of_methodNamed Bd.named
  have X0 := Stand.of_body Bd
  have e0 : s₁.heap = h := by rw [← hh, Bd.state]; rfl
  have hO : Z.vm.findClass y.cls = some m.cls := by rw [← hZ.alike.findClass]; exact hown
  have hst : s₁.vm = s.vm := by rw [Bd.state]; rfl
  refine body p e s m below meth c s₁ ⟨⟨Bd.exec, Bd.bytes, hml, hO, hEL, BodyLoose.notSynchronized Bd, hK⟩, s.vm, 0, [], X0, e0, (State.WarmedH.refl s).since _, Nat.zero_le _, hZ, ?_, hws, Fr.nil n0, (fun _ => State.WarmedH.refl s), hOl⟩ Bd.returns (name_of_methodNamed Bd.named Bd.method).1 hh
  rw [hh]
  exact CHr.refl hC
end OwnLayer
section OwnLayerMore
variable {p : Program} {l : Launch} {e : Env} {R : Room} {s : State} {m : MethodId} {args : Array Value} {below : List Frame} {meth : Method} {c : Code} {Z : State} {a0 : Array Value} {EL : List (String × Nat)} {n0 : Nat} {kn wd : Bool} {own : String} {bytes : ByteArray} {ml : Nat} {ws : List Addr} {T : State} {h : Heap} {k n : Nat} {Φ : Outcome → State → Prop} {pc pc' : Nat} {Ls : Array Slot} {st rest : List Value}
/-- instanceof, no -/
theorem gInsN {K C : String} {index : Nat} {a : Addr} (W : Wk p l e R s m args below meth c Z a0 EL n0 kn wd own bytes ml ws T h k n) (w : (Jvm.Cond.classLink own index K).before a0 Z = true) (E : Exa Z h a C) (F : ∃ c t, Z.vm.findClass C = some c ∧ Z.vm.findClass K = some t ∧ Z.vm.assignable c t = false)
    (hd : decode bytes pc = .ok (.instanceof index, 3)) (hp : pc + 3 = pc') (G : ∀ T', Wk p l e R s m args below meth c Z a0 EL n0 kn wd own bytes ml ws T' h k n → Go p e below Φ T' (mkF m pc' Ls (.int 0 :: rest))) : Go p e below Φ T (mkF m pc Ls (.ref a :: rest)) := by
  subst hp
  exact g3 W (fun vm0 locs X hx hb' _ hZ eT hO => instNo X hx hZ hO w eT E F (g := mkF m pc Ls (.ref a :: rest)) rfl rfl (hb hb' hd)) G
theorem noSub {C S K : String} {nK : Nat} (w : (Jvm.Cond.superclass C S).before a0 Z = true) (w0 : (Jvm.Cond.noSuperclass S).before a0 Z = true) (wk : (Jvm.Cond.instantiable K nK).before a0 Z = true) (h1 : C ≠ K) (h2 : S ≠ K) : ∃ c t, Z.vm.findClass C = some c ∧ Z.vm.findClass K = some t ∧ Z.vm.assignable c t = false := by
  obtain ⟨t, kt, g1, g2, g3, g4, -⟩ := Cond.instantiable_spec wk
  obtain ⟨cc, q0⟩ := found_sup w
  obtain ⟨pp, kc, kp, a1, a2, a3, a4, a5, a6, a7⟩ := Cond.superclass_spec q0 w
  obtain ⟨o, ko, b1, b2, b3, -⟩ := Cond.noSuperclass_spec w0
  cases a1.symm.trans b1
  cases a3.symm.trans b2
  have ne1 := ids_ne q0 g1 h1
  have ne2 := ids_ne b1 g1 h2
  have gI : kt.isInterface = false := by simp at g4; exact g4.1
  have sub : ∀ fuel, Z.vm.isSubclassAux fuel cc t = false := fun fuel => by
    cases fuel with
    | zero => rfl
    | succ f =>
      cases f with
      | zero => simp [Vm.isSubclassAux, ne1, a2, a4]
      | succ f => simp [Vm.isSubclassAux, ne1, ne2, a2, a4, b2, b3]
  refine ⟨cc, t, q0, g1, ?_⟩
  show Z.vm.assignableAux (255 + 1) cc t = false
  simp [Vm.assignableAux, ne1, a2, g2, a5, g3, gI, Vm.isSubclass, sub]
/-- a call through an interface -/
theorem gFace {index count : Nat} {y z : MethodName} {C' : String} {bytes' : ByteArray} {ml' : Nat} {ret' : Option FieldType} {rm : Room} {ws' : List Addr} {as' : Array Value} {Q : Option Value → Heap → Prop} {argsL : List Value} {a : Addr} {wt : Nat} {ps : List FieldType} {rt : Option FieldType} (W : Wk p l e R s m args below meth c Z a0 EL n0 kn wd own bytes ml ws T h k n) (E : Exa Z h a C')
    (w1 : (Jvm.Cond.methodLink own index y).before a0 Z = true) (w2 : (Jvm.Cond.declares y).before a0 Z = true) (w7 : ∀ (args : Array Value) (s : State), Z.Warmed39 s.vm → (Jvm.Cond.interfaceMethod y.cls y.cls y.name y.desc).before args s = true) (w5 : (Jvm.Cond.selects C' y z).before a0 Z = true) (w6 : (Jvm.Cond.instanceMethod z).before a0 Z = true) (w8 : (Jvm.Cond.publicMethod z).before a0 Z = true) (w9 : (Jvm.Cond.unhidden C' y.name y.desc).before a0 Z = true) (w10 : (Jvm.Cond.castable C' y.cls).before a0 Z = true) (w3 : (Jvm.Cond.initialized z.cls).before a0 Z = true) (w4 : (Jvm.Cond.code z bytes' ml' ret').before a0 Z = true) (hy : y.cls ≠ "java/lang/invoke/MethodHandle" ∧ y.cls ≠ "java/lang/invoke/VarHandle") (hdsc : parseMethodDescriptor y.desc = some ⟨ps, rt⟩)
    (C : Ct l Z a0 EL n0 kn wd z bytes' ml' ret' [] rm ws' as' h Q) (hsub : ∀ x ∈ ws', x ∈ ws) (hd : decode bytes pc = .ok (.invokeinterface index count, 5)) (hp : pc + 5 = pc') (hsz : Ls.size = ml) (has : (.ref a :: argsL).toArray = as') (hlen : argsL.length = ps.length) (hst : st = argsL.reverse ++ .ref a :: rest) (hW : (rest.map fun v => v.category).sum ≤ wt)
    (hf : rm.frames + 1 ≤ R.frames) (hl : wt + (ml' + 11) + rm.locals ≤ R.locals) (hc : k + rm.cells ≤ R.cells) (hs : n + rm.slots ≤ R.slots)
    (G : ∀ v T' h', Wk p l e R s m args below meth c Z a0 EL n0 kn wd own bytes ml ws T' h' (k + rm.cells) (n + rm.slots) → h.size ≤ h'.size → Q v h' → Go p e below Φ T' (mkF m pc' Ls (v.toList ++ rest))) : Go p e below Φ T (mkF m pc Ls st) := by
  subst hp has
  obtain ⟨hall, vm0, k0, locs, X, eT, hS, hk, hZ, hC, hws, hF, hwd, hOl⟩ := W
  have hall' := hall
  obtain ⟨hx, hb', hml, hO, hE, hlk, hkn⟩ := hall'
  have hkn' : kn = true → vm0.MethodsKnown ∧ vm0.FramesKnown below := fun q => known_vm hS.1 (hkn q)
  obtain ⟨cq, kq, qa, qb, qc⟩ := isOf (s := s.setVm vm0) hZ eT E
  obtain ⟨v, vm₁, ⟨T', L', c', n'⟩, -, X', h2, hg, ⟨L, hQ, hF', l', y', z', hC', hwd', hOl'⟩, stp⟩ := X.interfaceBackS hx (xi := y) (y := z) ((hZ.alike.findClass own _).trans hO) (mv (s := s.setVm vm0) hZ w1) (mv (s := s.setVm vm0) hZ w2) (w7 args (s.setVm vm0) hZ) (mv (s := s.setVm vm0) hZ w5) (mv (s := s.setVm vm0) hZ w6) (mv (s := s.setVm vm0) hZ w8) (mv (s := s.setVm vm0) hZ w9) (mv (s := s.setVm vm0) hZ w10) hy
    (C.backS (p := p) (e := e) (R := R) (s := s) (args := args) (below := below) (wt := wt) hZ w4 w3 hf hl hE hC.1 hOl (fun x q => hws x (hsub x q)) hkn') qa qb qc (g := mkF m pc Ls st) rfl (hsz.trans hml.symm) (Steps.refl _) (argsL := argsL) (rest := rest) (lenOf hdsc hlen) hst (by simpa using hW) (hb hb' hd) (fun _ _ => ⟨rfl, eT, hc, hs⟩)
  dsimp only [Pt.U, Pt.locs, Pt.cells, Pt.slots] at X' h2 hg l' y' z' stp hQ hC' hwd' hOl'
  subst l' y' z'
  rw [eT] at hg
  exact (G v T' T'.heap (Wk.after hall hS hk hZ hC hws hF hwd X' h2 hg hF' hC' hwd' hOl') hg hQ).back fun t q => stp.trans q
/-- an instance method that the entry's class inherits -/
theorem gVirtualUp {index : Nat} {x y : MethodName} {C' owner : String} {bytes' : ByteArray} {ml' : Nat} {ret' : Option FieldType} {rm : Room} {ws' : List Addr} {as' : Array Value} {Q : Option Value → Heap → Prop} {argsL : List Value} {a : Addr} {wt : Nat} {ps : List FieldType} {rt : Option FieldType} (W : Wk p l e R s m args below meth c Z a0 EL n0 kn wd own bytes ml ws T h k n) (E : Exa Z h a C')
    (w1 : (Jvm.Cond.methodLink own index x).before a0 Z = true) (w2 : (Jvm.Cond.sameMethod x.cls owner x.name x.desc).before a0 Z = true) (w7 : (Jvm.Cond.declares ⟨owner, x.name, x.desc⟩).before a0 Z = true) (ho : owner ≠ "java/lang/invoke/MethodHandle" ∧ owner ≠ "java/lang/invoke/VarHandle") (w5 : (Jvm.Cond.selects C' x y).before a0 Z = true) (w6 : (Jvm.Cond.instanceMethod y).before a0 Z = true) (w3 : (Jvm.Cond.initialized y.cls).before a0 Z = true) (w4 : (Jvm.Cond.code y bytes' ml' ret').before a0 Z = true) (hdsc : parseMethodDescriptor x.desc = some ⟨ps, rt⟩)
    (C : Ct l Z a0 EL n0 kn wd y bytes' ml' ret' [] rm ws' as' h Q) (hsub : ∀ x ∈ ws', x ∈ ws) (hd : decode bytes pc = .ok (.invokevirtual index, 3)) (hp : pc + 3 = pc') (hsz : Ls.size = ml) (has : (.ref a :: argsL).toArray = as') (hlen : argsL.length = ps.length) (hst : st = argsL.reverse ++ .ref a :: rest) (hW : (rest.map fun v => v.category).sum ≤ wt)
    (hf : rm.frames + 1 ≤ R.frames) (hl : wt + (ml' + 11) + rm.locals ≤ R.locals) (hc : k + rm.cells ≤ R.cells) (hs : n + rm.slots ≤ R.slots)
    (G : ∀ v T' h', Wk p l e R s m args below meth c Z a0 EL n0 kn wd own bytes ml ws T' h' (k + rm.cells) (n + rm.slots) → h.size ≤ h'.size → Q v h' → Go p e below Φ T' (mkF m pc' Ls (v.toList ++ rest))) : Go p e below Φ T (mkF m pc Ls st) := by
  subst hp has
  obtain ⟨hall, vm0, k0, locs, X, eT, hS, hk, hZ, hC, hws, hF, hwd, hOl⟩ := W
  have hall' := hall
  obtain ⟨hx, hb', hml, hO, hE, hlk, hkn⟩ := hall'
  have hkn' : kn = true → vm0.MethodsKnown ∧ vm0.FramesKnown below := fun q => known_vm hS.1 (hkn q)
  obtain ⟨cq, kq, qa, qb, qc⟩ := isOf (s := s.setVm vm0) hZ eT E
  obtain ⟨v, vm₁, ⟨T', L', c', n'⟩, -, X', h2, hg, ⟨L, hQ, hF', l', y', z', hC', hwd', hOl'⟩, stp⟩ := virtualBackUpS X hx (x := x) (y := y) (owner := owner) ((hZ.alike.findClass own _).trans hO) (mv (s := s.setVm vm0) hZ w1) (mv (s := s.setVm vm0) hZ w2) (mv (s := s.setVm vm0) hZ w7) ho (mv (s := s.setVm vm0) hZ w5) (mv (s := s.setVm vm0) hZ w6)
    (C.backS (p := p) (e := e) (R := R) (s := s) (args := args) (below := below) (wt := wt) hZ w4 w3 hf hl hE hC.1 hOl (fun x q => hws x (hsub x q)) hkn') qa qc (g := mkF m pc Ls st) rfl (hsz.trans hml.symm) (Steps.refl _) (argsL := argsL) (rest := rest) (lenOf hdsc hlen) hst (by simpa using hW) (hb hb' hd) (fun _ _ => ⟨rfl, eT, hc, hs⟩)
  dsimp only [Pt.U, Pt.locs, Pt.cells, Pt.slots] at X' h2 hg l' y' z' stp hQ hC' hwd' hOl'
  subst l' y' z'
  rw [eT] at hg
  exact (G v T' T'.heap (Wk.after hall hS hk hZ hC hws hF hwd X' h2 hg hF' hC' hwd' hOl') hg hQ).back fun t q => stp.trans q
end OwnLayerMore
section OwnSteps
variable {p : Program} {l : Launch} {e : Env} {R : Room} {s : State} {m : MethodId} {args : Array Value} {below : List Frame} {meth : Method} {c : Code} {Z : State} {a0 : Array Value} {EL : List (String × Nat)} {n0 : Nat} {kn wd : Bool} {own : String} {bytes : ByteArray} {ml : Nat} {ws : List Addr} {T : State} {h : Heap} {k n : Nat} {Φ : Outcome → State → Prop} {pc pc' : Nat} {Ls : Array Slot} {st rest : List Value}
theorem s_iloadN {j : Fin 4} {v : Int32} (W : Wk p l e R s m args below meth c Z a0 EL n0 kn wd own bytes ml ws T h k n) (hd : decode bytes pc = .ok (.iload_n j, 1)) (hl : Ls[j.val]? = some (.val (.int v))) (hp : pc + 1 = pc') (G : Go p e below Φ T (mkF m pc' Ls ((.int v) :: st))) : Go p e below Φ T (mkF m pc Ls st) := by
  subst hp
  exact g1 W (fun t ha hx hb' q => XS.iloadN ha hx rfl (hb hb' hd) hl q) G
theorem s_iload {j : Nat} {v : Int32} (W : Wk p l e R s m args below meth c Z a0 EL n0 kn wd own bytes ml ws T h k n) (hd : decode bytes pc = .ok (.iload j, 2)) (hl : Ls[j]? = some (.val (.int v))) (hp : pc + 2 = pc') (G : Go p e below Φ T (mkF m pc' Ls ((.int v) :: st))) : Go p e below Φ T (mkF m pc Ls st) := by
  subst hp
  exact g1 W (fun t ha hx hb' q => XS.iload ha hx rfl (hb hb' hd) hl q) G
theorem s_lloadN {j : Fin 4} {v : Int64} (W : Wk p l e R s m args below meth c Z a0 EL n0 kn wd own bytes ml ws T h k n) (hd : decode bytes pc = .ok (.lload_n j, 1)) (hl : Ls[j.val]? = some (.val (.long v))) (hp : pc + 1 = pc') (G : Go p e below Φ T (mkF m pc' Ls ((.long v) :: st))) : Go p e below Φ T (mkF m pc Ls st) := by
  subst hp
  exact g1 W (fun t ha hx hb' q => XS.lloadN ha hx rfl (hb hb' hd) hl q) G
theorem s_lload {j : Nat} {v : Int64} (W : Wk p l e R s m args below meth c Z a0 EL n0 kn wd own bytes ml ws T h k n) (hd : decode bytes pc = .ok (.lload j, 2)) (hl : Ls[j]? = some (.val (.long v))) (hp : pc + 2 = pc') (G : Go p e below Φ T (mkF m pc' Ls ((.long v) :: st))) : Go p e below Φ T (mkF m pc Ls st) := by
  subst hp
  exact g1 W (fun t ha hx hb' q => XS.lload ha hx rfl (hb hb' hd) hl q) G
theorem s_aloadN {j : Fin 4} {v : Value} (W : Wk p l e R s m args below meth c Z a0 EL n0 kn wd own bytes ml ws T h k n) (hd : decode bytes pc = .ok (.aload_n j, 1)) (hl : Ls[j.val]? = some (.val v)) (hv : v.isRef = true) (hp : pc + 1 = pc') (G : Go p e below Φ T (mkF m pc' Ls (v :: st))) : Go p e below Φ T (mkF m pc Ls st) := by
  subst hp
  exact g1 W (fun t ha hx hb' q => XS.aloadN ha hx rfl (hb hb' hd) hl hv q) G
theorem s_aload {j : Nat} {v : Value} (W : Wk p l e R s m args below meth c Z a0 EL n0 kn wd own bytes ml ws T h k n) (hd : decode bytes pc = .ok (.aload j, 2)) (hl : Ls[j]? = some (.val v)) (hv : v.isRef = true) (hp : pc + 2 = pc') (G : Go p e below Φ T (mkF m pc' Ls (v :: st))) : Go p e below Φ T (mkF m pc Ls st) := by
  subst hp
  exact g1 W (fun t ha hx hb' q => XS.aload ha hx rfl (hb hb' hd) hl hv q) G
theorem s_istoreN {j : Fin 4} {v : Int32} {l' : Array Slot} (W : Wk p l e R s m args below meth c Z a0 EL n0 kn wd own bytes ml ws T h k n) (hd : decode bytes pc = .ok (.istore_n j, 1)) (hl : storeLocals Ls j.val (.int v) = some l') (hp : pc + 1 = pc') (G : Go p e below Φ T (mkF m pc' l' rest)) : Go p e below Φ T (mkF m pc Ls ((.int v) :: rest)) := by
  subst hp
  exact g1 W (fun t ha hx hb' q => XS.istoreN ha hx rfl (hb hb' hd) rfl hl q) G
theorem s_istore {j : Nat} {v : Int32} {l' : Array Slot} (W : Wk p l e R s m args below meth c Z a0 EL n0 kn wd own bytes ml ws T h k n) (hd : decode bytes pc = .ok (.istore j, 2)) (hl : storeLocals Ls j (.int v) = some l') (hp : pc + 2 = pc') (G : Go p e below Φ T (mkF m pc' l' rest)) : Go p e below Φ T (mkF m pc Ls ((.int v) :: rest)) := by
  subst hp
  exact g1 W (fun t ha hx hb' q => XS.istore ha hx rfl (hb hb' hd) rfl hl q) G
theorem s_lstoreN {j : Fin 4} {v : Int64} {l' : Array Slot} (W : Wk p l e R s m args below meth c Z a0 EL n0 kn wd own bytes ml ws T h k n) (hd : decode bytes pc = .ok (.lstore_n j, 1)) (hl : storeLocals Ls j.val (.long v) = some l') (hp : pc + 1 = pc') (G : Go p e below Φ T (mkF m pc' l' rest)) : Go p e below Φ T (mkF m pc Ls ((.long v) :: rest)) := by
  subst hp
  exact g1 W (fun t ha hx hb' q => XS.lstoreN ha hx rfl (hb hb' hd) rfl hl q) G
theorem s_lstore {j : Nat} {v : Int64} {l' : Array Slot} (W : Wk p l e R s m args below meth c Z a0 EL n0 kn wd own bytes ml ws T h k n) (hd : decode bytes pc = .ok (.lstore j, 2)) (hl : storeLocals Ls j (.long v) = some l') (hp : pc + 2 = pc') (G : Go p e below Φ T (mkF m pc' l' rest)) : Go p e below Φ T (mkF m pc Ls ((.long v) :: rest)) := by
  subst hp
  exact g1 W (fun t ha hx hb' q => XS.lstore ha hx rfl (hb hb' hd) rfl hl q) G
theorem s_astoreN {j : Fin 4} {v : Value} {l' : Array Slot} (W : Wk p l e R s m args below meth c Z a0 EL n0 kn wd own bytes ml ws T h k n) (hd : decode bytes pc = .ok (.astore_n j, 1)) (hv : v.isRef = true) (hl : storeLocals Ls j.val v = some l') (hp : pc + 1 = pc') (G : Go p e below Φ T (mkF m pc' l' rest)) : Go p e below Φ T (mkF m pc Ls (v :: rest)) := by
  subst hp
  exact g1 W (fun t ha hx hb' q => XS.astoreN ha hx rfl (hb hb' hd) rfl hv hl q) G
theorem s_astore {j : Nat} {v : Value} {l' : Array Slot} (W : Wk p l e R s m args below meth c Z a0 EL n0 kn wd own bytes ml ws T h k n) (hd : decode bytes pc = .ok (.astore j, 2)) (hv : v.isRef = true) (hl : storeLocals Ls j v = some l') (hp : pc + 2 = pc') (G : Go p e below Φ T (mkF m pc' l' rest)) : Go p e below Φ T (mkF m pc Ls (v :: rest)) := by
  subst hp
  exact g1 W (fun t ha hx hb' q => XS.astore ha hx rfl (hb hb' hd) rfl hv hl q) G
theorem s_iconst {i : Int} {v : Int32} (W : Wk p l e R s m args below meth c Z a0 EL n0 kn wd own bytes ml ws T h k n) (hd : decode bytes pc = .ok (.iconst i, 1)) (hv : Int32.ofInt i = v) (hp : pc + 1 = pc') (G : Go p e below Φ T (mkF m pc' Ls (.int v :: st))) : Go p e below Φ T (mkF m pc Ls st) := by
  subst hp hv
  exact g1 W (fun t ha hx hb' q => XS.iconst ha hx rfl (hb hb' hd) q) G
theorem s_bipush {i : Int} {v : Int32} (W : Wk p l e R s m args below meth c Z a0 EL n0 kn wd own bytes ml ws T h k n) (hd : decode bytes pc = .ok (.bipush i, 2)) (hv : (Int8.ofInt i).toInt32 = v) (hp : pc + 2 = pc') (G : Go p e below Φ T (mkF m pc' Ls (.int v :: st))) : Go p e below Φ T (mkF m pc Ls st) := by
  subst hp hv
  exact g1 W (fun t ha hx hb' q => XS.bipush ha hx rfl (hb hb' hd) q) G
theorem s_sipush {i : Int} {v : Int32} (W : Wk p l e R s m args below meth c Z a0 EL n0 kn wd own bytes ml ws T h k n) (hd : decode bytes pc = .ok (.sipush i, 3)) (hv : (Int16.ofInt i).toInt32 = v) (hp : pc + 3 = pc') (G : Go p e below Φ T (mkF m pc' Ls (.int v :: st))) : Go p e below Φ T (mkF m pc Ls st) := by
  subst hp hv
  exact g1 W (fun t ha hx hb' q => XS.sipush ha hx rfl (hb hb' hd) q) G
theorem s_lconst {i : Fin 2} {v : Int64} (W : Wk p l e R s m args below meth c Z a0 EL n0 kn wd own bytes ml ws T h k n) (hd : decode bytes pc = .ok (.lconst i, 1)) (hv : Int64.ofNat i = v) (hp : pc + 1 = pc') (G : Go p e below Φ T (mkF m pc' Ls (.long v :: st))) : Go p e below Φ T (mkF m pc Ls st) := by
  subst hp hv
  exact g1 W (fun t ha hx hb' q => XS.lconst ha hx rfl (hb hb' hd) q) G
theorem s_aconst_null (W : Wk p l e R s m args below meth c Z a0 EL n0 kn wd own bytes ml ws T h k n) (hd : decode bytes pc = .ok (.aconst_null, 1)) (hp : pc + 1 = pc') (G : Go p e below Φ T (mkF m pc' Ls (.null :: st))) : Go p e below Φ T (mkF m pc Ls st) := by
  subst hp
  exact g1 W (fun t ha hx hb' q => XS.aconstNull ha hx rfl (hb hb' hd)  q) G
theorem s_iadd {x y : Int32} (W : Wk p l e R s m args below meth c Z a0 EL n0 kn wd own bytes ml ws T h k n) (hd : decode bytes pc = .ok (.iadd, 1)) (hp : pc + 1 = pc') (G : Go p e below Φ T (mkF m pc' Ls (.int (x + y) :: rest))) : Go p e below Φ T (mkF m pc Ls (.int y :: .int x :: rest)) := by
  subst hp
  exact g1 W (fun t ha hx hb' q => XS.iadd ha hx rfl (hb hb' hd) rfl q) G
theorem s_isub {x y : Int32} (W : Wk p l e R s m args below meth c Z a0 EL n0 kn wd own bytes ml ws T h k n) (hd : decode bytes pc = .ok (.isub, 1)) (hp : pc + 1 = pc') (G : Go p e below Φ T (mkF m pc' Ls (.int (x - y) :: rest))) : Go p e below Φ T (mkF m pc Ls (.int y :: .int x :: rest)) := by
  subst hp
  exact g1 W (fun t ha hx hb' q => XS.isub ha hx rfl (hb hb' hd) rfl q) G
theorem s_imul {x y : Int32} (W : Wk p l e R s m args below meth c Z a0 EL n0 kn wd own bytes ml ws T h k n) (hd : decode bytes pc = .ok (.imul, 1)) (hp : pc + 1 = pc') (G : Go p e below Φ T (mkF m pc' Ls (.int (x * y) :: rest))) : Go p e below Φ T (mkF m pc Ls (.int y :: .int x :: rest)) := by
  subst hp
  exact g1 W (fun t ha hx hb' q => XS.imul ha hx rfl (hb hb' hd) rfl q) G
theorem s_iand {x y : Int32} (W : Wk p l e R s m args below meth c Z a0 EL n0 kn wd own bytes ml ws T h k n) (hd : decode bytes pc = .ok (.iand, 1)) (hp : pc + 1 = pc') (G : Go p e below Φ T (mkF m pc' Ls (.int (x &&& y) :: rest))) : Go p e below Φ T (mkF m pc Ls (.int y :: .int x :: rest)) := by
  subst hp
  exact g1 W (fun t ha hx hb' q => XS.iand ha hx rfl (hb hb' hd) rfl q) G
theorem s_ior {x y : Int32} (W : Wk p l e R s m args below meth c Z a0 EL n0 kn wd own bytes ml ws T h k n) (hd : decode bytes pc = .ok (.ior, 1)) (hp : pc + 1 = pc') (G : Go p e below Φ T (mkF m pc' Ls (.int (x ||| y) :: rest))) : Go p e below Φ T (mkF m pc Ls (.int y :: .int x :: rest)) := by
  subst hp
  exact g1 W (fun t ha hx hb' q => XS.ior ha hx rfl (hb hb' hd) rfl q) G
theorem s_ixor {x y : Int32} (W : Wk p l e R s m args below meth c Z a0 EL n0 kn wd own bytes ml ws T h k n) (hd : decode bytes pc = .ok (.ixor, 1)) (hp : pc + 1 = pc') (G : Go p e below Φ T (mkF m pc' Ls (.int (x ^^^ y) :: rest))) : Go p e below Φ T (mkF m pc Ls (.int y :: .int x :: rest)) := by
  subst hp
  exact g1 W (fun t ha hx hb' q => XS.ixor ha hx rfl (hb hb' hd) rfl q) G
theorem s_ladd {x y : Int64} (W : Wk p l e R s m args below meth c Z a0 EL n0 kn wd own bytes ml ws T h k n) (hd : decode bytes pc = .ok (.ladd, 1)) (hp : pc + 1 = pc') (G : Go p e below Φ T (mkF m pc' Ls (.long (x + y) :: rest))) : Go p e below Φ T (mkF m pc Ls (.long y :: .long x :: rest)) := by
  subst hp
  exact g1 W (fun t ha hx hb' q => XS.ladd ha hx rfl (hb hb' hd) rfl q) G
theorem s_lsub {x y : Int64} (W : Wk p l e R s m args below meth c Z a0 EL n0 kn wd own bytes ml ws T h k n) (hd : decode bytes pc = .ok (.lsub, 1)) (hp : pc + 1 = pc') (G : Go p e below Φ T (mkF m pc' Ls (.long (x - y) :: rest))) : Go p e below Φ T (mkF m pc Ls (.long y :: .long x :: rest)) := by
  subst hp
  exact g1 W (fun t ha hx hb' q => XS.lsub ha hx rfl (hb hb' hd) rfl q) G
theorem s_lmul {x y : Int64} (W : Wk p l e R s m args below meth c Z a0 EL n0 kn wd own bytes ml ws T h k n) (hd : decode bytes pc = .ok (.lmul, 1)) (hp : pc + 1 = pc') (G : Go p e below Φ T (mkF m pc' Ls (.long (x * y) :: rest))) : Go p e below Φ T (mkF m pc Ls (.long y :: .long x :: rest)) := by
  subst hp
  exact g1 W (fun t ha hx hb' q => XS.lmul ha hx rfl (hb hb' hd) rfl q) G
theorem s_land {x y : Int64} (W : Wk p l e R s m args below meth c Z a0 EL n0 kn wd own bytes ml ws T h k n) (hd : decode bytes pc = .ok (.land, 1)) (hp : pc + 1 = pc') (G : Go p e below Φ T (mkF m pc' Ls (.long (x &&& y) :: rest))) : Go p e below Φ T (mkF m pc Ls (.long y :: .long x :: rest)) := by
  subst hp
  exact g1 W (fun t ha hx hb' q => XS.land ha hx rfl (hb hb' hd) rfl q) G
theorem s_lor {x y : Int64} (W : Wk p l e R s m args below meth c Z a0 EL n0 kn wd own bytes ml ws T h k n) (hd : decode bytes pc = .ok (.lor, 1)) (hp : pc + 1 = pc') (G : Go p e below Φ T (mkF m pc' Ls (.long (x ||| y) :: rest))) : Go p e below Φ T (mkF m pc Ls (.long y :: .long x :: rest)) := by
  subst hp
  exact g1 W (fun t ha hx hb' q => XS.lor ha hx rfl (hb hb' hd) rfl q) G
theorem s_lxor {x y : Int64} (W : Wk p l e R s m args below meth c Z a0 EL n0 kn wd own bytes ml ws T h k n) (hd : decode bytes pc = .ok (.lxor, 1)) (hp : pc + 1 = pc') (G : Go p e below Φ T (mkF m pc' Ls (.long (x ^^^ y) :: rest))) : Go p e below Φ T (mkF m pc Ls (.long y :: .long x :: rest)) := by
  subst hp
  exact g1 W (fun t ha hx hb' q => XS.lxor ha hx rfl (hb hb' hd) rfl q) G
theorem s_ishl {x y : Int32} (W : Wk p l e R s m args below meth c Z a0 EL n0 kn wd own bytes ml ws T h k n) (hd : decode bytes pc = .ok (.ishl, 1)) (hp : pc + 1 = pc') (G : Go p e below Φ T (mkF m pc' Ls (.int (x <<< (y &&& 31)) :: rest))) : Go p e below Φ T (mkF m pc Ls (.int y :: .int x :: rest)) := by
  subst hp
  exact g1 W (fun t ha hx hb' q => XS.ishl ha hx rfl (hb hb' hd) rfl q) G
theorem s_ishr {x y : Int32} (W : Wk p l e R s m args below meth c Z a0 EL n0 kn wd own bytes ml ws T h k n) (hd : decode bytes pc = .ok (.ishr, 1)) (hp : pc + 1 = pc') (G : Go p e below Φ T (mkF m pc' Ls (.int (x >>> (y &&& 31)) :: rest))) : Go p e below Φ T (mkF m pc Ls (.int y :: .int x :: rest)) := by
  subst hp
  exact g1 W (fun t ha hx hb' q => XS.ishr ha hx rfl (hb hb' hd) rfl q) G
theorem s_iushr {x y : Int32} (W : Wk p l e R s m args below meth c Z a0 EL n0 kn wd own bytes ml ws T h k n) (hd : decode bytes pc = .ok (.iushr, 1)) (hp : pc + 1 = pc') (G : Go p e below Φ T (mkF m pc' Ls (.int ((x.toUInt32 >>> (y &&& 31).toUInt32).toInt32) :: rest))) : Go p e below Φ T (mkF m pc Ls (.int y :: .int x :: rest)) := by
  subst hp
  exact g1 W (fun t ha hx hb' q => XS.iushr ha hx rfl (hb hb' hd) rfl q) G
theorem s_lshl {x : Int64} {y : Int32} (W : Wk p l e R s m args below meth c Z a0 EL n0 kn wd own bytes ml ws T h k n) (hd : decode bytes pc = .ok (.lshl, 1)) (hp : pc + 1 = pc') (G : Go p e below Φ T (mkF m pc' Ls (.long (x <<< (y &&& 0x3f).toInt64) :: rest))) : Go p e below Φ T (mkF m pc Ls (.int y :: .long x :: rest)) := by
  subst hp
  exact g1 W (fun t ha hx hb' q => XS.lshl ha hx rfl (hb hb' hd) rfl q) G
theorem s_lshr {x : Int64} {y : Int32} (W : Wk p l e R s m args below meth c Z a0 EL n0 kn wd own bytes ml ws T h k n) (hd : decode bytes pc = .ok (.lshr, 1)) (hp : pc + 1 = pc') (G : Go p e below Φ T (mkF m pc' Ls (.long (x >>> (y &&& 0x3f).toInt64) :: rest))) : Go p e below Φ T (mkF m pc Ls (.int y :: .long x :: rest)) := by
  subst hp
  exact g1 W (fun t ha hx hb' q => XS.lshr ha hx rfl (hb hb' hd) rfl q) G
theorem s_lushr {x : Int64} {y : Int32} (W : Wk p l e R s m args below meth c Z a0 EL n0 kn wd own bytes ml ws T h k n) (hd : decode bytes pc = .ok (.lushr, 1)) (hp : pc + 1 = pc') (G : Go p e below Φ T (mkF m pc' Ls (.long ((x.toUInt64 >>> (y &&& 0x3f).toInt64.toUInt64).toInt64) :: rest))) : Go p e below Φ T (mkF m pc Ls (.int y :: .long x :: rest)) := by
  subst hp
  exact g1 W (fun t ha hx hb' q => XS.lushr ha hx rfl (hb hb' hd) rfl q) G
theorem s_idiv {x y : Int32} (W : Wk p l e R s m args below meth c Z a0 EL n0 kn wd own bytes ml ws T h k n) (hd : decode bytes pc = .ok (.idiv, 1)) (hy : y ≠ 0) (hp : pc + 1 = pc') (G : Go p e below Φ T (mkF m pc' Ls (.int (x / y) :: rest))) : Go p e below Φ T (mkF m pc Ls (.int y :: .int x :: rest)) := by
  subst hp
  exact g1 W (fun t ha hx hb' q => XS.idiv ha hx rfl (hb hb' hd) rfl hy q) G
theorem s_irem {x y : Int32} (W : Wk p l e R s m args below meth c Z a0 EL n0 kn wd own bytes ml ws T h k n) (hd : decode bytes pc = .ok (.irem, 1)) (hy : y ≠ 0) (hp : pc + 1 = pc') (G : Go p e below Φ T (mkF m pc' Ls (.int (x % y) :: rest))) : Go p e below Φ T (mkF m pc Ls (.int y :: .int x :: rest)) := by
  subst hp
  exact g2 W (fun vm0 locs X hx hb' hZ eT hO t q => iremM (g := mkF m pc Ls (.int y :: .int x :: rest)) X hx rfl (hb hb' hd) rfl hy q) G
theorem s_ldiv {x y : Int64} (W : Wk p l e R s m args below meth c Z a0 EL n0 kn wd own bytes ml ws T h k n) (hd : decode bytes pc = .ok (.ldiv, 1)) (hy : y ≠ 0) (hp : pc + 1 = pc') (G : Go p e below Φ T (mkF m pc' Ls (.long (x / y) :: rest))) : Go p e below Φ T (mkF m pc Ls (.long y :: .long x :: rest)) := by
  subst hp
  exact g1 W (fun t ha hx hb' q => XS.ldiv ha hx rfl (hb hb' hd) rfl hy q) G
theorem s_ineg {x : Int32} (W : Wk p l e R s m args below meth c Z a0 EL n0 kn wd own bytes ml ws T h k n) (hd : decode bytes pc = .ok (.ineg, 1)) (hp : pc + 1 = pc') (G : Go p e below Φ T (mkF m pc' Ls (.int (-x) :: rest))) : Go p e below Φ T (mkF m pc Ls (.int x :: rest)) := by
  subst hp
  exact g1 W (fun t ha hx hb' q => XS.ineg ha hx rfl (hb hb' hd) rfl q) G
theorem s_lneg {x : Int64} (W : Wk p l e R s m args below meth c Z a0 EL n0 kn wd own bytes ml ws T h k n) (hd : decode bytes pc = .ok (.lneg, 1)) (hp : pc + 1 = pc') (G : Go p e below Φ T (mkF m pc' Ls (.long (-x) :: rest))) : Go p e below Φ T (mkF m pc Ls (.long x :: rest)) := by
  subst hp
  exact g1 W (fun t ha hx hb' q => XS.lneg ha hx rfl (hb hb' hd) rfl q) G
theorem s_i2l {x : Int32} (W : Wk p l e R s m args below meth c Z a0 EL n0 kn wd own bytes ml ws T h k n) (hd : decode bytes pc = .ok (.i2l, 1)) (hp : pc + 1 = pc') (G : Go p e below Φ T (mkF m pc' Ls (.long x.toInt64 :: rest))) : Go p e below Φ T (mkF m pc Ls (.int x :: rest)) := by
  subst hp
  exact g1 W (fun t ha hx hb' q => XS.i2l ha hx rfl (hb hb' hd) rfl q) G
theorem s_l2i {x : Int64} (W : Wk p l e R s m args below meth c Z a0 EL n0 kn wd own bytes ml ws T h k n) (hd : decode bytes pc = .ok (.l2i, 1)) (hp : pc + 1 = pc') (G : Go p e below Φ T (mkF m pc' Ls (.int x.toInt32 :: rest))) : Go p e below Φ T (mkF m pc Ls (.long x :: rest)) := by
  subst hp
  exact g1 W (fun t ha hx hb' q => XS.l2i ha hx rfl (hb hb' hd) rfl q) G
theorem s_i2b {x : Int32} (W : Wk p l e R s m args below meth c Z a0 EL n0 kn wd own bytes ml ws T h k n) (hd : decode bytes pc = .ok (.i2b, 1)) (hp : pc + 1 = pc') (G : Go p e below Φ T (mkF m pc' Ls (.int x.toInt8.toInt32 :: rest))) : Go p e below Φ T (mkF m pc Ls (.int x :: rest)) := by
  subst hp
  exact g1 W (fun t ha hx hb' q => XS.i2b ha hx rfl (hb hb' hd) rfl q) G
theorem s_i2s {x : Int32} (W : Wk p l e R s m args below meth c Z a0 EL n0 kn wd own bytes ml ws T h k n) (hd : decode bytes pc = .ok (.i2s, 1)) (hp : pc + 1 = pc') (G : Go p e below Φ T (mkF m pc' Ls (.int x.toInt16.toInt32 :: rest))) : Go p e below Φ T (mkF m pc Ls (.int x :: rest)) := by
  subst hp
  exact g1 W (fun t ha hx hb' q => XS.i2s ha hx rfl (hb hb' hd) rfl q) G
theorem s_i2c {x : Int32} (W : Wk p l e R s m args below meth c Z a0 EL n0 kn wd own bytes ml ws T h k n) (hd : decode bytes pc = .ok (.i2c, 1)) (hp : pc + 1 = pc') (G : Go p e below Φ T (mkF m pc' Ls (.int x.toUInt32.toUInt16.toUInt32.toInt32 :: rest))) : Go p e below Φ T (mkF m pc Ls (.int x :: rest)) := by
  subst hp
  exact g1 W (fun t ha hx hb' q => XS.i2c ha hx rfl (hb hb' hd) rfl q) G
theorem s_lcmp {x y : Int64} (W : Wk p l e R s m args below meth c Z a0 EL n0 kn wd own bytes ml ws T h k n) (hd : decode bytes pc = .ok (.lcmp, 1)) (hp : pc + 1 = pc') (G : Go p e below Φ T (mkF m pc' Ls (.int (lcmpW x y) :: rest))) : Go p e below Φ T (mkF m pc Ls (.long y :: .long x :: rest)) := by
  subst hp
  exact g1 W (fun t ha hx hb' q => XS.lcmp ha hx rfl (hb hb' hd) rfl q) G
theorem s_dup {v : Value} (W : Wk p l e R s m args below meth c Z a0 EL n0 kn wd own bytes ml ws T h k n) (hd : decode bytes pc = .ok (.dup, 1)) (hv : v.category = 1) (hp : pc + 1 = pc') (G : Go p e below Φ T (mkF m pc' Ls (v :: v :: rest))) : Go p e below Φ T (mkF m pc Ls (v :: rest)) := by
  subst hp
  exact g1 W (fun t ha hx hb' q => XS.dup ha hx rfl (hb hb' hd) rfl hv q) G
theorem s_pop {v : Value} (W : Wk p l e R s m args below meth c Z a0 EL n0 kn wd own bytes ml ws T h k n) (hd : decode bytes pc = .ok (.pop, 1)) (hv : v.category = 1) (hp : pc + 1 = pc') (G : Go p e below Φ T (mkF m pc' Ls rest)) : Go p e below Φ T (mkF m pc Ls (v :: rest)) := by
  subst hp
  exact g1 W (fun t ha hx hb' q => XS.pop ha hx rfl (hb hb' hd) rfl hv q) G
theorem s_dup_x1 {v w : Value} (W : Wk p l e R s m args below meth c Z a0 EL n0 kn wd own bytes ml ws T h k n) (hd : decode bytes pc = .ok (.dup_x1, 1)) (hv : v.category = 1) (hw' : w.category = 1) (hp : pc + 1 = pc') (G : Go p e below Φ T (mkF m pc' Ls (v :: w :: v :: rest))) : Go p e below Φ T (mkF m pc Ls (v :: w :: rest)) := by
  subst hp
  exact g1 W (fun t ha hx hb' q => XS.dupX1 ha hx rfl (hb hb' hd) rfl hv hw' q) G
theorem s_dup2 {v w : Value} (W : Wk p l e R s m args below meth c Z a0 EL n0 kn wd own bytes ml ws T h k n) (hd : decode bytes pc = .ok (.dup2, 1)) (hv : v.category = 1) (hw' : w.category = 1) (hp : pc + 1 = pc') (G : Go p e below Φ T (mkF m pc' Ls (v :: w :: v :: w :: rest))) : Go p e below Φ T (mkF m pc Ls (v :: w :: rest)) := by
  subst hp
  exact g1 W (fun t ha hx hb' q => XT.dup2 ha hx rfl (hb hb' hd) rfl hv hw' q) G
theorem s_dup2L {x : Int64} (W : Wk p l e R s m args below meth c Z a0 EL n0 kn wd own bytes ml ws T h k n) (hd : decode bytes pc = .ok (.dup2, 1)) (hp : pc + 1 = pc') (G : Go p e below Φ T (mkF m pc' Ls (.long x :: .long x :: rest))) : Go p e below Φ T (mkF m pc Ls (.long x :: rest)) := by
  subst hp
  exact g1 W (fun t ha hx hb' q => XT.dup2L ha hx rfl (hb hb' hd) rfl q) G
theorem s_iinc {j : Nat} {cst : Int} {x v : Int32} {l' : Array Slot} (W : Wk p l e R s m args below meth c Z a0 EL n0 kn wd own bytes ml ws T h k n) (hd : decode bytes pc = .ok (.iinc j cst, 3)) (hv : Int32.ofInt cst = v) (hl : Ls[j]? = some (.val (.int x))) (hl' : storeLocals Ls j (.int (x + v)) = some l') (hp : pc + 3 = pc') (G : Go p e below Φ T (mkF m pc' l' st)) : Go p e below Φ T (mkF m pc Ls st) := by
  subst hp hv
  exact g1 W (fun t ha hx hb' q => XS.iinc ha hx rfl (hb hb' hd) hl hl' q) G
theorem s_goto {o : Int} (W : Wk p l e R s m args below meth c Z a0 EL n0 kn wd own bytes ml ws T h k n) (hd : decode bytes pc = .ok (.goto o, 3)) (ho : 0 ≤ (pc : Int) + o) (hp : ((pc : Int) + o).toNat = pc') (G : Go p e below Φ T (mkF m pc' Ls st)) : Go p e below Φ T (mkF m pc Ls st) := by
  subst hp
  exact g1 W (fun t ha hx hb' q => XS.goto ha hx rfl rfl (hb hb' hd) ho rfl q) G
theorem s_ifeq {o : Int} {pc1 pc2 : Nat} {x : Int32} (W : Wk p l e R s m args below meth c Z a0 EL n0 kn wd own bytes ml ws T h k n) (hd : decode bytes pc = .ok (.ifCond .eq o, 3)) (ho : 0 ≤ (pc : Int) + o) (hp1 : ((pc : Int) + o).toNat = pc1) (hp2 : pc + 3 = pc2) (G1 : x = (0 : Int32) → Go p e below Φ T (mkF m pc1 Ls rest)) (G2 : ¬ x = (0 : Int32) → Go p e below Φ T (mkF m pc2 Ls rest)) : Go p e below Φ T (mkF m pc Ls (.int x :: rest)) := by
  subst hp1 hp2
  by_cases q : x = (0 : Int32)
  · exact g1 W (fun t ha hx hb' q' => XS.ifYes ha hx rfl rfl (hb hb' hd) rfl ((if0 _ _).trans (teq q).1) ho rfl q') (G1 q)
  · have q : ¬ x = (0 : Int32) := by first | exact q | exact Classical.not_not.mp q
    exact g1 W (fun t ha hx hb' q' => XS.ifNo ha hx rfl (hb hb' hd) rfl ((if0 _ _).trans (feq q).1) q') (G2 q)
theorem s_icmpeq {o : Int} {pc1 pc2 : Nat} {x y : Int32} (W : Wk p l e R s m args below meth c Z a0 EL n0 kn wd own bytes ml ws T h k n) (hd : decode bytes pc = .ok (.if_icmp .eq o, 3)) (ho : 0 ≤ (pc : Int) + o) (hp1 : ((pc : Int) + o).toNat = pc1) (hp2 : pc + 3 = pc2) (G1 : x = y → Go p e below Φ T (mkF m pc1 Ls rest)) (G2 : ¬ x = y → Go p e below Φ T (mkF m pc2 Ls rest)) : Go p e below Φ T (mkF m pc Ls (.int y :: .int x :: rest)) := by
  subst hp1 hp2
  by_cases q : x = y
  · exact g1 W (fun t ha hx hb' q' => XS.icmpYes ha hx rfl rfl (hb hb' hd) rfl (teq q).1 ho rfl q') (G1 q)
  · have q : ¬ x = y := by first | exact q | exact Classical.not_not.mp q
    exact g1 W (fun t ha hx hb' q' => XS.icmpNo ha hx rfl (hb hb' hd) rfl (feq q).1 q') (G2 q)
theorem s_ifne {o : Int} {pc1 pc2 : Nat} {x : Int32} (W : Wk p l e R s m args below meth c Z a0 EL n0 kn wd own bytes ml ws T h k n) (hd : decode bytes pc = .ok (.ifCond .ne o, 3)) (ho : 0 ≤ (pc : Int) + o) (hp1 : ((pc : Int) + o).toNat = pc1) (hp2 : pc + 3 = pc2) (G1 : ¬ x = (0 : Int32) → Go p e below Φ T (mkF m pc1 Ls rest)) (G2 : x = (0 : Int32) → Go p e below Φ T (mkF m pc2 Ls rest)) : Go p e below Φ T (mkF m pc Ls (.int x :: rest)) := by
  subst hp1 hp2
  by_cases q : ¬ x = (0 : Int32)
  · exact g1 W (fun t ha hx hb' q' => XS.ifYes ha hx rfl rfl (hb hb' hd) rfl ((if0 _ _).trans (feq q).2) ho rfl q') (G1 q)
  · have q : x = (0 : Int32) := by first | exact q | exact Classical.not_not.mp q
    exact g1 W (fun t ha hx hb' q' => XS.ifNo ha hx rfl (hb hb' hd) rfl ((if0 _ _).trans (teq q).2) q') (G2 q)
theorem s_icmpne {o : Int} {pc1 pc2 : Nat} {x y : Int32} (W : Wk p l e R s m args below meth c Z a0 EL n0 kn wd own bytes ml ws T h k n) (hd : decode bytes pc = .ok (.if_icmp .ne o, 3)) (ho : 0 ≤ (pc : Int) + o) (hp1 : ((pc : Int) + o).toNat = pc1) (hp2 : pc + 3 = pc2) (G1 : ¬ x = y → Go p e below Φ T (mkF m pc1 Ls rest)) (G2 : x = y → Go p e below Φ T (mkF m pc2 Ls rest)) : Go p e below Φ T (mkF m pc Ls (.int y :: .int x :: rest)) := by
  subst hp1 hp2
  by_cases q : ¬ x = y
  · exact g1 W (fun t ha hx hb' q' => XS.icmpYes ha hx rfl rfl (hb hb' hd) rfl (feq q).2 ho rfl q') (G1 q)
  · have q : x = y := by first | exact q | exact Classical.not_not.mp q
    exact g1 W (fun t ha hx hb' q' => XS.icmpNo ha hx rfl (hb hb' hd) rfl (teq q).2 q') (G2 q)
theorem s_iflt {o : Int} {pc1 pc2 : Nat} {x : Int32} (W : Wk p l e R s m args below meth c Z a0 EL n0 kn wd own bytes ml ws T h k n) (hd : decode bytes pc = .ok (.ifCond .lt o, 3)) (ho : 0 ≤ (pc : Int) + o) (hp1 : ((pc : Int) + o).toNat = pc1) (hp2 : pc + 3 = pc2) (G1 : x < (0 : Int32) → Go p e below Φ T (mkF m pc1 Ls rest)) (G2 : ¬ x < (0 : Int32) → Go p e below Φ T (mkF m pc2 Ls rest)) : Go p e below Φ T (mkF m pc Ls (.int x :: rest)) := by
  subst hp1 hp2
  by_cases q : x < (0 : Int32)
  · exact g1 W (fun t ha hx hb' q' => XS.ifYes ha hx rfl rfl (hb hb' hd) rfl ((if0 _ _).trans (tlt q).1) ho rfl q') (G1 q)
  · have q : ¬ x < (0 : Int32) := by first | exact q | exact Classical.not_not.mp q
    exact g1 W (fun t ha hx hb' q' => XS.ifNo ha hx rfl (hb hb' hd) rfl ((if0 _ _).trans (flt q).1) q') (G2 q)
theorem s_icmplt {o : Int} {pc1 pc2 : Nat} {x y : Int32} (W : Wk p l e R s m args below meth c Z a0 EL n0 kn wd own bytes ml ws T h k n) (hd : decode bytes pc = .ok (.if_icmp .lt o, 3)) (ho : 0 ≤ (pc : Int) + o) (hp1 : ((pc : Int) + o).toNat = pc1) (hp2 : pc + 3 = pc2) (G1 : x < y → Go p e below Φ T (mkF m pc1 Ls rest)) (G2 : ¬ x < y → Go p e below Φ T (mkF m pc2 Ls rest)) : Go p e below Φ T (mkF m pc Ls (.int y :: .int x :: rest)) := by
  subst hp1 hp2
  by_cases q : x < y
  · exact g1 W (fun t ha hx hb' q' => XS.icmpYes ha hx rfl rfl (hb hb' hd) rfl (tlt q).1 ho rfl q') (G1 q)
  · have q : ¬ x < y := by first | exact q | exact Classical.not_not.mp q
    exact g1 W (fun t ha hx hb' q' => XS.icmpNo ha hx rfl (hb hb' hd) rfl (flt q).1 q') (G2 q)
theorem s_ifge {o : Int} {pc1 pc2 : Nat} {x : Int32} (W : Wk p l e R s m args below meth c Z a0 EL n0 kn wd own bytes ml ws T h k n) (hd : decode bytes pc = .ok (.ifCond .ge o, 3)) (ho : 0 ≤ (pc : Int) + o) (hp1 : ((pc : Int) + o).toNat = pc1) (hp2 : pc + 3 = pc2) (G1 : ¬ x < (0 : Int32) → Go p e below Φ T (mkF m pc1 Ls rest)) (G2 : x < (0 : Int32) → Go p e below Φ T (mkF m pc2 Ls rest)) : Go p e below Φ T (mkF m pc Ls (.int x :: rest)) := by
  subst hp1 hp2
  by_cases q : ¬ x < (0 : Int32)
  · exact g1 W (fun t ha hx hb' q' => XS.ifYes ha hx rfl rfl (hb hb' hd) rfl ((if0 _ _).trans (flt q).2.1) ho rfl q') (G1 q)
  · have q : x < (0 : Int32) := by first | exact q | exact Classical.not_not.mp q
    exact g1 W (fun t ha hx hb' q' => XS.ifNo ha hx rfl (hb hb' hd) rfl ((if0 _ _).trans (tlt q).2.1) q') (G2 q)
theorem s_icmpge {o : Int} {pc1 pc2 : Nat} {x y : Int32} (W : Wk p l e R s m args below meth c Z a0 EL n0 kn wd own bytes ml ws T h k n) (hd : decode bytes pc = .ok (.if_icmp .ge o, 3)) (ho : 0 ≤ (pc : Int) + o) (hp1 : ((pc : Int) + o).toNat = pc1) (hp2 : pc + 3 = pc2) (G1 : ¬ x < y → Go p e below Φ T (mkF m pc1 Ls rest)) (G2 : x < y → Go p e below Φ T (mkF m pc2 Ls rest)) : Go p e below Φ T (mkF m pc Ls (.int y :: .int x :: rest)) := by
  subst hp1 hp2
  by_cases q : ¬ x < y
  · exact g1 W (fun t ha hx hb' q' => XS.icmpYes ha hx rfl rfl (hb hb' hd) rfl (flt q).2.1 ho rfl q') (G1 q)
  · have q : x < y := by first | exact q | exact Classical.not_not.mp q
    exact g1 W (fun t ha hx hb' q' => XS.icmpNo ha hx rfl (hb hb' hd) rfl (tlt q).2.1 q') (G2 q)
theorem s_ifgt {o : Int} {pc1 pc2 : Nat} {x : Int32} (W : Wk p l e R s m args below meth c Z a0 EL n0 kn wd own bytes ml ws T h k n) (hd : decode bytes pc = .ok (.ifCond .gt o, 3)) (ho : 0 ≤ (pc : Int) + o) (hp1 : ((pc : Int) + o).toNat = pc1) (hp2 : pc + 3 = pc2) (G1 : (0 : Int32) < x → Go p e below Φ T (mkF m pc1 Ls rest)) (G2 : ¬ (0 : Int32) < x → Go p e below Φ T (mkF m pc2 Ls rest)) : Go p e below Φ T (mkF m pc Ls (.int x :: rest)) := by
  subst hp1 hp2
  by_cases q : (0 : Int32) < x
  · exact g1 W (fun t ha hx hb' q' => XS.ifYes ha hx rfl rfl (hb hb' hd) rfl ((if0 _ _).trans (tlt q).2.2.1) ho rfl q') (G1 q)
  · have q : ¬ (0 : Int32) < x := by first | exact q | exact Classical.not_not.mp q
    exact g1 W (fun t ha hx hb' q' => XS.ifNo ha hx rfl (hb hb' hd) rfl ((if0 _ _).trans (flt q).2.2.1) q') (G2 q)
theorem s_icmpgt {o : Int} {pc1 pc2 : Nat} {x y : Int32} (W : Wk p l e R s m args below meth c Z a0 EL n0 kn wd own bytes ml ws T h k n) (hd : decode bytes pc = .ok (.if_icmp .gt o, 3)) (ho : 0 ≤ (pc : Int) + o) (hp1 : ((pc : Int) + o).toNat = pc1) (hp2 : pc + 3 = pc2) (G1 : y < x → Go p e below Φ T (mkF m pc1 Ls rest)) (G2 : ¬ y < x → Go p e below Φ T (mkF m pc2 Ls rest)) : Go p e below Φ T (mkF m pc Ls (.int y :: .int x :: rest)) := by
  subst hp1 hp2
  by_cases q : y < x
  · exact g1 W (fun t ha hx hb' q' => XS.icmpYes ha hx rfl rfl (hb hb' hd) rfl (tlt q).2.2.1 ho rfl q') (G1 q)
  · have q : ¬ y < x := by first | exact q | exact Classical.not_not.mp q
    exact g1 W (fun t ha hx hb' q' => XS.icmpNo ha hx rfl (hb hb' hd) rfl (flt q).2.2.1 q') (G2 q)
theorem s_ifle {o : Int} {pc1 pc2 : Nat} {x : Int32} (W : Wk p l e R s m args below meth c Z a0 EL n0 kn wd own bytes ml ws T h k n) (hd : decode bytes pc = .ok (.ifCond .le o, 3)) (ho : 0 ≤ (pc : Int) + o) (hp1 : ((pc : Int) + o).toNat = pc1) (hp2 : pc + 3 = pc2) (G1 : ¬ (0 : Int32) < x → Go p e below Φ T (mkF m pc1 Ls rest)) (G2 : (0 : Int32) < x → Go p e below Φ T (mkF m pc2 Ls rest)) : Go p e below Φ T (mkF m pc Ls (.int x :: rest)) := by
  subst hp1 hp2
  by_cases q : ¬ (0 : Int32) < x
  · exact g1 W (fun t ha hx hb' q' => XS.ifYes ha hx rfl rfl (hb hb' hd) rfl ((if0 _ _).trans (flt q).2.2.2) ho rfl q') (G1 q)
  · have q : (0 : Int32) < x := by first | exact q | exact Classical.not_not.mp q
    exact g1 W (fun t ha hx hb' q' => XS.ifNo ha hx rfl (hb hb' hd) rfl ((if0 _ _).trans (tlt q).2.2.2) q') (G2 q)
theorem s_icmple {o : Int} {pc1 pc2 : Nat} {x y : Int32} (W : Wk p l e R s m args below meth c Z a0 EL n0 kn wd own bytes ml ws T h k n) (hd : decode bytes pc = .ok (.if_icmp .le o, 3)) (ho : 0 ≤ (pc : Int) + o) (hp1 : ((pc : Int) + o).toNat = pc1) (hp2 : pc + 3 = pc2) (G1 : ¬ y < x → Go p e below Φ T (mkF m pc1 Ls rest)) (G2 : y < x → Go p e below Φ T (mkF m pc2 Ls rest)) : Go p e below Φ T (mkF m pc Ls (.int y :: .int x :: rest)) := by
  subst hp1 hp2
  by_cases q : ¬ y < x
  · exact g1 W (fun t ha hx hb' q' => XS.icmpYes ha hx rfl rfl (hb hb' hd) rfl (flt q).2.2.2 ho rfl q') (G1 q)
  · have q : y < x := by first | exact q | exact Classical.not_not.mp q
    exact g1 W (fun t ha hx hb' q' => XS.icmpNo ha hx rfl (hb hb' hd) rfl (tlt q).2.2.2 q') (G2 q)
theorem s_ifnull {o : Int} {pc1 pc2 : Nat} {v : Value} (W : Wk p l e R s m args below meth c Z a0 EL n0 kn wd own bytes ml ws T h k n) (hd : decode bytes pc = .ok (.ifnull o, 3)) (hv : v.isRef = true) (ho : 0 ≤ (pc : Int) + o) (hp1 : ((pc : Int) + o).toNat = pc1) (hp2 : pc + 3 = pc2) (G1 : v = .null → Go p e below Φ T (mkF m pc1 Ls rest)) (G2 : ¬ v = .null → Go p e below Φ T (mkF m pc2 Ls rest)) : Go p e below Φ T (mkF m pc Ls (v :: rest)) := by
  subst hp1 hp2
  by_cases q : v = .null
  · exact g1 W (fun t ha hx hb' q' => XT.nullYes ha hx rfl rfl (hb hb' hd) rfl q ho rfl q') (G1 q)
  · have q : ¬ v = .null := by first | exact q | exact Classical.not_not.mp q
    exact g1 W (fun t ha hx hb' q' => XT.nullNo ha hx rfl (hb hb' hd) rfl hv q q') (G2 q)
theorem s_ifnonnull {o : Int} {pc1 pc2 : Nat} {v : Value} (W : Wk p l e R s m args below meth c Z a0 EL n0 kn wd own bytes ml ws T h k n) (hd : decode bytes pc = .ok (.ifnonnull o, 3)) (hv : v.isRef = true) (ho : 0 ≤ (pc : Int) + o) (hp1 : ((pc : Int) + o).toNat = pc1) (hp2 : pc + 3 = pc2) (G1 : ¬ v = .null → Go p e below Φ T (mkF m pc1 Ls rest)) (G2 : v = .null → Go p e below Φ T (mkF m pc2 Ls rest)) : Go p e below Φ T (mkF m pc Ls (v :: rest)) := by
  subst hp1 hp2
  by_cases q : ¬ v = .null
  · exact g1 W (fun t ha hx hb' q' => XT.nonnullYes ha hx rfl rfl (hb hb' hd) rfl hv q ho rfl q') (G1 q)
  · have q : v = .null := by first | exact q | exact Classical.not_not.mp q
    exact g1 W (fun t ha hx hb' q' => XT.nonnullNo ha hx rfl (hb hb' hd) rfl q q') (G2 q)
theorem s_acmpeq {o : Int} {pc1 pc2 : Nat} {v w : Value} (W : Wk p l e R s m args below meth c Z a0 EL n0 kn wd own bytes ml ws T h k n) (hd : decode bytes pc = .ok (.if_acmp .eq o, 3)) (hv : v.isRef = true) (hw' : w.isRef = true) (ho : 0 ≤ (pc : Int) + o) (hp1 : ((pc : Int) + o).toNat = pc1) (hp2 : pc + 3 = pc2) (G1 : v = w → Go p e below Φ T (mkF m pc1 Ls rest)) (G2 : ¬ v = w → Go p e below Φ T (mkF m pc2 Ls rest)) : Go p e below Φ T (mkF m pc Ls (w :: v :: rest)) := by
  subst hp1 hp2
  by_cases q : v = w
  · exact g1 W (fun t ha hx hb' q' => XT.acmpYes ha hx rfl rfl (hb hb' hd) rfl hv hw' (decide_eq_true q) ho rfl q') (G1 q)
  · have q : ¬ v = w := by first | exact q | exact Classical.not_not.mp q
    exact g1 W (fun t ha hx hb' q' => XT.acmpNo ha hx rfl (hb hb' hd) rfl hv hw' (decide_eq_false q) q') (G2 q)
theorem s_acmpne {o : Int} {pc1 pc2 : Nat} {v w : Value} (W : Wk p l e R s m args below meth c Z a0 EL n0 kn wd own bytes ml ws T h k n) (hd : decode bytes pc = .ok (.if_acmp .ne o, 3)) (hv : v.isRef = true) (hw' : w.isRef = true) (ho : 0 ≤ (pc : Int) + o) (hp1 : ((pc : Int) + o).toNat = pc1) (hp2 : pc + 3 = pc2) (G1 : ¬ v = w → Go p e below Φ T (mkF m pc1 Ls rest)) (G2 : v = w → Go p e below Φ T (mkF m pc2 Ls rest)) : Go p e below Φ T (mkF m pc Ls (w :: v :: rest)) := by
  subst hp1 hp2
  by_cases q : ¬ v = w
  · exact g1 W (fun t ha hx hb' q' => XT.acmpYes ha hx rfl rfl (hb hb' hd) rfl hv hw' (decide_eq_true q) ho rfl q') (G1 q)
  · have q : v = w := by first | exact q | exact Classical.not_not.mp q
    exact g1 W (fun t ha hx hb' q' => XT.acmpNo ha hx rfl (hb hb' hd) rfl hv hw' (decide_eq_false (fun r => r q)) q') (G2 q)
theorem s_ldcI {index : Nat} {v : Int32} (W : Wk p l e R s m args below meth c Z a0 EL n0 kn wd own bytes ml ws T h k n) (w : (Jvm.Cond.constant own index v).before a0 Z = true) (hd : decode bytes pc = .ok (.ldc index, 2)) (hp : pc + 2 = pc') (G : Go p e below Φ T (mkF m pc' Ls (.int v :: st))) : Go p e below Φ T (mkF m pc Ls st) := by
  subst hp
  exact g2 W (fun vm0 locs X hx hb' hZ eT hO t q => X.ldcInt hx hO (mv (s := s.setVm vm0) hZ w) (g := mkF m pc Ls st) rfl (hb hb' hd) t q) G
theorem s_ldcJ {index : Nat} {v : Int64} (W : Wk p l e R s m args below meth c Z a0 EL n0 kn wd own bytes ml ws T h k n) (w : (Jvm.Cond.constantLong own index v).before a0 Z = true) (hd : decode bytes pc = .ok (.ldc2_w index, 3)) (hp : pc + 3 = pc') (G : Go p e below Φ T (mkF m pc' Ls (.long v :: st))) : Go p e below Φ T (mkF m pc Ls st) := by
  subst hp
  exact g2 W (fun vm0 locs X hx hb' hZ eT hO t q => X.ldc2Long hx hO (mv (s := s.setVm vm0) hZ w) (g := mkF m pc Ls st) rfl (hb hb' hd) t q) G
theorem s_castNull {index : Nat} (W : Wk p l e R s m args below meth c Z a0 EL n0 kn wd own bytes ml ws T h k n) (hd : decode bytes pc = .ok (.checkcast index, 3)) (hp : pc + 3 = pc') (G : Go p e below Φ T (mkF m pc' Ls (.null :: rest))) : Go p e below Φ T (mkF m pc Ls (.null :: rest)) := by
  subst hp
  exact g2 W (fun vm0 locs X hx hb' hZ eT hO t q => X.checkcastNull hx (g := mkF m pc Ls (.null :: rest)) rfl rfl (hb hb' hd) t q) G
theorem s_instNull {index : Nat} (W : Wk p l e R s m args below meth c Z a0 EL n0 kn wd own bytes ml ws T h k n) (hd : decode bytes pc = .ok (.instanceof index, 3)) (hp : pc + 3 = pc') (G : Go p e below Φ T (mkF m pc' Ls (.int 0 :: rest))) : Go p e below Φ T (mkF m pc Ls (.null :: rest)) := by
  subst hp
  exact g2 W (fun vm0 locs X hx hb' hZ eT hO t q => X.instanceofNull hx (g := mkF m pc Ls (.null :: rest)) rfl rfl (hb hb' hd) t q) G
theorem Go.cast {f f' : JFrame} (q : f = f') (G : Go p e below Φ T f') : Go p e below Φ T f := q ▸ G
end OwnSteps
section OwnNat
theorem natlt {a n : Nat} (q : a < n) : a < n := q
theorem natle {a n : Nat} (q : a ≤ n) : a ≤ n := q
theorem nateq {a n : Nat} (q : a = n) : a = n := q
theorem ane {a b : Nat} (q : a < b ∨ b < a) : a ≠ b := by omega
end OwnNat
section OwnFacts
variable {Z : State} {h h' h0 : Heap} {a b : Addr} {ws : List Addr} {v w : Value}
theorem isRef_cat (q : v.isRef = true) : v.category = 1 := by cases v <;> first | rfl | (simp [Value.isRef] at q)
theorem narrow_ref {ty : FieldType} (q : v.isRef = true) : narrow ty v = v := by cases v <;> first | (simp [Value.isRef] at q; done) | (cases ty <;> rfl)
theorem fits_ref' {ty : FieldType} (ht : ty.isReference = true) (q : v.isRef = true) : fits ty v = true := by cases ty <;> cases v <;> first | rfl | (simp [Value.isRef] at q; done) | (simp [FieldType.isReference] at ht; done)
/-- a String, its byte array, its coder -/
def Str (Z : State) (h : Heap) (a b : Addr) (kb : ClassId) (cd z : Int32) (bs : List Value) : Prop := Exa Z h a "java/lang/String" ∧ Fld Z h a "java/lang/String" "value" "[B" (.ref b) ∧ Fld Z h a "java/lang/String" "coder" "B" (.int cd) ∧ Arv Z h b kb .byte z bs (.int 0)
theorem Str.keep {kb : ClassId} {cd z : Int32} {bs : List Value} (S : Str Z h a b kb cd z bs) (K : Keep h h' ws) (ha : a ∉ ws) (hb : b ∉ ws) : Str Z h' a b kb cd z bs := ⟨S.1.keep K, S.2.1.keep K ha, S.2.2.1.keep K ha, S.2.2.2.keep K hb⟩
theorem Str.ext {kb : ClassId} {cd z : Int32} {bs : List Value} (S : Str Z h a b kb cd z bs) (E : Ext h h') : Str Z h' a b kb cd z bs := ⟨S.1.ext E, S.2.1.ext E, S.2.2.1.ext E, S.2.2.2.ext E⟩
theorem Unt.keep' (U : Unt h a) (K : Keep h h' ws) (q : a ∉ ws) : Unt h' a := Unt.keep K q U
def One1 (s : Slot) : Prop := s = .unset ∨ ∃ v, s = .val v ∧ v.category = 1
theorem One1.i (x : Int32) : One1 (.val (.int x)) := Or.inr ⟨_, rfl, rfl⟩
theorem One1.u : One1 .unset := Or.inl rfl
theorem n32 {j : Nat} (q : j < 2147483648) : j.toInt32.toInt = (j : Int) := Int32.toInt_ofNat_small (by omega)
theorem n32c {j : Nat} (q : j < 2147483648) : j.toInt32.toNatClampNeg = j := by
  show j.toInt32.toInt.toNat = j
  rw [n32 q]; exact Int.toNat_natCast j
theorem n32s (j : Nat) : j.toInt32 + (1 : Int32) = (j + 1).toInt32 := (Int32.ofNat_add j 1).symm
theorem set_last (vs : List Value) (d x : Value) {j : Nat} (q : j = vs.length) : (vs ++ List.replicate 1 d).set j x = vs ++ [x] := by
  subst q; simp
theorem take_succ' (f : Int32 → Value) (cs : List Int32) {j : Nat} (q : j < cs.length) : (cs.take (j + 1)).map f = (cs.take j).map f ++ [f cs[j]] := by
  rw [List.take_succ_eq_append_getElem q, List.map_append]; rfl
theorem getD_map' (f : Int32 → Value) (cs : List Int32) (d : Value) {j : Nat} (q : j < cs.length) : (cs.map f).getD j d = f cs[j] := by
  rw [List.getD_eq_getElem?_getD, List.getElem?_map, List.getElem?_eq_getElem q]; rfl
theorem lt32 {x y : Int32} (q : x.toInt < y.toInt) : x < y := Int32.lt_iff_toInt_lt.mpr q
theorem nlt32 {x y : Int32} (q : ¬ x.toInt < y.toInt) : ¬ x < y := fun r => q (Int32.lt_iff_toInt_lt.mp r)
theorem eq32 {x y : Int32} (q : x.toInt = y.toInt) : x = y := Int32.toInt_inj.mp q
theorem zero32 : (0 : Int32).toInt = 0 := by decide
end OwnFacts
section OwnWords
theorem allC {P : Jvm.Cond → Prop} {y : Jvm.Cond} {L : List Jvm.Cond} (q : P y) (r : ∀ x ∈ L, P x) : ∀ x ∈ y :: L, P x := fun x z => (List.mem_cons.mp z).elim (fun u => u ▸ q) (r x)
theorem allC0 {P : Jvm.Cond → Prop} : ∀ x ∈ ([] : List Jvm.Cond), P x := fun _ q => nomatch q
end OwnWords
section OwnStr
variable {Z : State} {h h' h0 : Heap} {a b : Addr} {ws : List Addr} {v w : Value} {a0 : Array Value}
theorem Str.uniq {d1 d2 : Addr} {k1 k2 : ClassId} {cd1 cd2 z1 z2 : Int32} {xs1 xs2 : List Int32} (S1 : Str Z h a d1 k1 cd1 z1 (xs1.map Value.int)) (S2 : Str Z h a d2 k2 cd2 z2 (xs2.map Value.int)) (l1 : z1.toInt = xs1.length) (l2 : z2.toInt = xs2.length) : cd1 = cd2 ∧ xs1 = xs2 := by
  have hd : d1 = d2 := by
    by_cases q : d1 = d2
    · exact q
    · exact absurd rfl (S1.2.1.ne S2.2.1 (fun r => q (Value.ref.inj r)))
  have hc : cd1 = cd2 := by
    by_cases q : cd1 = cd2
    · exact q
    · exact absurd rfl (S1.2.2.1.ne S2.2.2.1 (fun r => q (Value.int.inj r)))
  subst hd
  refine ⟨hc, ?_⟩
  have e1 : z1.toNatClampNeg = xs1.length := by show z1.toInt.toNat = _; omega
  have e2 : z2.toNatClampNeg = xs2.length := by show z2.toInt.toNat = _; omega
  have hl : xs1.length = xs2.length := by
    by_cases q : z1.toNatClampNeg = z2.toNatClampNeg
    · rw [← e1, ← e2]; exact q
    · exact absurd rfl (arv_ne S1.2.2.2 S2.2.2.2 (Or.inl q))
  refine List.ext_getElem hl fun i q1 q2 => ?_
  by_cases q : xs1[i] = xs2[i]
  · exact q
  · refine absurd rfl (arv_ne S1.2.2.2 S2.2.2.2 (Or.inr ⟨i, by omega, ?_⟩))
    rw [getD_map' _ _ _ q1, getD_map' _ _ _ q2]
    exact fun r => q (Value.int.inj r)
/-- null, or a String of these bytes -/
def NSt (Z : State) (h : Heap) (w : Value) (o : Option (List Int32)) : Prop := match o with
  | none => w = .null
  | some xs => ∃ (a d : Addr) (kd : ClassId) (z : Int32), w = .ref a ∧ z.toInt = xs.length ∧ xs.length ≤ 64 ∧ Str Z h a d kd 0 z (xs.map Value.int)
theorem NSt.ref {o : Option (List Int32)} (N : NSt Z h w o) : w.isRef = true := by
  cases o with
  | none => cases N; rfl
  | some xs => obtain ⟨a, d, kd, z, rfl, -⟩ := N; rfl
theorem NSt.ext {o : Option (List Int32)} (N : NSt Z h w o) (E : Ext h h') : NSt Z h' w o := by
  cases o with
  | none => exact N
  | some xs => obtain ⟨a, d, kd, z, h1, h2, h3, S⟩ := N; exact ⟨a, d, kd, z, h1, h2, h3, S.ext E⟩
theorem NSt.keep0 {o : Option (List Int32)} (N : NSt Z h w o) (K : Keep h h' []) : NSt Z h' w o := by
  cases o with
  | none => exact N
  | some xs => obtain ⟨a, d, kd, z, h1, h2, h3, S⟩ := N; exact ⟨a, d, kd, z, h1, h2, h3, S.keep K nin0 nin0⟩
theorem NSt.keepX {o : Option (List Int32)} {C : String} {nn : Nat} (N : NSt Z h w o) (E : Exa Z h b C) (hC : C ≠ "java/lang/String") (wi : (Jvm.Cond.instantiable C nn).before a0 Z = true) (K : Keep h h' [b]) : NSt Z h' w o := by
  cases o with
  | none => exact N
  | some xs =>
    obtain ⟨a, d, kd, z, h1, h2, h3, S⟩ := N
    exact ⟨a, d, kd, z, h1, h2, h3, S.keep K (ninS (Ne.symm (ne_exa E S.1 hC)) nin0) (ninS (Ne.symm (E.neArv S.2.2.2 wi)) nin0)⟩
end OwnStr
section OwnChars
theorem byteCharF : ∀ n : Fin 256, nar .char (((Int32.ofNat n.val).toInt8.toInt32 &&& (255 : Int32)).toUInt32.toUInt16.toUInt32.toInt32) = Int32.ofNat n.val := by decide +kernel
theorem byteChar {c : Int32} (q : 0 ≤ c.toInt ∧ c.toInt < 256) : nar .char ((c.toInt8.toInt32 &&& (255 : Int32)).toUInt32.toUInt16.toUInt32.toInt32) = c := by
  have e : c = Int32.ofNat c.toInt.toNat := eq32 (by rw [show (Int32.ofNat c.toInt.toNat).toInt = _ from n32 (by omega)]; omega)
  rw [e]
  exact byteCharF ⟨c.toInt.toNat, by omega⟩
end OwnChars
section OwnChars2
theorem nar_charF : ∀ n : Fin 256, nar .char (Int32.ofNat n.val) = Int32.ofNat n.val := by decide +kernel
theorem nar_char {c : Int32} (q : 0 ≤ c.toInt ∧ c.toInt < 256) : nar .char c = c := by
  have e : c = Int32.ofNat c.toInt.toNat := eq32 (by rw [show (Int32.ofNat c.toInt.toNat).toInt = _ from n32 (by omega)]; omega)
  rw [e]
  exact nar_charF ⟨c.toInt.toNat, by omega⟩
end OwnChars2
section OwnBits
theorem and_nat (x : Int32) {k : Nat} (hk : k < 2147483648) : ∃ n : Nat, n ≤ k ∧ x &&& Int32.ofNat k = Int32.ofNat n := by
  refine ⟨x.toBitVec.toNat &&& k, Nat.and_le_right, ?_⟩
  apply Int32.toBitVec_inj.mp
  apply BitVec.eq_of_toNat_eq
  have e1 : (Int32.ofNat k).toBitVec.toNat = k := by
    show (BitVec.ofNat 32 k).toNat = k
    rw [BitVec.toNat_ofNat]; exact Nat.mod_eq_of_lt (by omega)
  have e2 : (Int32.ofNat (x.toBitVec.toNat &&& k)).toBitVec.toNat = x.toBitVec.toNat &&& k := by
    show (BitVec.ofNat 32 (x.toBitVec.toNat &&& k)).toNat = _
    rw [BitVec.toNat_ofNat]; exact Nat.mod_eq_of_lt (Nat.lt_of_le_of_lt Nat.and_le_right (by omega))
  rw [e2]
  show (x.toBitVec &&& (Int32.ofNat k).toBitVec).toNat = _
  rw [BitVec.toNat_and, e1]
theorem ofN {j : Nat} (q : j < 2147483648) : (Int32.ofNat j).toInt = (j : Int) := n32 q
theorem rem_nat {n k : Nat} (hn : n < 2147483648) (hk : k < 2147483648) : Int32.ofNat n % Int32.ofNat k = Int32.ofNat (n % k) := by
  apply eq32
  rw [Int32.toInt_mod, ofN hn, ofN hk, ofN (Nat.lt_of_le_of_lt (Nat.mod_le n k) hn)]
  exact (Int.ofNat_tmod n k).symm
theorem ofN_add {j k : Nat} (q : j + k < 2147483648) : Int32.ofNat j + Int32.ofNat k = Int32.ofNat (j + k) := (Int32.ofNat_add j k).symm
end OwnBits
section OwnLayer3
variable {p : Program} {l : Launch} {e : Env} {R : Room} {s : State} {m : MethodId} {args : Array Value} {below : List Frame} {meth : Method} {c : Code} {Z : State} {a0 : Array Value} {EL : List (String × Nat)} {n0 : Nat} {kn wd : Bool} {own : String} {bytes : ByteArray} {ml : Nat} {ws : List Addr} {T : State} {h : Heap} {k n : Nat} {Φ : Outcome → State → Prop} {pc pc' : Nat} {Ls : Array Slot} {st rest : List Value}
/-- aastore -/
theorem gStA {a : Addr} {kA : ClassId} {ty : FieldType} {z j : Int32} {v : Value} {vs : List Value} {dv : Value} (W : Wk p l e R s m args below meth c Z a0 EL n0 kn wd own bytes ml ws T h k n) (hn : n0 ≤ a) (A : Arv Z h a kA ty z vs dv) (hty : ty.isReference = true) (F : Sto Z h a v) (hfit : fits ty v = true) (hj : ¬ j < 0 ∧ j < z) {i : Nat} (hi : j.toNatClampNeg = i) (hv : i < vs.length)
    (hd : decode bytes pc = .ok (.aastore, 1)) (hp : pc + 1 = pc') (G : ∀ T' h', Wk p l e R s m args below meth c Z a0 EL n0 kn wd own bytes ml ws T' h' k n → Keep h h' [a] → Arv Z h' a kA ty z (vs.set i v) dv → Go p e below Φ T' (mkF m pc' Ls rest)) : Go p e below Φ T (mkF m pc Ls (v :: .int j :: .ref a :: rest)) := by
  subst hp
  obtain ⟨cl, Ar, q1, S, q3, H, Gf⟩ := A
  have hne : ty ≠ .byte := by rintro rfl; exact absurd hty (by decide)
  exact g4 W hn (Or.inr (Or.inr (Or.inr ⟨cl, ty, Ar, hne⟩))) (fun vm0 locs X hx hb' hZ eT hO => stR X hx hZ eT Ar (j := j) (v := v) (inb_of S hj) hty F (g := mkF m pc Ls (v :: .int j :: .ref a :: rest)) rfl rfl (hb hb' hd))
    (fun T' h' W' w => G T' h' W' (Keep.of_wr w) (Arv.set Ar q1 S q3 H Gf hfit w i hi hv))
/-- System.arraycopy -/
theorem gCopy {index : Nat} {a b : Addr} {kA kB : ClassId} {ty ty' : FieldType} {z z' sp dp nn : Int32} {vs vd us : List Value} {dv dd : Value} {wt : Nat} (W : Wk p l e R s m args below meth c Z a0 EL n0 kn wd own bytes ml ws T h k n)
    (w1 : (Jvm.Cond.methodLink own index Jvm.Stand.acN).before a0 Z = true) (w2 : (Jvm.Cond.native Jvm.Stand.acN).before a0 Z = true) (w3 : (Jvm.Cond.static Jvm.Stand.acN).before a0 Z = true) (w4 : (Jvm.Cond.initialized "java/lang/System").before a0 Z = true)
    (A : Arv Z h a kA ty z vs dv) (B : Arv Z h b kB ty' z' vd dd) (hty : (ty = ty' ∧ refKind ty = false) ∨ (refKind ty = true ∧ refKind ty' = true ∧ StoL Z h b us)) (h1 : ¬ sp < 0) (h2 : ¬ dp < 0) (h3 : ¬ nn < 0) (h4 : sp.toNatClampNeg + nn.toNatClampNeg ≤ z.toNatClampNeg) (h5 : dp.toNatClampNeg + nn.toNatClampNeg ≤ z'.toNatClampNeg)
    (hus : us = (List.range nn.toNatClampNeg).map fun i => vs.getD (sp.toNatClampNeg + i) dv) (hl : dp.toNatClampNeg + nn.toNatClampNeg ≤ vd.length) (hn : n0 ≤ b) (hsf : Sf Z EL ws h b)
    (hd : decode bytes pc = .ok (.invokestatic index, 3)) (hp : pc + 3 = pc') (hsz : Ls.size = ml) (hf : 1 ≤ R.frames) (hW : (rest.map fun v => v.category).sum ≤ wt) (hlo : wt + (nativeFrameWords "java/lang/System" "arraycopy" 5 + 11) ≤ R.locals)
    (G : ∀ T' h', Wk p l e R s m args below meth c Z a0 EL n0 kn wd own bytes ml ws T' h' k n → Keep h h' [b] → Arv Z h' b kB ty' z' (vd.take dp.toNatClampNeg ++ us ++ vd.drop (dp.toNatClampNeg + nn.toNatClampNeg)) dd → Go p e below Φ T' (mkF m pc' Ls rest)) : Go p e below Φ T (mkF m pc Ls (.int nn :: .int dp :: .ref b :: .int sp :: .ref a :: rest)) := by
  subst hp
  obtain ⟨⟨hx, hb', hml, hO, hrest⟩, vm0, k0, locs, X, eT, hS, hk, hZ, hC, hws, hF, hwd, hOl⟩ := W
  have sa := hsf.safe hZ hws
  obtain ⟨T', h', L, X', e', F', K, V, q⟩ := cpA X hx hZ ((hZ.alike.findClass own _).trans hO) w1 w2 w3 w4 eT A B hty h1 h2 h3 h4 h5 hus hl hF hn (g := mkF m pc Ls (.int nn :: .int dp :: .ref b :: .int sp :: .ref a :: rest)) rfl (hsz.trans hml.symm) rfl (hb hb' hd) hf (W := wt) (by simpa using hW) hlo
  have sb : ∀ x ∈ [b], Safe Z EL vm0 h x := fun x q => by rw [List.mem_singleton.mp q]; exact sa
  have hC2 := CHr.keep K sb hC.1
  exact (G T' h' ⟨⟨hx, hb', hml, hO, hrest⟩, vm0, k0, L, X', e', hS, Nat.le_trans hk K.1, hZ, hC.trans hC2, fun x hx' => ⟨Nat.lt_of_lt_of_le (hws x hx').1 K.1, hC2.safe (hws x hx').1 (hws x hx').2⟩, F', hwd, hOl.keep K (fun x q => by rw [List.mem_singleton.mp q]; exact hn)⟩ K V).back q
/-- a private method -/
theorem gPriv {index : Nat} {y y0 : MethodName} {C0 : String} {bytes' : ByteArray} {ml' : Nat} {ret' : Option FieldType} {rm : Room} {ws' : List Addr} {as' : Array Value} {Q : Option Value → Heap → Prop} {argsL : List Value} {a : Addr} {C' : String} {wt : Nat} {ps : List FieldType} {rt : Option FieldType} (W : Wk p l e R s m args below meth c Z a0 EL n0 kn wd own bytes ml ws T h k n) (E : Exa Z h a C')
    (w1 : (Jvm.Cond.methodLink own index y).before a0 Z = true) (w2 : (Jvm.Cond.instanceMethod y).before a0 Z = true) (w5 : (Jvm.Cond.privateMethod y).before a0 Z = true) (w6 : (Jvm.Cond.selects C0 y0 y0).before a0 Z = true) (hcls : y0.cls = y.cls) (w3 : (Jvm.Cond.initialized y.cls).before a0 Z = true) (w4 : (Jvm.Cond.code y bytes' ml' ret').before a0 Z = true) (hy : y.cls ≠ "java/lang/invoke/MethodHandle" ∧ y.cls ≠ "java/lang/invoke/VarHandle") (hdsc : parseMethodDescriptor y.desc = some ⟨ps, rt⟩)
    (C : Ct l Z a0 EL n0 kn wd y bytes' ml' ret' [] rm ws' as' h Q) (hsub : ∀ x ∈ ws', x ∈ ws) (hd : decode bytes pc = .ok (.invokevirtual index, 3)) (hp : pc + 3 = pc') (hsz : Ls.size = ml) (has : (.ref a :: argsL).toArray = as') (hlen : argsL.length = ps.length) (hst : st = argsL.reverse ++ .ref a :: rest) (hW : (rest.map fun v => v.category).sum ≤ wt)
    (hf : rm.frames + 1 ≤ R.frames) (hl : wt + (ml' + 11) + rm.locals ≤ R.locals) (hc : k + rm.cells ≤ R.cells) (hs : n + rm.slots ≤ R.slots)
    (G : ∀ v T' h', Wk p l e R s m args below meth c Z a0 EL n0 kn wd own bytes ml ws T' h' (k + rm.cells) (n + rm.slots) → h.size ≤ h'.size → Q v h' → Go p e below Φ T' (mkF m pc' Ls (v.toList ++ rest))) : Go p e below Φ T (mkF m pc Ls st) := by
  subst hp has
  obtain ⟨hall, vm0, k0, locs, X, eT, hS, hk, hZ, hC, hws, hF, hwd, hOl⟩ := W
  have hall' := hall
  obtain ⟨hx, hb', hml, hO, hE, hlk, hkn⟩ := hall'
  have hkn' : kn = true → vm0.MethodsKnown ∧ vm0.FramesKnown below := fun q => known_vm hS.1 (hkn q)
  obtain ⟨cq, kq, qa, qb, qc⟩ := isOf (s := s.setVm vm0) hZ eT E
  obtain ⟨cell, hcell, -, hst0⟩ := qc
  have hobj : ∀ q, cell.vm ≠ .statics q := fun q e => by rw [e] at hst0; cases hst0
  obtain ⟨c2, r2, m2, -, -, q3, -, kP, hkP, hkPi⟩ := Cond.selects_spec (mv (s := s.setVm vm0) (args := args) hZ w6)
  have hpr := Cond.privateMethod_at (mvP (s := s.setVm vm0) (args := args) hZ w5)
  have hsel := selects_self_of_private (args := args) (by rw [← hcls]; exact findClass_of_methodNamed q3) hkP hkPi hpr (mv (s := s.setVm vm0) hZ w2) hy
  obtain ⟨v, vm₁, ⟨T', L', c', n'⟩, -, X', h2, hg, ⟨L, hQ, hF', l', y', z', hC', hwd', hOl'⟩, stp⟩ := X.privateBackS hx (y := y) ((hZ.alike.findClass own _).trans hO) (mv (s := s.setVm vm0) hZ w1) (mv (s := s.setVm vm0) hZ w2) hsel hpr (mv (s := s.setVm vm0) hZ w4) hy
    (C.backS (p := p) (e := e) (R := R) (s := s) (args := args) (below := below) (wt := wt) hZ w4 w3 hf hl hE hC.1 hOl (fun x q => hws x (hsub x q)) hkn') (g := mkF m pc Ls st) rfl (hsz.trans hml.symm) (Steps.refl _) hcell hobj (argsL := argsL) (rest := rest) (lenOf hdsc hlen) hst (by simpa using hW) (hb hb' hd) (fun _ _ => ⟨rfl, eT, hc, hs⟩)
  dsimp only [Pt.U, Pt.locs, Pt.cells, Pt.slots] at X' h2 hg l' y' z' stp hQ hC' hwd' hOl'
  subst l' y' z'
  rw [eT] at hg
  exact (G v T' T'.heap (Wk.after hall hS hk hZ hC hws hF hwd X' h2 hg hF' hC' hwd' hOl') hg hQ).back fun t q => stp.trans q
theorem Arv.sto {a y : Addr} {kA : ClassId} {ty : FieldType} {z : Int32} {vs : List Value} {dv : Value} {C : String} (A : Arv Z h a kA ty z vs dv) (O : Ovr Z kA C) (I : Ins Z h y C true) : Sto Z h a (.ref y) := by
  obtain ⟨cl, Ar, q1, -⟩ := A
  exact Sto.ofV Ar q1 O I
end OwnLayer3
abbrev EL0 : List (String × Nat) := []
theorem w_0 {Z : State} {a0 : Array Value} (hw : ∀ d ∈ tables_1, d.before a0 Z = true) : (Jvm.Cond.classLink "com/example/ripen/ripen/DeadlineHeapToArrayPinLaw" (2 : Nat) "java/lang/Object").before a0 Z = true := hw _ (List.mem_of_getElem? (i := 0) rfl)
theorem w_1 {Z : State} {a0 : Array Value} (hw : ∀ d ∈ tables_1, d.before a0 Z = true) : (Jvm.Cond.arrayOver (Jvm.ClassFile.FieldType.object "java/lang/Object")).before a0 Z = true := hw _ (List.mem_of_getElem? (i := 1) rfl)
theorem w_2 {Z : State} {a0 : Array Value} (hw : ∀ d ∈ tables_1, d.before a0 Z = true) : (Jvm.Cond.classLink "com/example/ripen/ripen/DeadlineHeapToArrayPinLaw" (7 : Nat) "java/lang/String").before a0 Z = true := hw _ (List.mem_of_getElem? (i := 2) rfl)
theorem w_3 {Z : State} {a0 : Array Value} (hw : ∀ d ∈ tables_1, d.before a0 Z = true) : (Jvm.Cond.instantiable "java/lang/String" (4 : Nat)).before a0 Z = true := hw _ (List.mem_of_getElem? (i := 3) rfl)
theorem w_4 {Z : State} {a0 : Array Value} (hw : ∀ d ∈ tables_1, d.before a0 Z = true) : (Jvm.Cond.initialized "java/lang/String").before a0 Z = true := hw _ (List.mem_of_getElem? (i := 4) rfl)
theorem w_5 {Z : State} {a0 : Array Value} (hw : ∀ d ∈ tables_1, d.before a0 Z = true) : (Jvm.Cond.arrayClass Jvm.ClassFile.FieldType.char).before a0 Z = true := hw _ (List.mem_of_getElem? (i := 5) rfl)
theorem w_6 {Z : State} {a0 : Array Value} (hw : ∀ d ∈ tables_1, d.before a0 Z = true) : (Jvm.Cond.methodLink "com/example/ripen/ripen/DeadlineHeapToArrayPinLaw" (9 : Nat) ({ cls := "java/lang/String", name := "<init>", desc := "([C)V" } : Jvm.MethodName)).before a0 Z = true := hw _ (List.mem_of_getElem? (i := 6) rfl)
theorem w_7 {Z : State} {a0 : Array Value} (hw : ∀ d ∈ tables_1, d.before a0 Z = true) : (Jvm.Cond.instanceMethod ({ cls := "java/lang/String", name := "<init>", desc := "([C)V" } : Jvm.MethodName)).before a0 Z = true := hw _ (List.mem_of_getElem? (i := 7) rfl)
theorem w_8 {Z : State} {a0 : Array Value} (hw : ∀ d ∈ tables_1, d.before a0 Z = true) : (Jvm.Cond.code ({ cls := "java/lang/String", name := "<init>", desc := "([C)V" } : Jvm.MethodName) jdk_42_method_3_code (2 : Nat) (Option.none : Option Jvm.ClassFile.FieldType)).before a0 Z = true := hw _ (List.mem_of_getElem? (i := 8) rfl)
theorem w_9 {Z : State} {a0 : Array Value} (hw : ∀ d ∈ tables_1, d.before a0 Z = true) : (Jvm.Cond.methodLink "java/lang/String" (27 : Nat) ({ cls := "java/lang/String", name := "<init>", desc := "([CIILjava/lang/Void;)V" } : Jvm.MethodName)).before a0 Z = true := hw _ (List.mem_of_getElem? (i := 9) rfl)
theorem w_10 {Z : State} {a0 : Array Value} (hw : ∀ d ∈ tables_1, d.before a0 Z = true) : (Jvm.Cond.instanceMethod ({ cls := "java/lang/String", name := "<init>", desc := "([CIILjava/lang/Void;)V" } : Jvm.MethodName)).before a0 Z = true := hw _ (List.mem_of_getElem? (i := 10) rfl)
theorem w_12 {Z : State} {a0 : Array Value} (hw : ∀ d ∈ tables_1, d.before a0 Z = true) : (Jvm.Cond.code ({ cls := "java/lang/String", name := "<init>", desc := "([CIILjava/lang/Void;)V" } : Jvm.MethodName) jdk_42_method_149_code (6 : Nat) (Option.none : Option Jvm.ClassFile.FieldType)).before a0 Z = true := hw _ (List.mem_of_getElem? (i := 12) rfl)
theorem w_13 {Z : State} {a0 : Array Value} (hw : ∀ d ∈ tables_1, d.before a0 Z = true) : (Jvm.Cond.methodLink "java/lang/String" (1 : Nat) ({ cls := "java/lang/Object", name := "<init>", desc := "()V" } : Jvm.MethodName)).before a0 Z = true := hw _ (List.mem_of_getElem? (i := 13) rfl)
theorem w_14 {Z : State} {a0 : Array Value} (hw : ∀ d ∈ tables_1, d.before a0 Z = true) : (Jvm.Cond.instanceMethod ({ cls := "java/lang/Object", name := "<init>", desc := "()V" } : Jvm.MethodName)).before a0 Z = true := hw _ (List.mem_of_getElem? (i := 14) rfl)
theorem w_15 {Z : State} {a0 : Array Value} (hw : ∀ d ∈ tables_1, d.before a0 Z = true) : (Jvm.Cond.code ({ cls := "java/lang/Object", name := "<init>", desc := "()V" } : Jvm.MethodName) object_method_1_code (1 : Nat) (Option.none : Option Jvm.ClassFile.FieldType)).before a0 Z = true := hw _ (List.mem_of_getElem? (i := 15) rfl)
theorem w_16 {Z : State} {a0 : Array Value} (hw : ∀ d ∈ tables_1, d.before a0 Z = true) : (Jvm.Cond.fieldLink "java/lang/String" (38 : Nat) "java/lang/String" "COMPACT_STRINGS" "Z").before a0 Z = true := hw _ (List.mem_of_getElem? (i := 16) rfl)
theorem w_17 {Z : State} {a0 : Array Value} (hw : ∀ d ∈ tables_1, d.before a0 Z = true) : (Jvm.Cond.methodLink "java/lang/String" (177 : Nat) ({ cls := "java/lang/StringUTF16", name := "compress", desc := "([CII)[B" } : Jvm.MethodName)).before a0 Z = true := hw _ (List.mem_of_getElem? (i := 17) rfl)
theorem w_18 {Z : State} {a0 : Array Value} (hw : ∀ d ∈ tables_1, d.before a0 Z = true) : (Jvm.Cond.static ({ cls := "java/lang/StringUTF16", name := "compress", desc := "([CII)[B" } : Jvm.MethodName)).before a0 Z = true := hw _ (List.mem_of_getElem? (i := 18) rfl)
theorem w_19 {Z : State} {a0 : Array Value} (hw : ∀ d ∈ tables_1, d.before a0 Z = true) : (Jvm.Cond.initialized "java/lang/StringUTF16").before a0 Z = true := hw _ (List.mem_of_getElem? (i := 19) rfl)
theorem w_20 {Z : State} {a0 : Array Value} (hw : ∀ d ∈ tables_1, d.before a0 Z = true) : (Jvm.Cond.code ({ cls := "java/lang/StringUTF16", name := "compress", desc := "([CII)[B" } : Jvm.MethodName) jdk_52_method_16_code (6 : Nat) (Option.some (Jvm.ClassFile.FieldType.array Jvm.ClassFile.FieldType.byte))).before a0 Z = true := hw _ (List.mem_of_getElem? (i := 20) rfl)
theorem w_21 {Z : State} {a0 : Array Value} (hw : ∀ d ∈ tables_1, d.before a0 Z = true) : (Jvm.Cond.arrayClass Jvm.ClassFile.FieldType.byte).before a0 Z = true := hw _ (List.mem_of_getElem? (i := 21) rfl)
theorem w_22 {Z : State} {a0 : Array Value} (hw : ∀ d ∈ tables_1, d.before a0 Z = true) : (Jvm.Cond.methodLink "java/lang/StringUTF16" (115 : Nat) ({ cls := "java/lang/StringUTF16", name := "compress", desc := "([CI[BII)I" } : Jvm.MethodName)).before a0 Z = true := hw _ (List.mem_of_getElem? (i := 22) rfl)
theorem w_23 {Z : State} {a0 : Array Value} (hw : ∀ d ∈ tables_1, d.before a0 Z = true) : (Jvm.Cond.static ({ cls := "java/lang/StringUTF16", name := "compress", desc := "([CI[BII)I" } : Jvm.MethodName)).before a0 Z = true := hw _ (List.mem_of_getElem? (i := 23) rfl)
theorem w_24 {Z : State} {a0 : Array Value} (hw : ∀ d ∈ tables_1, d.before a0 Z = true) : (Jvm.Cond.code ({ cls := "java/lang/StringUTF16", name := "compress", desc := "([CI[BII)I" } : Jvm.MethodName) jdk_52_method_21_code (7 : Nat) (Option.some Jvm.ClassFile.FieldType.int)).before a0 Z = true := hw _ (List.mem_of_getElem? (i := 24) rfl)
theorem w_25 {Z : State} {a0 : Array Value} (hw : ∀ d ∈ tables_1, d.before a0 Z = true) : (Jvm.Cond.methodLink "java/lang/String" (47 : Nat) ({ cls := "java/lang/StringUTF16", name := "coderFromArrayLen", desc := "([BI)B" } : Jvm.MethodName)).before a0 Z = true := hw _ (List.mem_of_getElem? (i := 25) rfl)
theorem w_26 {Z : State} {a0 : Array Value} (hw : ∀ d ∈ tables_1, d.before a0 Z = true) : (Jvm.Cond.static ({ cls := "java/lang/StringUTF16", name := "coderFromArrayLen", desc := "([BI)B" } : Jvm.MethodName)).before a0 Z = true := hw _ (List.mem_of_getElem? (i := 26) rfl)
theorem w_27 {Z : State} {a0 : Array Value} (hw : ∀ d ∈ tables_1, d.before a0 Z = true) : (Jvm.Cond.code ({ cls := "java/lang/StringUTF16", name := "coderFromArrayLen", desc := "([BI)B" } : Jvm.MethodName) jdk_52_method_15_code (2 : Nat) (Option.some Jvm.ClassFile.FieldType.byte)).before a0 Z = true := hw _ (List.mem_of_getElem? (i := 27) rfl)
theorem w_28 {Z : State} {a0 : Array Value} (hw : ∀ d ∈ tables_1, d.before a0 Z = true) : (Jvm.Cond.fieldLink "java/lang/String" (15 : Nat) "java/lang/String" "coder" "B").before a0 Z = true := hw _ (List.mem_of_getElem? (i := 28) rfl)
theorem w_29 {Z : State} {a0 : Array Value} (hw : ∀ d ∈ tables_1, d.before a0 Z = true) : (Jvm.Cond.laysFinal "java/lang/String" "java/lang/String" "coder" "B").before a0 Z = true := hw _ (List.mem_of_getElem? (i := 29) rfl)
theorem w_30 {Z : State} {a0 : Array Value} (hw : ∀ d ∈ tables_1, d.before a0 Z = true) : (Jvm.Cond.fieldLink "java/lang/String" (9 : Nat) "java/lang/String" "value" "[B").before a0 Z = true := hw _ (List.mem_of_getElem? (i := 30) rfl)
theorem w_31 {Z : State} {a0 : Array Value} (hw : ∀ d ∈ tables_1, d.before a0 Z = true) : (Jvm.Cond.laysFinal "java/lang/String" "java/lang/String" "value" "[B").before a0 Z = true := hw _ (List.mem_of_getElem? (i := 31) rfl)
theorem w_32 {Z : State} {a0 : Array Value} (hw : ∀ d ∈ tables_1, d.before a0 Z = true) : (Jvm.Cond.castable "java/lang/String" "java/lang/Object").before a0 Z = true := hw _ (List.mem_of_getElem? (i := 32) rfl)
theorem w_33 {Z : State} {a0 : Array Value} (hw : ∀ d ∈ tables_1, d.before a0 Z = true) : (Jvm.Cond.arrayClass Jvm.ClassFile.FieldType.long).before a0 Z = true := hw _ (List.mem_of_getElem? (i := 33) rfl)
theorem w_34 {Z : State} {a0 : Array Value} (hw : ∀ d ∈ tables_1, d.before a0 Z = true) : (Jvm.Cond.classLink "com/example/ripen/ripen/DeadlineHeapToArrayPinLaw" (12 : Nat) "com/example/ripen/ripen/DeadlineHeap").before a0 Z = true := hw _ (List.mem_of_getElem? (i := 34) rfl)
theorem w_35 {Z : State} {a0 : Array Value} (hw : ∀ d ∈ tables_1, d.before a0 Z = true) : (Jvm.Cond.instantiable "com/example/ripen/ripen/DeadlineHeap" (7 : Nat)).before a0 Z = true := hw _ (List.mem_of_getElem? (i := 35) rfl)
theorem w_36 {Z : State} {a0 : Array Value} (hw : ∀ d ∈ tables_1, d.before a0 Z = true) : (Jvm.Cond.initialized "com/example/ripen/ripen/DeadlineHeap").before a0 Z = true := hw _ (List.mem_of_getElem? (i := 36) rfl)
theorem w_37 {Z : State} {a0 : Array Value} (hw : ∀ d ∈ tables_1, d.before a0 Z = true) : (Jvm.Cond.methodLink "com/example/ripen/ripen/DeadlineHeapToArrayPinLaw" (14 : Nat) ({ cls := "com/example/ripen/ripen/DeadlineHeap", name := "<init>", desc := "()V" } : Jvm.MethodName)).before a0 Z = true := hw _ (List.mem_of_getElem? (i := 37) rfl)
theorem w_38 {Z : State} {a0 : Array Value} (hw : ∀ d ∈ tables_1, d.before a0 Z = true) : (Jvm.Cond.instanceMethod ({ cls := "com/example/ripen/ripen/DeadlineHeap", name := "<init>", desc := "()V" } : Jvm.MethodName)).before a0 Z = true := hw _ (List.mem_of_getElem? (i := 38) rfl)
theorem w_39 {Z : State} {a0 : Array Value} (hw : ∀ d ∈ tables_1, d.before a0 Z = true) : (Jvm.Cond.code ({ cls := "com/example/ripen/ripen/DeadlineHeap", name := "<init>", desc := "()V" } : Jvm.MethodName) prog_1_method_1_code (1 : Nat) (Option.none : Option Jvm.ClassFile.FieldType)).before a0 Z = true := hw _ (List.mem_of_getElem? (i := 39) rfl)
theorem w_40 {Z : State} {a0 : Array Value} (hw : ∀ d ∈ tables_1, d.before a0 Z = true) : (Jvm.Cond.methodLink "com/example/ripen/ripen/DeadlineHeap" (3 : Nat) ({ cls := "com/example/ripen/ripen/DeadlineHeap", name := "<init>", desc := "(ZLcom/example/ripen/ripen/DeadlineHeap$SlotTracker;)V" } : Jvm.MethodName)).before a0 Z = true := hw _ (List.mem_of_getElem? (i := 40) rfl)
theorem w_41 {Z : State} {a0 : Array Value} (hw : ∀ d ∈ tables_1, d.before a0 Z = true) : (Jvm.Cond.instanceMethod ({ cls := "com/example/ripen/ripen/DeadlineHeap", name := "<init>", desc := "(ZLcom/example/ripen/ripen/DeadlineHeap$SlotTracker;)V" } : Jvm.MethodName)).before a0 Z = true := hw _ (List.mem_of_getElem? (i := 41) rfl)
theorem w_42 {Z : State} {a0 : Array Value} (hw : ∀ d ∈ tables_1, d.before a0 Z = true) : (Jvm.Cond.code ({ cls := "com/example/ripen/ripen/DeadlineHeap", name := "<init>", desc := "(ZLcom/example/ripen/ripen/DeadlineHeap$SlotTracker;)V" } : Jvm.MethodName) prog_1_method_2_code (3 : Nat) (Option.none : Option Jvm.ClassFile.FieldType)).before a0 Z = true := hw _ (List.mem_of_getElem? (i := 42) rfl)
theorem w_43 {Z : State} {a0 : Array Value} (hw : ∀ d ∈ tables_1, d.before a0 Z = true) : (Jvm.Cond.methodLink "com/example/ripen/ripen/DeadlineHeap" (9 : Nat) ({ cls := "java/lang/Object", name := "<init>", desc := "()V" } : Jvm.MethodName)).before a0 Z = true := hw _ (List.mem_of_getElem? (i := 43) rfl)
theorem w_44 {Z : State} {a0 : Array Value} (hw : ∀ d ∈ tables_1, d.before a0 Z = true) : (Jvm.Cond.fieldLink "com/example/ripen/ripen/DeadlineHeap" (14 : Nat) "com/example/ripen/ripen/DeadlineHeap" "deadlines" "[J").before a0 Z = true := hw _ (List.mem_of_getElem? (i := 44) rfl)
theorem w_45 {Z : State} {a0 : Array Value} (hw : ∀ d ∈ tables_1, d.before a0 Z = true) : (Jvm.Cond.lays "com/example/ripen/ripen/DeadlineHeap" "com/example/ripen/ripen/DeadlineHeap" "deadlines" "[J").before a0 Z = true := hw _ (List.mem_of_getElem? (i := 45) rfl)
theorem w_46 {Z : State} {a0 : Array Value} (hw : ∀ d ∈ tables_1, d.before a0 Z = true) : (Jvm.Cond.arrayClass Jvm.ClassFile.FieldType.int).before a0 Z = true := hw _ (List.mem_of_getElem? (i := 46) rfl)
theorem w_47 {Z : State} {a0 : Array Value} (hw : ∀ d ∈ tables_1, d.before a0 Z = true) : (Jvm.Cond.methodLink "com/example/ripen/ripen/DeadlineHeap" (18 : Nat) ({ cls := "com/example/ripen/ripen/DeadlineHeap", name := "withFreeHandles", desc := "([II)[I" } : Jvm.MethodName)).before a0 Z = true := hw _ (List.mem_of_getElem? (i := 47) rfl)
theorem w_48 {Z : State} {a0 : Array Value} (hw : ∀ d ∈ tables_1, d.before a0 Z = true) : (Jvm.Cond.static ({ cls := "com/example/ripen/ripen/DeadlineHeap", name := "withFreeHandles", desc := "([II)[I" } : Jvm.MethodName)).before a0 Z = true := hw _ (List.mem_of_getElem? (i := 48) rfl)
theorem w_49 {Z : State} {a0 : Array Value} (hw : ∀ d ∈ tables_1, d.before a0 Z = true) : (Jvm.Cond.code ({ cls := "com/example/ripen/ripen/DeadlineHeap", name := "withFreeHandles", desc := "([II)[I" } : Jvm.MethodName) prog_1_method_25_code (4 : Nat) (Option.some (Jvm.ClassFile.FieldType.array Jvm.ClassFile.FieldType.int))).before a0 Z = true := hw _ (List.mem_of_getElem? (i := 49) rfl)
theorem w_50 {Z : State} {a0 : Array Value} (hw : ∀ d ∈ tables_1, d.before a0 Z = true) : (Jvm.Cond.methodLink "com/example/ripen/ripen/DeadlineHeap" (158 : Nat) ({ cls := "java/util/Arrays", name := "copyOf", desc := "([II)[I" } : Jvm.MethodName)).before a0 Z = true := hw _ (List.mem_of_getElem? (i := 50) rfl)
theorem w_51 {Z : State} {a0 : Array Value} (hw : ∀ d ∈ tables_1, d.before a0 Z = true) : (Jvm.Cond.static ({ cls := "java/util/Arrays", name := "copyOf", desc := "([II)[I" } : Jvm.MethodName)).before a0 Z = true := hw _ (List.mem_of_getElem? (i := 51) rfl)
theorem w_52 {Z : State} {a0 : Array Value} (hw : ∀ d ∈ tables_1, d.before a0 Z = true) : (Jvm.Cond.initialized "java/util/Arrays").before a0 Z = true := hw _ (List.mem_of_getElem? (i := 52) rfl)
theorem w_53 {Z : State} {a0 : Array Value} (hw : ∀ d ∈ tables_1, d.before a0 Z = true) : (Jvm.Cond.code ({ cls := "java/util/Arrays", name := "copyOf", desc := "([II)[I" } : Jvm.MethodName) jdk_65_method_123_code (3 : Nat) (Option.some (Jvm.ClassFile.FieldType.array Jvm.ClassFile.FieldType.int))).before a0 Z = true := hw _ (List.mem_of_getElem? (i := 53) rfl)
theorem w_54 {Z : State} {a0 : Array Value} (hw : ∀ d ∈ tables_1, d.before a0 Z = true) : (Jvm.Cond.methodLink "java/util/Arrays" (304 : Nat) ({ cls := "java/lang/Math", name := "min", desc := "(II)I" } : Jvm.MethodName)).before a0 Z = true := hw _ (List.mem_of_getElem? (i := 54) rfl)
theorem w_55 {Z : State} {a0 : Array Value} (hw : ∀ d ∈ tables_1, d.before a0 Z = true) : (Jvm.Cond.static ({ cls := "java/lang/Math", name := "min", desc := "(II)I" } : Jvm.MethodName)).before a0 Z = true := hw _ (List.mem_of_getElem? (i := 55) rfl)
theorem w_56 {Z : State} {a0 : Array Value} (hw : ∀ d ∈ tables_1, d.before a0 Z = true) : (Jvm.Cond.initialized "java/lang/Math").before a0 Z = true := hw _ (List.mem_of_getElem? (i := 56) rfl)
theorem w_57 {Z : State} {a0 : Array Value} (hw : ∀ d ∈ tables_1, d.before a0 Z = true) : (Jvm.Cond.code ({ cls := "java/lang/Math", name := "min", desc := "(II)I" } : Jvm.MethodName) jdk_29_method_69_code (2 : Nat) (Option.some Jvm.ClassFile.FieldType.int)).before a0 Z = true := hw _ (List.mem_of_getElem? (i := 57) rfl)
theorem w_58 {Z : State} {a0 : Array Value} (hw : ∀ d ∈ tables_1, d.before a0 Z = true) : (Jvm.Cond.methodLink "java/util/Arrays" (150 : Nat) ({ cls := "java/lang/System", name := "arraycopy", desc := "(Ljava/lang/Object;ILjava/lang/Object;II)V" } : Jvm.MethodName)).before a0 Z = true := hw _ (List.mem_of_getElem? (i := 58) rfl)
theorem w_59 {Z : State} {a0 : Array Value} (hw : ∀ d ∈ tables_1, d.before a0 Z = true) : (Jvm.Cond.static ({ cls := "java/lang/System", name := "arraycopy", desc := "(Ljava/lang/Object;ILjava/lang/Object;II)V" } : Jvm.MethodName)).before a0 Z = true := hw _ (List.mem_of_getElem? (i := 59) rfl)
theorem w_60 {Z : State} {a0 : Array Value} (hw : ∀ d ∈ tables_1, d.before a0 Z = true) : (Jvm.Cond.initialized "java/lang/System").before a0 Z = true := hw _ (List.mem_of_getElem? (i := 60) rfl)
theorem w_61 {Z : State} {a0 : Array Value} (hw : ∀ d ∈ tables_1, d.before a0 Z = true) : (Jvm.Cond.native ({ cls := "java/lang/System", name := "arraycopy", desc := "(Ljava/lang/Object;ILjava/lang/Object;II)V" } : Jvm.MethodName)).before a0 Z = true := hw _ (List.mem_of_getElem? (i := 61) rfl)
theorem w_62 {Z : State} {a0 : Array Value} (hw : ∀ d ∈ tables_1, d.before a0 Z = true) : (Jvm.Cond.fieldLink "com/example/ripen/ripen/DeadlineHeap" (22 : Nat) "com/example/ripen/ripen/DeadlineHeap" "handles" "[I").before a0 Z = true := hw _ (List.mem_of_getElem? (i := 62) rfl)
theorem w_63 {Z : State} {a0 : Array Value} (hw : ∀ d ∈ tables_1, d.before a0 Z = true) : (Jvm.Cond.lays "com/example/ripen/ripen/DeadlineHeap" "com/example/ripen/ripen/DeadlineHeap" "handles" "[I").before a0 Z = true := hw _ (List.mem_of_getElem? (i := 63) rfl)
theorem w_64 {Z : State} {a0 : Array Value} (hw : ∀ d ∈ tables_1, d.before a0 Z = true) : (Jvm.Cond.classLink "com/example/ripen/ripen/DeadlineHeap" (10 : Nat) "java/lang/Object").before a0 Z = true := hw _ (List.mem_of_getElem? (i := 64) rfl)
theorem w_65 {Z : State} {a0 : Array Value} (hw : ∀ d ∈ tables_1, d.before a0 Z = true) : (Jvm.Cond.fieldLink "com/example/ripen/ripen/DeadlineHeap" (26 : Nat) "com/example/ripen/ripen/DeadlineHeap" "elements" "[Ljava/lang/Object;").before a0 Z = true := hw _ (List.mem_of_getElem? (i := 65) rfl)
theorem w_66 {Z : State} {a0 : Array Value} (hw : ∀ d ∈ tables_1, d.before a0 Z = true) : (Jvm.Cond.lays "com/example/ripen/ripen/DeadlineHeap" "com/example/ripen/ripen/DeadlineHeap" "elements" "[Ljava/lang/Object;").before a0 Z = true := hw _ (List.mem_of_getElem? (i := 66) rfl)
theorem w_67 {Z : State} {a0 : Array Value} (hw : ∀ d ∈ tables_1, d.before a0 Z = true) : (Jvm.Cond.fieldLink "com/example/ripen/ripen/DeadlineHeap" (30 : Nat) "com/example/ripen/ripen/DeadlineHeap" "tracker" "Lcom/example/ripen/ripen/DeadlineHeap$SlotTracker;").before a0 Z = true := hw _ (List.mem_of_getElem? (i := 67) rfl)
theorem w_68 {Z : State} {a0 : Array Value} (hw : ∀ d ∈ tables_1, d.before a0 Z = true) : (Jvm.Cond.laysFinal "com/example/ripen/ripen/DeadlineHeap" "com/example/ripen/ripen/DeadlineHeap" "tracker" "Lcom/example/ripen/ripen/DeadlineHeap$SlotTracker;").before a0 Z = true := hw _ (List.mem_of_getElem? (i := 68) rfl)
theorem w_69 {Z : State} {a0 : Array Value} (hw : ∀ d ∈ tables_1, d.before a0 Z = true) : (Jvm.Cond.fieldLink "com/example/ripen/ripen/DeadlineHeap" (34 : Nat) "com/example/ripen/ripen/DeadlineHeap" "sequences" "[J").before a0 Z = true := hw _ (List.mem_of_getElem? (i := 69) rfl)
theorem w_70 {Z : State} {a0 : Array Value} (hw : ∀ d ∈ tables_1, d.before a0 Z = true) : (Jvm.Cond.lays "com/example/ripen/ripen/DeadlineHeap" "com/example/ripen/ripen/DeadlineHeap" "sequences" "[J").before a0 Z = true := hw _ (List.mem_of_getElem? (i := 70) rfl)
theorem w_71 {Z : State} {a0 : Array Value} (hw : ∀ d ∈ tables_1, d.before a0 Z = true) : (Jvm.Cond.methodLink "com/example/ripen/ripen/DeadlineHeapToArrayPinLaw" (30 : Nat) ({ cls := "com/example/ripen/ripen/DeadlineHeap", name := "toArray", desc := "()[Ljava/lang/Object;" } : Jvm.MethodName)).before a0 Z = true := hw _ (List.mem_of_getElem? (i := 71) rfl)
theorem w_72 {Z : State} {a0 : Array Value} (hw : ∀ d ∈ tables_1, d.before a0 Z = true) : (Jvm.Cond.declares ({ cls := "com/example/ripen/ripen/DeadlineHeap", name := "toArray", desc := "()[Ljava/lang/Object;" } : Jvm.MethodName)).before a0 Z = true := hw _ (List.mem_of_getElem? (i := 72) rfl)
theorem w_73 {Z : State} {a0 : Array Value} (hw : ∀ d ∈ tables_1, d.before a0 Z = true) : (Jvm.Cond.instanceMethod ({ cls := "com/example/ripen/ripen/DeadlineHeap", name := "toArray", desc := "()[Ljava/lang/Object;" } : Jvm.MethodName)).before a0 Z = true := hw _ (List.mem_of_getElem? (i := 73) rfl)
theorem w_74 {Z : State} {a0 : Array Value} (hw : ∀ d ∈ tables_1, d.before a0 Z = true) : (Jvm.Cond.selects "com/example/ripen/ripen/DeadlineHeap" ({ cls := "com/example/ripen/ripen/DeadlineHeap", name := "toArray", desc := "()[Ljava/lang/Object;" } : Jvm.MethodName) ({ cls := "com/example/ripen/ripen/DeadlineHeap", name := "toArray", desc := "()[Ljava/lang/Object;" } : Jvm.MethodName)).before a0 Z = true := hw _ (List.mem_of_getElem? (i := 74) rfl)
theorem w_75 {Z : State} {a0 : Array Value} (hw : ∀ d ∈ tables_1, d.before a0 Z = true) : (Jvm.Cond.code ({ cls := "com/example/ripen/ripen/DeadlineHeap", name := "toArray", desc := "()[Ljava/lang/Object;" } : Jvm.MethodName) prog_1_method_12_code (3 : Nat) (Option.some (Jvm.ClassFile.FieldType.array (Jvm.ClassFile.FieldType.object "java/lang/Object")))).before a0 Z = true := hw _ (List.mem_of_getElem? (i := 75) rfl)
theorem w_76 {Z : State} {a0 : Array Value} (hw : ∀ d ∈ tables_1, d.before a0 Z = true) : (Jvm.Cond.fieldLink "com/example/ripen/ripen/DeadlineHeap" (37 : Nat) "com/example/ripen/ripen/DeadlineHeap" "size" "I").before a0 Z = true := hw _ (List.mem_of_getElem? (i := 76) rfl)
theorem w_77 {Z : State} {a0 : Array Value} (hw : ∀ d ∈ tables_1, d.before a0 Z = true) : (Jvm.Cond.lays "com/example/ripen/ripen/DeadlineHeap" "com/example/ripen/ripen/DeadlineHeap" "size" "I").before a0 Z = true := hw _ (List.mem_of_getElem? (i := 77) rfl)
theorem w_78 {Z : State} {a0 : Array Value} (hw : ∀ d ∈ tables_1, d.before a0 Z = true) : (Jvm.Cond.methodLink "com/example/ripen/ripen/DeadlineHeapToArrayPinLaw" (34 : Nat) ({ cls := "com/example/ripen/ripen/DeadlineHeapToArrayPinLaw", name := "slotOk", desc := "(Lcom/example/ripen/ripen/DeadlineHeap;[Ljava/lang/Object;II[Ljava/lang/Object;II)Z" } : Jvm.MethodName)).before a0 Z = true := hw _ (List.mem_of_getElem? (i := 78) rfl)
theorem w_79 {Z : State} {a0 : Array Value} (hw : ∀ d ∈ tables_1, d.before a0 Z = true) : (Jvm.Cond.static ({ cls := "com/example/ripen/ripen/DeadlineHeapToArrayPinLaw", name := "slotOk", desc := "(Lcom/example/ripen/ripen/DeadlineHeap;[Ljava/lang/Object;II[Ljava/lang/Object;II)Z" } : Jvm.MethodName)).before a0 Z = true := hw _ (List.mem_of_getElem? (i := 79) rfl)
theorem w_80 {Z : State} {a0 : Array Value} (hw : ∀ d ∈ tables_1, d.before a0 Z = true) : (Jvm.Cond.initialized "com/example/ripen/ripen/DeadlineHeapToArrayPinLaw").before a0 Z = true := hw _ (List.mem_of_getElem? (i := 80) rfl)
theorem w_81 {Z : State} {a0 : Array Value} (hw : ∀ d ∈ tables_1, d.before a0 Z = true) : (Jvm.Cond.code ({ cls := "com/example/ripen/ripen/DeadlineHeapToArrayPinLaw", name := "slotOk", desc := "(Lcom/example/ripen/ripen/DeadlineHeap;[Ljava/lang/Object;II[Ljava/lang/Object;II)Z" } : Jvm.MethodName) method_3_code (9 : Nat) (Option.some Jvm.ClassFile.FieldType.boolean)).before a0 Z = true := hw _ (List.mem_of_getElem? (i := 81) rfl)
theorem w_82 {Z : State} {a0 : Array Value} (hw : ∀ d ∈ tables_1, d.before a0 Z = true) : (Jvm.Cond.methodLink "com/example/ripen/ripen/DeadlineHeapToArrayPinLaw" (15 : Nat) ({ cls := "com/example/ripen/ripen/DeadlineHeap", name := "insert", desc := "(Ljava/lang/Object;J)Z" } : Jvm.MethodName)).before a0 Z = true := hw _ (List.mem_of_getElem? (i := 82) rfl)
theorem w_83 {Z : State} {a0 : Array Value} (hw : ∀ d ∈ tables_1, d.before a0 Z = true) : (Jvm.Cond.declares ({ cls := "com/example/ripen/ripen/DeadlineHeap", name := "insert", desc := "(Ljava/lang/Object;J)Z" } : Jvm.MethodName)).before a0 Z = true := hw _ (List.mem_of_getElem? (i := 83) rfl)
theorem w_84 {Z : State} {a0 : Array Value} (hw : ∀ d ∈ tables_1, d.before a0 Z = true) : (Jvm.Cond.instanceMethod ({ cls := "com/example/ripen/ripen/DeadlineHeap", name := "insert", desc := "(Ljava/lang/Object;J)Z" } : Jvm.MethodName)).before a0 Z = true := hw _ (List.mem_of_getElem? (i := 84) rfl)
theorem w_85 {Z : State} {a0 : Array Value} (hw : ∀ d ∈ tables_1, d.before a0 Z = true) : (Jvm.Cond.selects "com/example/ripen/ripen/DeadlineHeap" ({ cls := "com/example/ripen/ripen/DeadlineHeap", name := "insert", desc := "(Ljava/lang/Object;J)Z" } : Jvm.MethodName) ({ cls := "com/example/ripen/ripen/DeadlineHeap", name := "insert", desc := "(Ljava/lang/Object;J)Z" } : Jvm.MethodName)).before a0 Z = true := hw _ (List.mem_of_getElem? (i := 85) rfl)
theorem w_86 {Z : State} {a0 : Array Value} (hw : ∀ d ∈ tables_1, d.before a0 Z = true) : (Jvm.Cond.code ({ cls := "com/example/ripen/ripen/DeadlineHeap", name := "insert", desc := "(Ljava/lang/Object;J)Z" } : Jvm.MethodName) prog_1_method_8_code (8 : Nat) (Option.some Jvm.ClassFile.FieldType.boolean)).before a0 Z = true := hw _ (List.mem_of_getElem? (i := 86) rfl)
theorem w_87 {Z : State} {a0 : Array Value} (hw : ∀ d ∈ tables_1, d.before a0 Z = true) : (Jvm.Cond.methodLink "com/example/ripen/ripen/DeadlineHeap" (56 : Nat) ({ cls := "com/example/ripen/ripen/DeadlineHeap", name := "siftUp", desc := "(IJJ)I" } : Jvm.MethodName)).before a0 Z = true := hw _ (List.mem_of_getElem? (i := 87) rfl)
theorem w_88 {Z : State} {a0 : Array Value} (hw : ∀ d ∈ tables_1, d.before a0 Z = true) : (Jvm.Cond.instanceMethod ({ cls := "com/example/ripen/ripen/DeadlineHeap", name := "siftUp", desc := "(IJJ)I" } : Jvm.MethodName)).before a0 Z = true := hw _ (List.mem_of_getElem? (i := 88) rfl)
theorem w_89 {Z : State} {a0 : Array Value} (hw : ∀ d ∈ tables_1, d.before a0 Z = true) : (Jvm.Cond.privateMethod ({ cls := "com/example/ripen/ripen/DeadlineHeap", name := "siftUp", desc := "(IJJ)I" } : Jvm.MethodName)).before a0 Z = true := hw _ (List.mem_of_getElem? (i := 89) rfl)
theorem w_90 {Z : State} {a0 : Array Value} (hw : ∀ d ∈ tables_1, d.before a0 Z = true) : (Jvm.Cond.code ({ cls := "com/example/ripen/ripen/DeadlineHeap", name := "siftUp", desc := "(IJJ)I" } : Jvm.MethodName) prog_1_method_14_code (7 : Nat) (Option.some Jvm.ClassFile.FieldType.int)).before a0 Z = true := hw _ (List.mem_of_getElem? (i := 90) rfl)
theorem w_91 {Z : State} {a0 : Array Value} (hw : ∀ d ∈ tables_1, d.before a0 Z = true) : (Jvm.Cond.methodLink "com/example/ripen/ripen/DeadlineHeap" (60 : Nat) ({ cls := "com/example/ripen/ripen/DeadlineHeap", name := "place", desc := "(IJJI)V" } : Jvm.MethodName)).before a0 Z = true := hw _ (List.mem_of_getElem? (i := 91) rfl)
theorem w_92 {Z : State} {a0 : Array Value} (hw : ∀ d ∈ tables_1, d.before a0 Z = true) : (Jvm.Cond.instanceMethod ({ cls := "com/example/ripen/ripen/DeadlineHeap", name := "place", desc := "(IJJI)V" } : Jvm.MethodName)).before a0 Z = true := hw _ (List.mem_of_getElem? (i := 92) rfl)
theorem w_93 {Z : State} {a0 : Array Value} (hw : ∀ d ∈ tables_1, d.before a0 Z = true) : (Jvm.Cond.privateMethod ({ cls := "com/example/ripen/ripen/DeadlineHeap", name := "place", desc := "(IJJI)V" } : Jvm.MethodName)).before a0 Z = true := hw _ (List.mem_of_getElem? (i := 93) rfl)
theorem w_94 {Z : State} {a0 : Array Value} (hw : ∀ d ∈ tables_1, d.before a0 Z = true) : (Jvm.Cond.code ({ cls := "com/example/ripen/ripen/DeadlineHeap", name := "place", desc := "(IJJI)V" } : Jvm.MethodName) prog_1_method_20_code (7 : Nat) (Option.none : Option Jvm.ClassFile.FieldType)).before a0 Z = true := hw _ (List.mem_of_getElem? (i := 94) rfl)
theorem w_95 {Z : State} {a0 : Array Value} (hw : ∀ d ∈ tables_1, d.before a0 Z = true) : (Jvm.Cond.methodLink "com/example/ripen/ripen/DeadlineHeap" (134 : Nat) ({ cls := "com/example/ripen/ripen/DeadlineHeap", name := "reportPlaced", desc := "(I)V" } : Jvm.MethodName)).before a0 Z = true := hw _ (List.mem_of_getElem? (i := 95) rfl)
theorem w_96 {Z : State} {a0 : Array Value} (hw : ∀ d ∈ tables_1, d.before a0 Z = true) : (Jvm.Cond.instanceMethod ({ cls := "com/example/ripen/ripen/DeadlineHeap", name := "reportPlaced", desc := "(I)V" } : Jvm.MethodName)).before a0 Z = true := hw _ (List.mem_of_getElem? (i := 96) rfl)
theorem w_97 {Z : State} {a0 : Array Value} (hw : ∀ d ∈ tables_1, d.before a0 Z = true) : (Jvm.Cond.privateMethod ({ cls := "com/example/ripen/ripen/DeadlineHeap", name := "reportPlaced", desc := "(I)V" } : Jvm.MethodName)).before a0 Z = true := hw _ (List.mem_of_getElem? (i := 97) rfl)
theorem w_98 {Z : State} {a0 : Array Value} (hw : ∀ d ∈ tables_1, d.before a0 Z = true) : (Jvm.Cond.code ({ cls := "com/example/ripen/ripen/DeadlineHeap", name := "reportPlaced", desc := "(I)V" } : Jvm.MethodName) prog_1_method_22_code (2 : Nat) (Option.none : Option Jvm.ClassFile.FieldType)).before a0 Z = true := hw _ (List.mem_of_getElem? (i := 98) rfl)
theorem w_99 {Z : State} {a0 : Array Value} (hw : ∀ d ∈ tables_1, d.before a0 Z = true) : (Jvm.Cond.methodLink "com/example/ripen/ripen/DeadlineHeap" (64 : Nat) ({ cls := "com/example/ripen/ripen/DeadlineHeap", name := "sequenceAt", desc := "(I)J" } : Jvm.MethodName)).before a0 Z = true := hw _ (List.mem_of_getElem? (i := 99) rfl)
theorem w_100 {Z : State} {a0 : Array Value} (hw : ∀ d ∈ tables_1, d.before a0 Z = true) : (Jvm.Cond.instanceMethod ({ cls := "com/example/ripen/ripen/DeadlineHeap", name := "sequenceAt", desc := "(I)J" } : Jvm.MethodName)).before a0 Z = true := hw _ (List.mem_of_getElem? (i := 100) rfl)
theorem w_101 {Z : State} {a0 : Array Value} (hw : ∀ d ∈ tables_1, d.before a0 Z = true) : (Jvm.Cond.privateMethod ({ cls := "com/example/ripen/ripen/DeadlineHeap", name := "sequenceAt", desc := "(I)J" } : Jvm.MethodName)).before a0 Z = true := hw _ (List.mem_of_getElem? (i := 101) rfl)
theorem w_102 {Z : State} {a0 : Array Value} (hw : ∀ d ∈ tables_1, d.before a0 Z = true) : (Jvm.Cond.code ({ cls := "com/example/ripen/ripen/DeadlineHeap", name := "sequenceAt", desc := "(I)J" } : Jvm.MethodName) prog_1_method_19_code (2 : Nat) (Option.some Jvm.ClassFile.FieldType.long)).before a0 Z = true := hw _ (List.mem_of_getElem? (i := 102) rfl)
theorem w_103 {Z : State} {a0 : Array Value} (hw : ∀ d ∈ tables_1, d.before a0 Z = true) : (Jvm.Cond.methodLink "com/example/ripen/ripen/DeadlineHeap" (127 : Nat) ({ cls := "com/example/ripen/ripen/DeadlineHeap", name := "before", desc := "(JJJJ)Z" } : Jvm.MethodName)).before a0 Z = true := hw _ (List.mem_of_getElem? (i := 103) rfl)
theorem w_104 {Z : State} {a0 : Array Value} (hw : ∀ d ∈ tables_1, d.before a0 Z = true) : (Jvm.Cond.static ({ cls := "com/example/ripen/ripen/DeadlineHeap", name := "before", desc := "(JJJJ)Z" } : Jvm.MethodName)).before a0 Z = true := hw _ (List.mem_of_getElem? (i := 104) rfl)
theorem w_105 {Z : State} {a0 : Array Value} (hw : ∀ d ∈ tables_1, d.before a0 Z = true) : (Jvm.Cond.code ({ cls := "com/example/ripen/ripen/DeadlineHeap", name := "before", desc := "(JJJJ)Z" } : Jvm.MethodName) prog_1_method_16_code (8 : Nat) (Option.some Jvm.ClassFile.FieldType.boolean)).before a0 Z = true := hw _ (List.mem_of_getElem? (i := 105) rfl)
theorem w_106 {Z : State} {a0 : Array Value} (hw : ∀ d ∈ tables_1, d.before a0 Z = true) : (Jvm.Cond.methodLink "com/example/ripen/ripen/DeadlineHeap" (100 : Nat) ({ cls := "com/example/ripen/ripen/DeadlineHeap", name := "moveTo", desc := "(II)V" } : Jvm.MethodName)).before a0 Z = true := hw _ (List.mem_of_getElem? (i := 106) rfl)
theorem w_107 {Z : State} {a0 : Array Value} (hw : ∀ d ∈ tables_1, d.before a0 Z = true) : (Jvm.Cond.instanceMethod ({ cls := "com/example/ripen/ripen/DeadlineHeap", name := "moveTo", desc := "(II)V" } : Jvm.MethodName)).before a0 Z = true := hw _ (List.mem_of_getElem? (i := 107) rfl)
theorem w_108 {Z : State} {a0 : Array Value} (hw : ∀ d ∈ tables_1, d.before a0 Z = true) : (Jvm.Cond.privateMethod ({ cls := "com/example/ripen/ripen/DeadlineHeap", name := "moveTo", desc := "(II)V" } : Jvm.MethodName)).before a0 Z = true := hw _ (List.mem_of_getElem? (i := 108) rfl)
theorem w_109 {Z : State} {a0 : Array Value} (hw : ∀ d ∈ tables_1, d.before a0 Z = true) : (Jvm.Cond.code ({ cls := "com/example/ripen/ripen/DeadlineHeap", name := "moveTo", desc := "(II)V" } : Jvm.MethodName) prog_1_method_21_code (3 : Nat) (Option.none : Option Jvm.ClassFile.FieldType)).before a0 Z = true := hw _ (List.mem_of_getElem? (i := 109) rfl)
theorem w_110 {Z : State} {a0 : Array Value} (hw : ∀ d ∈ tables_1, d.before a0 Z = true) : (Jvm.Cond.constant "com/example/ripen/ripen/DeadlineHeapToArrayPinLaw" (19 : Nat) (2147483647 : Int32)).before a0 Z = true := hw _ (List.mem_of_getElem? (i := 110) rfl)
theorem w_111 {Z : State} {a0 : Array Value} (hw : ∀ d ∈ tables_1, d.before a0 Z = true) : (Jvm.Cond.methodLink "com/example/ripen/ripen/DeadlineHeapToArrayPinLaw" (20 : Nat) ({ cls := "com/example/ripen/ripen/DeadlineHeap", name := "removeAt", desc := "(I)Ljava/lang/Object;" } : Jvm.MethodName)).before a0 Z = true := hw _ (List.mem_of_getElem? (i := 111) rfl)
theorem w_112 {Z : State} {a0 : Array Value} (hw : ∀ d ∈ tables_1, d.before a0 Z = true) : (Jvm.Cond.declares ({ cls := "com/example/ripen/ripen/DeadlineHeap", name := "removeAt", desc := "(I)Ljava/lang/Object;" } : Jvm.MethodName)).before a0 Z = true := hw _ (List.mem_of_getElem? (i := 112) rfl)
theorem w_113 {Z : State} {a0 : Array Value} (hw : ∀ d ∈ tables_1, d.before a0 Z = true) : (Jvm.Cond.instanceMethod ({ cls := "com/example/ripen/ripen/DeadlineHeap", name := "removeAt", desc := "(I)Ljava/lang/Object;" } : Jvm.MethodName)).before a0 Z = true := hw _ (List.mem_of_getElem? (i := 113) rfl)
theorem w_114 {Z : State} {a0 : Array Value} (hw : ∀ d ∈ tables_1, d.before a0 Z = true) : (Jvm.Cond.selects "com/example/ripen/ripen/DeadlineHeap" ({ cls := "com/example/ripen/ripen/DeadlineHeap", name := "removeAt", desc := "(I)Ljava/lang/Object;" } : Jvm.MethodName) ({ cls := "com/example/ripen/ripen/DeadlineHeap", name := "removeAt", desc := "(I)Ljava/lang/Object;" } : Jvm.MethodName)).before a0 Z = true := hw _ (List.mem_of_getElem? (i := 114) rfl)
theorem w_115 {Z : State} {a0 : Array Value} (hw : ∀ d ∈ tables_1, d.before a0 Z = true) : (Jvm.Cond.code ({ cls := "com/example/ripen/ripen/DeadlineHeap", name := "removeAt", desc := "(I)Ljava/lang/Object;" } : Jvm.MethodName) prog_1_method_9_code (11 : Nat) (Option.some (Jvm.ClassFile.FieldType.object "java/lang/Object"))).before a0 Z = true := hw _ (List.mem_of_getElem? (i := 115) rfl)
theorem w_116 {Z : State} {a0 : Array Value} (hw : ∀ d ∈ tables_1, d.before a0 Z = true) : (Jvm.Cond.methodLink "com/example/ripen/ripen/DeadlineHeap" (41 : Nat) ({ cls := "com/example/ripen/ripen/DeadlineHeap", name := "elementAt", desc := "(I)Ljava/lang/Object;" } : Jvm.MethodName)).before a0 Z = true := hw _ (List.mem_of_getElem? (i := 116) rfl)
theorem w_117 {Z : State} {a0 : Array Value} (hw : ∀ d ∈ tables_1, d.before a0 Z = true) : (Jvm.Cond.declares ({ cls := "com/example/ripen/ripen/DeadlineHeap", name := "elementAt", desc := "(I)Ljava/lang/Object;" } : Jvm.MethodName)).before a0 Z = true := hw _ (List.mem_of_getElem? (i := 117) rfl)
theorem w_118 {Z : State} {a0 : Array Value} (hw : ∀ d ∈ tables_1, d.before a0 Z = true) : (Jvm.Cond.instanceMethod ({ cls := "com/example/ripen/ripen/DeadlineHeap", name := "elementAt", desc := "(I)Ljava/lang/Object;" } : Jvm.MethodName)).before a0 Z = true := hw _ (List.mem_of_getElem? (i := 118) rfl)
theorem w_119 {Z : State} {a0 : Array Value} (hw : ∀ d ∈ tables_1, d.before a0 Z = true) : (Jvm.Cond.selects "com/example/ripen/ripen/DeadlineHeap" ({ cls := "com/example/ripen/ripen/DeadlineHeap", name := "elementAt", desc := "(I)Ljava/lang/Object;" } : Jvm.MethodName) ({ cls := "com/example/ripen/ripen/DeadlineHeap", name := "elementAt", desc := "(I)Ljava/lang/Object;" } : Jvm.MethodName)).before a0 Z = true := hw _ (List.mem_of_getElem? (i := 119) rfl)
theorem w_120 {Z : State} {a0 : Array Value} (hw : ∀ d ∈ tables_1, d.before a0 Z = true) : (Jvm.Cond.code ({ cls := "com/example/ripen/ripen/DeadlineHeap", name := "elementAt", desc := "(I)Ljava/lang/Object;" } : Jvm.MethodName) prog_1_method_6_code (2 : Nat) (Option.some (Jvm.ClassFile.FieldType.object "java/lang/Object"))).before a0 Z = true := hw _ (List.mem_of_getElem? (i := 120) rfl)
theorem w_121 {Z : State} {a0 : Array Value} (hw : ∀ d ∈ tables_1, d.before a0 Z = true) : (Jvm.Cond.methodLink "com/example/ripen/ripen/DeadlineHeap" (71 : Nat) ({ cls := "com/example/ripen/ripen/DeadlineHeap", name := "reportLeft", desc := "(Ljava/lang/Object;)V" } : Jvm.MethodName)).before a0 Z = true := hw _ (List.mem_of_getElem? (i := 121) rfl)
theorem w_122 {Z : State} {a0 : Array Value} (hw : ∀ d ∈ tables_1, d.before a0 Z = true) : (Jvm.Cond.instanceMethod ({ cls := "com/example/ripen/ripen/DeadlineHeap", name := "reportLeft", desc := "(Ljava/lang/Object;)V" } : Jvm.MethodName)).before a0 Z = true := hw _ (List.mem_of_getElem? (i := 122) rfl)
theorem w_123 {Z : State} {a0 : Array Value} (hw : ∀ d ∈ tables_1, d.before a0 Z = true) : (Jvm.Cond.privateMethod ({ cls := "com/example/ripen/ripen/DeadlineHeap", name := "reportLeft", desc := "(Ljava/lang/Object;)V" } : Jvm.MethodName)).before a0 Z = true := hw _ (List.mem_of_getElem? (i := 123) rfl)
theorem w_124 {Z : State} {a0 : Array Value} (hw : ∀ d ∈ tables_1, d.before a0 Z = true) : (Jvm.Cond.code ({ cls := "com/example/ripen/ripen/DeadlineHeap", name := "reportLeft", desc := "(Ljava/lang/Object;)V" } : Jvm.MethodName) prog_1_method_23_code (2 : Nat) (Option.none : Option Jvm.ClassFile.FieldType)).before a0 Z = true := hw _ (List.mem_of_getElem? (i := 124) rfl)
theorem w_125 {Z : State} {a0 : Array Value} (hw : ∀ d ∈ tables_1, d.before a0 Z = true) : (Jvm.Cond.methodLink "com/example/ripen/ripen/DeadlineHeapToArrayPinLaw" (24 : Nat) ({ cls := "com/example/ripen/ripen/DeadlineHeapToArrayPinLaw", name := "find", desc := "(Ljava/lang/Object;[Ljava/lang/Object;I)I" } : Jvm.MethodName)).before a0 Z = true := hw _ (List.mem_of_getElem? (i := 125) rfl)
theorem w_126 {Z : State} {a0 : Array Value} (hw : ∀ d ∈ tables_1, d.before a0 Z = true) : (Jvm.Cond.static ({ cls := "com/example/ripen/ripen/DeadlineHeapToArrayPinLaw", name := "find", desc := "(Ljava/lang/Object;[Ljava/lang/Object;I)I" } : Jvm.MethodName)).before a0 Z = true := hw _ (List.mem_of_getElem? (i := 126) rfl)
theorem w_127 {Z : State} {a0 : Array Value} (hw : ∀ d ∈ tables_1, d.before a0 Z = true) : (Jvm.Cond.code ({ cls := "com/example/ripen/ripen/DeadlineHeapToArrayPinLaw", name := "find", desc := "(Ljava/lang/Object;[Ljava/lang/Object;I)I" } : Jvm.MethodName) method_5_code (3 : Nat) (Option.some Jvm.ClassFile.FieldType.int)).before a0 Z = true := hw _ (List.mem_of_getElem? (i := 127) rfl)
theorem w_128 {Z : State} {a0 : Array Value} (hw : ∀ d ∈ tables_1, d.before a0 Z = true) : (Jvm.Cond.methodLink "com/example/ripen/ripen/DeadlineHeapToArrayPinLaw" (42 : Nat) ({ cls := "com/example/ripen/ripen/DeadlineHeap", name := "elementAt", desc := "(I)Ljava/lang/Object;" } : Jvm.MethodName)).before a0 Z = true := hw _ (List.mem_of_getElem? (i := 128) rfl)
theorem w_129 {Z : State} {a0 : Array Value} (hw : ∀ d ∈ tables_1, d.before a0 Z = true) : (Jvm.Cond.methodLink "com/example/ripen/ripen/DeadlineHeapToArrayPinLaw" (38 : Nat) ({ cls := "com/example/ripen/ripen/DeadlineHeapToArrayPinLaw", name := "minOk", desc := "([JIIII)Z" } : Jvm.MethodName)).before a0 Z = true := hw _ (List.mem_of_getElem? (i := 129) rfl)
theorem w_130 {Z : State} {a0 : Array Value} (hw : ∀ d ∈ tables_1, d.before a0 Z = true) : (Jvm.Cond.static ({ cls := "com/example/ripen/ripen/DeadlineHeapToArrayPinLaw", name := "minOk", desc := "([JIIII)Z" } : Jvm.MethodName)).before a0 Z = true := hw _ (List.mem_of_getElem? (i := 130) rfl)
theorem w_131 {Z : State} {a0 : Array Value} (hw : ∀ d ∈ tables_1, d.before a0 Z = true) : (Jvm.Cond.code ({ cls := "com/example/ripen/ripen/DeadlineHeapToArrayPinLaw", name := "minOk", desc := "([JIIII)Z" } : Jvm.MethodName) method_4_code (5 : Nat) (Option.some Jvm.ClassFile.FieldType.boolean)).before a0 Z = true := hw _ (List.mem_of_getElem? (i := 131) rfl)
theorem w_132 {Z : State} {a0 : Array Value} (hw : ∀ d ∈ tables_1, d.before a0 Z = true) : (Jvm.Cond.methodLink "com/example/ripen/ripen/DeadlineHeap" (68 : Nat) ({ cls := "com/example/ripen/ripen/DeadlineHeap", name := "siftDown", desc := "(IJJ)I" } : Jvm.MethodName)).before a0 Z = true := hw _ (List.mem_of_getElem? (i := 132) rfl)
theorem w_133 {Z : State} {a0 : Array Value} (hw : ∀ d ∈ tables_1, d.before a0 Z = true) : (Jvm.Cond.instanceMethod ({ cls := "com/example/ripen/ripen/DeadlineHeap", name := "siftDown", desc := "(IJJ)I" } : Jvm.MethodName)).before a0 Z = true := hw _ (List.mem_of_getElem? (i := 133) rfl)
theorem w_134 {Z : State} {a0 : Array Value} (hw : ∀ d ∈ tables_1, d.before a0 Z = true) : (Jvm.Cond.privateMethod ({ cls := "com/example/ripen/ripen/DeadlineHeap", name := "siftDown", desc := "(IJJ)I" } : Jvm.MethodName)).before a0 Z = true := hw _ (List.mem_of_getElem? (i := 134) rfl)
theorem w_135 {Z : State} {a0 : Array Value} (hw : ∀ d ∈ tables_1, d.before a0 Z = true) : (Jvm.Cond.code ({ cls := "com/example/ripen/ripen/DeadlineHeap", name := "siftDown", desc := "(IJJ)I" } : Jvm.MethodName) prog_1_method_15_code (9 : Nat) (Option.some Jvm.ClassFile.FieldType.int)).before a0 Z = true := hw _ (List.mem_of_getElem? (i := 135) rfl)
theorem w_137 {Z : State} {a0 : Array Value} (hw : ∀ d ∈ tables_1, d.before a0 Z = true) : (Jvm.Cond.lays "com/example/ripen/ripen/DeadlineHeap" "com/example/ripen/ripen/DeadlineHeap" "nextSequence" "J").before a0 Z = true := hw _ (List.mem_of_getElem? (i := 137) rfl)
theorem pd_0 : parseMethodDescriptor "([CI[BII)I" = some ⟨[(.array .char), .int, (.array .byte), .int, .int], some .int⟩ := by decide +kernel
theorem pd_1 : parseMethodDescriptor "([CII)[B" = some ⟨[(.array .char), .int, .int], some (.array .byte)⟩ := by decide +kernel
theorem pd_2 : parseMethodDescriptor "([BI)B" = some ⟨[(.array .byte), .int], some .byte⟩ := by decide +kernel
theorem pd_3 : parseMethodDescriptor "([CIILjava/lang/Void;)V" = some ⟨[(.array .char), .int, .int, (.object "java/lang/Void")], none⟩ := by decide +kernel
theorem pd_4 : parseMethodDescriptor "(I)V" = some ⟨[.int], none⟩ := by decide +kernel
theorem pd_5 : parseMethodDescriptor "(I)J" = some ⟨[.int], some .long⟩ := by decide +kernel
theorem pd_6 : parseMethodDescriptor "(IJJI)V" = some ⟨[.int, .long, .long, .int], none⟩ := by decide +kernel
theorem pd_7 : parseMethodDescriptor "(JJJJ)Z" = some ⟨[.long, .long, .long, .long], some .boolean⟩ := by decide +kernel
theorem pd_8 : parseMethodDescriptor "(II)V" = some ⟨[.int, .int], none⟩ := by decide +kernel
theorem pd_9 : parseMethodDescriptor "(IJJ)I" = some ⟨[.int, .long, .long], some .int⟩ := by decide +kernel
theorem pd_10 : parseMethodDescriptor "(I)Ljava/lang/Object;" = some ⟨[.int], some (.object "java/lang/Object")⟩ := by decide +kernel
theorem pd_11 : parseMethodDescriptor "(Ljava/lang/Object;)V" = some ⟨[(.object "java/lang/Object")], none⟩ := by decide +kernel
theorem pd_12 : parseMethodDescriptor "(II)I" = some ⟨[.int, .int], some .int⟩ := by decide +kernel
theorem pd_13 : parseMethodDescriptor "([II)[I" = some ⟨[(.array .int), .int], some (.array .int)⟩ := by decide +kernel
theorem pd_14 : parseMethodDescriptor "(ZLcom/example/ripen/ripen/DeadlineHeap$SlotTracker;)V" = some ⟨[.boolean, (.object "com/example/ripen/ripen/DeadlineHeap$SlotTracker")], none⟩ := by decide +kernel
theorem pd_15 : parseMethodDescriptor "(Ljava/lang/Object;[Ljava/lang/Object;I)I" = some ⟨[(.object "java/lang/Object"), (.array (.object "java/lang/Object")), .int], some .int⟩ := by decide +kernel
theorem pd_16 : parseMethodDescriptor "([C)V" = some ⟨[(.array .char)], none⟩ := by decide +kernel
theorem pd_17 : parseMethodDescriptor "()V" = some ⟨[], none⟩ := by decide +kernel
theorem pd_18 : parseMethodDescriptor "()[Ljava/lang/Object;" = some ⟨[], some (.array (.object "java/lang/Object"))⟩ := by decide +kernel
theorem pd_19 : parseMethodDescriptor "(Lcom/example/ripen/ripen/DeadlineHeap;[Ljava/lang/Object;II[Ljava/lang/Object;II)Z" = some ⟨[(.object "com/example/ripen/ripen/DeadlineHeap"), (.array (.object "java/lang/Object")), .int, .int, (.array (.object "java/lang/Object")), .int, .int], some .boolean⟩ := by decide +kernel
theorem pd_20 : parseMethodDescriptor "([JIIII)Z" = some ⟨[(.array .long), .int, .int, .int, .int], some .boolean⟩ := by decide +kernel
theorem pd_21 : parseMethodDescriptor "(Ljava/lang/Object;J)Z" = some ⟨[(.object "java/lang/Object"), .long], some .boolean⟩ := by decide +kernel
theorem pn_0 : plainName "java/lang/StringUTF16" = true := by first | (simp [plainName, overriddenIn]; done) | decide +kernel
theorem pn_1 : plainName "java/lang/String" = true := by first | (simp [plainName, overriddenIn]; done) | decide +kernel
theorem pn_2 : plainName "com/example/ripen/ripen/DeadlineHeap" = true := by first | (simp [plainName, overriddenIn]; done) | decide +kernel
theorem pn_3 : plainName "java/util/Arrays" = true := by first | (simp [plainName, overriddenIn]; done) | decide +kernel
theorem pn_4 : plainName "com/example/ripen/ripen/DeadlineHeapToArrayPinLaw" = true := by first | (simp [plainName, overriddenIn]; done) | decide +kernel
theorem d1_0 : decode jdk_42_method_3_code 0 = .ok (.aload_n 0, 1) := by decide +kernel
theorem d1_1 : decode jdk_42_method_3_code 1 = .ok (.aload_n 1, 1) := by decide +kernel
theorem d1_2 : decode jdk_42_method_3_code 2 = .ok (.iconst 0, 1) := by decide +kernel
theorem d1_3 : decode jdk_42_method_3_code 3 = .ok (.aload_n 1, 1) := by decide +kernel
theorem d1_4 : decode jdk_42_method_3_code 4 = .ok (.arraylength, 1) := by decide +kernel
theorem d1_5 : decode jdk_42_method_3_code 5 = .ok (.aconst_null, 1) := by decide +kernel
theorem d1_6 : decode jdk_42_method_3_code 6 = .ok (.invokespecial 27, 3) := by decide +kernel
theorem d1_9 : decode jdk_42_method_3_code 9 = .ok (.return_, 1) := by decide +kernel
theorem d2_0 : decode jdk_42_method_149_code 0 = .ok (.aload_n 0, 1) := by decide +kernel
theorem d2_1 : decode jdk_42_method_149_code 1 = .ok (.invokespecial 1, 3) := by decide +kernel
theorem d2_4 : decode jdk_42_method_149_code 4 = .ok (.iload_n 3, 1) := by decide +kernel
theorem d2_5 : decode jdk_42_method_149_code 5 = .ok (.ifCond .ne 22, 3) := by decide +kernel
theorem d2_27 : decode jdk_42_method_149_code 27 = .ok (.getstatic 38, 3) := by decide +kernel
theorem d2_30 : decode jdk_42_method_149_code 30 = .ok (.ifCond .eq 28, 3) := by decide +kernel
theorem d2_33 : decode jdk_42_method_149_code 33 = .ok (.aload_n 1, 1) := by decide +kernel
theorem d2_34 : decode jdk_42_method_149_code 34 = .ok (.iload_n 2, 1) := by decide +kernel
theorem d2_35 : decode jdk_42_method_149_code 35 = .ok (.iload_n 3, 1) := by decide +kernel
theorem d2_36 : decode jdk_42_method_149_code 36 = .ok (.invokestatic 177, 3) := by decide +kernel
theorem d2_39 : decode jdk_42_method_149_code 39 = .ok (.astore 5, 2) := by decide +kernel
theorem d2_41 : decode jdk_42_method_149_code 41 = .ok (.aload_n 0, 1) := by decide +kernel
theorem d2_42 : decode jdk_42_method_149_code 42 = .ok (.aload 5, 2) := by decide +kernel
theorem d2_44 : decode jdk_42_method_149_code 44 = .ok (.iload_n 3, 1) := by decide +kernel
theorem d2_45 : decode jdk_42_method_149_code 45 = .ok (.invokestatic 47, 3) := by decide +kernel
theorem d2_48 : decode jdk_42_method_149_code 48 = .ok (.putfield 15, 3) := by decide +kernel
theorem d2_51 : decode jdk_42_method_149_code 51 = .ok (.aload_n 0, 1) := by decide +kernel
theorem d2_52 : decode jdk_42_method_149_code 52 = .ok (.aload 5, 2) := by decide +kernel
theorem d2_54 : decode jdk_42_method_149_code 54 = .ok (.putfield 9, 3) := by decide +kernel
theorem d2_57 : decode jdk_42_method_149_code 57 = .ok (.return_, 1) := by decide +kernel
theorem d4_0 : decode jdk_52_method_16_code 0 = .ok (.iload_n 2, 1) := by decide +kernel
theorem d4_1 : decode jdk_52_method_16_code 1 = .ok (.newarray .byte, 2) := by decide +kernel
theorem d4_3 : decode jdk_52_method_16_code 3 = .ok (.astore_n 3, 1) := by decide +kernel
theorem d4_4 : decode jdk_52_method_16_code 4 = .ok (.aload_n 0, 1) := by decide +kernel
theorem d4_5 : decode jdk_52_method_16_code 5 = .ok (.iload_n 1, 1) := by decide +kernel
theorem d4_6 : decode jdk_52_method_16_code 6 = .ok (.aload_n 3, 1) := by decide +kernel
theorem d4_7 : decode jdk_52_method_16_code 7 = .ok (.iconst 0, 1) := by decide +kernel
theorem d4_8 : decode jdk_52_method_16_code 8 = .ok (.iload_n 2, 1) := by decide +kernel
theorem d4_9 : decode jdk_52_method_16_code 9 = .ok (.invokestatic 115, 3) := by decide +kernel
theorem d4_12 : decode jdk_52_method_16_code 12 = .ok (.istore 4, 2) := by decide +kernel
theorem d4_14 : decode jdk_52_method_16_code 14 = .ok (.iload 4, 2) := by decide +kernel
theorem d4_16 : decode jdk_52_method_16_code 16 = .ok (.iload_n 2, 1) := by decide +kernel
theorem d4_17 : decode jdk_52_method_16_code 17 = .ok (.if_icmp .eq 40, 3) := by decide +kernel
theorem d4_57 : decode jdk_52_method_16_code 57 = .ok (.aload_n 3, 1) := by decide +kernel
theorem d4_58 : decode jdk_52_method_16_code 58 = .ok (.areturn, 1) := by decide +kernel
theorem d5_0 : decode jdk_52_method_21_code 0 = .ok (.iconst 0, 1) := by decide +kernel
theorem d5_1 : decode jdk_52_method_21_code 1 = .ok (.istore 5, 2) := by decide +kernel
theorem d5_3 : decode jdk_52_method_21_code 3 = .ok (.iload 5, 2) := by decide +kernel
theorem d5_5 : decode jdk_52_method_21_code 5 = .ok (.iload 4, 2) := by decide +kernel
theorem d5_7 : decode jdk_52_method_21_code 7 = .ok (.if_icmp .ge 37, 3) := by decide +kernel
theorem d5_10 : decode jdk_52_method_21_code 10 = .ok (.aload_n 0, 1) := by decide +kernel
theorem d5_11 : decode jdk_52_method_21_code 11 = .ok (.iload_n 1, 1) := by decide +kernel
theorem d5_12 : decode jdk_52_method_21_code 12 = .ok (.caload, 1) := by decide +kernel
theorem d5_13 : decode jdk_52_method_21_code 13 = .ok (.istore 6, 2) := by decide +kernel
theorem d5_15 : decode jdk_52_method_21_code 15 = .ok (.iload 6, 2) := by decide +kernel
theorem d5_17 : decode jdk_52_method_21_code 17 = .ok (.sipush 255, 3) := by decide +kernel
theorem d5_20 : decode jdk_52_method_21_code 20 = .ok (.if_icmp .le 6, 3) := by decide +kernel
theorem d5_26 : decode jdk_52_method_21_code 26 = .ok (.aload_n 2, 1) := by decide +kernel
theorem d5_27 : decode jdk_52_method_21_code 27 = .ok (.iload_n 3, 1) := by decide +kernel
theorem d5_28 : decode jdk_52_method_21_code 28 = .ok (.iload 6, 2) := by decide +kernel
theorem d5_30 : decode jdk_52_method_21_code 30 = .ok (.i2b, 1) := by decide +kernel
theorem d5_31 : decode jdk_52_method_21_code 31 = .ok (.bastore, 1) := by decide +kernel
theorem d5_32 : decode jdk_52_method_21_code 32 = .ok (.iinc 1 1, 3) := by decide +kernel
theorem d5_35 : decode jdk_52_method_21_code 35 = .ok (.iinc 3 1, 3) := by decide +kernel
theorem d5_38 : decode jdk_52_method_21_code 38 = .ok (.iinc 5 1, 3) := by decide +kernel
theorem d5_41 : decode jdk_52_method_21_code 41 = .ok (.goto (-38), 3) := by decide +kernel
theorem d5_44 : decode jdk_52_method_21_code 44 = .ok (.iload 4, 2) := by decide +kernel
theorem d5_46 : decode jdk_52_method_21_code 46 = .ok (.ireturn, 1) := by decide +kernel
theorem d6_0 : decode jdk_52_method_15_code 0 = .ok (.iload_n 1, 1) := by decide +kernel
theorem d6_1 : decode jdk_52_method_15_code 1 = .ok (.aload_n 0, 1) := by decide +kernel
theorem d6_2 : decode jdk_52_method_15_code 2 = .ok (.arraylength, 1) := by decide +kernel
theorem d6_3 : decode jdk_52_method_15_code 3 = .ok (.isub, 1) := by decide +kernel
theorem d6_4 : decode jdk_52_method_15_code 4 = .ok (.bipush 31, 2) := by decide +kernel
theorem d6_6 : decode jdk_52_method_15_code 6 = .ok (.iushr, 1) := by decide +kernel
theorem d6_7 : decode jdk_52_method_15_code 7 = .ok (.i2b, 1) := by decide +kernel
theorem d6_8 : decode jdk_52_method_15_code 8 = .ok (.ireturn, 1) := by decide +kernel
theorem d7_0 : decode prog_1_method_1_code 0 = .ok (.aload_n 0, 1) := by decide +kernel
theorem d7_1 : decode prog_1_method_1_code 1 = .ok (.iconst 0, 1) := by decide +kernel
theorem d7_2 : decode prog_1_method_1_code 2 = .ok (.aconst_null, 1) := by decide +kernel
theorem d7_3 : decode prog_1_method_1_code 3 = .ok (.invokespecial 3, 3) := by decide +kernel
theorem d7_6 : decode prog_1_method_1_code 6 = .ok (.return_, 1) := by decide +kernel
theorem d8_0 : decode prog_1_method_2_code 0 = .ok (.aload_n 0, 1) := by decide +kernel
theorem d8_1 : decode prog_1_method_2_code 1 = .ok (.invokespecial 9, 3) := by decide +kernel
theorem d8_4 : decode prog_1_method_2_code 4 = .ok (.aload_n 0, 1) := by decide +kernel
theorem d8_5 : decode prog_1_method_2_code 5 = .ok (.bipush 16, 2) := by decide +kernel
theorem d8_7 : decode prog_1_method_2_code 7 = .ok (.newarray .long, 2) := by decide +kernel
theorem d8_9 : decode prog_1_method_2_code 9 = .ok (.putfield 14, 3) := by decide +kernel
theorem d8_12 : decode prog_1_method_2_code 12 = .ok (.aload_n 0, 1) := by decide +kernel
theorem d8_13 : decode prog_1_method_2_code 13 = .ok (.iconst 0, 1) := by decide +kernel
theorem d8_14 : decode prog_1_method_2_code 14 = .ok (.newarray .int, 2) := by decide +kernel
theorem d8_16 : decode prog_1_method_2_code 16 = .ok (.bipush 16, 2) := by decide +kernel
theorem d8_18 : decode prog_1_method_2_code 18 = .ok (.invokestatic 18, 3) := by decide +kernel
theorem d8_21 : decode prog_1_method_2_code 21 = .ok (.putfield 22, 3) := by decide +kernel
theorem d8_24 : decode prog_1_method_2_code 24 = .ok (.aload_n 0, 1) := by decide +kernel
theorem d8_25 : decode prog_1_method_2_code 25 = .ok (.bipush 16, 2) := by decide +kernel
theorem d8_27 : decode prog_1_method_2_code 27 = .ok (.anewarray 10, 3) := by decide +kernel
theorem d8_30 : decode prog_1_method_2_code 30 = .ok (.putfield 26, 3) := by decide +kernel
theorem d8_33 : decode prog_1_method_2_code 33 = .ok (.aload_n 0, 1) := by decide +kernel
theorem d8_34 : decode prog_1_method_2_code 34 = .ok (.aload_n 2, 1) := by decide +kernel
theorem d8_35 : decode prog_1_method_2_code 35 = .ok (.putfield 30, 3) := by decide +kernel
theorem d8_38 : decode prog_1_method_2_code 38 = .ok (.aload_n 0, 1) := by decide +kernel
theorem d8_39 : decode prog_1_method_2_code 39 = .ok (.iload_n 1, 1) := by decide +kernel
theorem d8_40 : decode prog_1_method_2_code 40 = .ok (.ifCond .eq 10, 3) := by decide +kernel
theorem d8_50 : decode prog_1_method_2_code 50 = .ok (.aconst_null, 1) := by decide +kernel
theorem d8_51 : decode prog_1_method_2_code 51 = .ok (.putfield 34, 3) := by decide +kernel
theorem d8_54 : decode prog_1_method_2_code 54 = .ok (.return_, 1) := by decide +kernel
theorem d9_0 : decode prog_1_method_25_code 0 = .ok (.aload_n 0, 1) := by decide +kernel
theorem d9_1 : decode prog_1_method_25_code 1 = .ok (.iload_n 1, 1) := by decide +kernel
theorem d9_2 : decode prog_1_method_25_code 2 = .ok (.invokestatic 158, 3) := by decide +kernel
theorem d9_5 : decode prog_1_method_25_code 5 = .ok (.astore_n 2, 1) := by decide +kernel
theorem d9_6 : decode prog_1_method_25_code 6 = .ok (.aload_n 0, 1) := by decide +kernel
theorem d9_7 : decode prog_1_method_25_code 7 = .ok (.arraylength, 1) := by decide +kernel
theorem d9_8 : decode prog_1_method_25_code 8 = .ok (.istore_n 3, 1) := by decide +kernel
theorem d9_9 : decode prog_1_method_25_code 9 = .ok (.iload_n 3, 1) := by decide +kernel
theorem d9_10 : decode prog_1_method_25_code 10 = .ok (.iload_n 1, 1) := by decide +kernel
theorem d9_11 : decode prog_1_method_25_code 11 = .ok (.if_icmp .ge 13, 3) := by decide +kernel
theorem d9_14 : decode prog_1_method_25_code 14 = .ok (.aload_n 2, 1) := by decide +kernel
theorem d9_15 : decode prog_1_method_25_code 15 = .ok (.iload_n 3, 1) := by decide +kernel
theorem d9_16 : decode prog_1_method_25_code 16 = .ok (.iload_n 3, 1) := by decide +kernel
theorem d9_17 : decode prog_1_method_25_code 17 = .ok (.iastore, 1) := by decide +kernel
theorem d9_18 : decode prog_1_method_25_code 18 = .ok (.iinc 3 1, 3) := by decide +kernel
theorem d9_21 : decode prog_1_method_25_code 21 = .ok (.goto (-12), 3) := by decide +kernel
theorem d9_24 : decode prog_1_method_25_code 24 = .ok (.aload_n 2, 1) := by decide +kernel
theorem d9_25 : decode prog_1_method_25_code 25 = .ok (.areturn, 1) := by decide +kernel
theorem d10_0 : decode jdk_65_method_123_code 0 = .ok (.iload_n 1, 1) := by decide +kernel
theorem d10_1 : decode jdk_65_method_123_code 1 = .ok (.aload_n 0, 1) := by decide +kernel
theorem d10_2 : decode jdk_65_method_123_code 2 = .ok (.arraylength, 1) := by decide +kernel
theorem d10_3 : decode jdk_65_method_123_code 3 = .ok (.if_icmp .ne 11, 3) := by decide +kernel
theorem d10_14 : decode jdk_65_method_123_code 14 = .ok (.iload_n 1, 1) := by decide +kernel
theorem d10_15 : decode jdk_65_method_123_code 15 = .ok (.newarray .int, 2) := by decide +kernel
theorem d10_17 : decode jdk_65_method_123_code 17 = .ok (.astore_n 2, 1) := by decide +kernel
theorem d10_18 : decode jdk_65_method_123_code 18 = .ok (.aload_n 0, 1) := by decide +kernel
theorem d10_19 : decode jdk_65_method_123_code 19 = .ok (.iconst 0, 1) := by decide +kernel
theorem d10_20 : decode jdk_65_method_123_code 20 = .ok (.aload_n 2, 1) := by decide +kernel
theorem d10_21 : decode jdk_65_method_123_code 21 = .ok (.iconst 0, 1) := by decide +kernel
theorem d10_22 : decode jdk_65_method_123_code 22 = .ok (.aload_n 0, 1) := by decide +kernel
theorem d10_23 : decode jdk_65_method_123_code 23 = .ok (.arraylength, 1) := by decide +kernel
theorem d10_24 : decode jdk_65_method_123_code 24 = .ok (.iload_n 1, 1) := by decide +kernel
theorem d10_25 : decode jdk_65_method_123_code 25 = .ok (.invokestatic 304, 3) := by decide +kernel
theorem d10_28 : decode jdk_65_method_123_code 28 = .ok (.invokestatic 150, 3) := by decide +kernel
theorem d10_31 : decode jdk_65_method_123_code 31 = .ok (.aload_n 2, 1) := by decide +kernel
theorem d10_32 : decode jdk_65_method_123_code 32 = .ok (.areturn, 1) := by decide +kernel
theorem d11_0 : decode jdk_29_method_69_code 0 = .ok (.iload_n 0, 1) := by decide +kernel
theorem d11_1 : decode jdk_29_method_69_code 1 = .ok (.iload_n 1, 1) := by decide +kernel
theorem d11_2 : decode jdk_29_method_69_code 2 = .ok (.if_icmp .gt 7, 3) := by decide +kernel
theorem d11_5 : decode jdk_29_method_69_code 5 = .ok (.iload_n 0, 1) := by decide +kernel
theorem d11_6 : decode jdk_29_method_69_code 6 = .ok (.goto 4, 3) := by decide +kernel
theorem d11_10 : decode jdk_29_method_69_code 10 = .ok (.ireturn, 1) := by decide +kernel
theorem d12_0 : decode prog_1_method_12_code 0 = .ok (.aload_n 0, 1) := by decide +kernel
theorem d12_1 : decode prog_1_method_12_code 1 = .ok (.getfield 37, 3) := by decide +kernel
theorem d12_4 : decode prog_1_method_12_code 4 = .ok (.anewarray 10, 3) := by decide +kernel
theorem d12_7 : decode prog_1_method_12_code 7 = .ok (.astore_n 1, 1) := by decide +kernel
theorem d12_8 : decode prog_1_method_12_code 8 = .ok (.iconst 0, 1) := by decide +kernel
theorem d12_9 : decode prog_1_method_12_code 9 = .ok (.istore_n 2, 1) := by decide +kernel
theorem d12_10 : decode prog_1_method_12_code 10 = .ok (.iload_n 2, 1) := by decide +kernel
theorem d12_11 : decode prog_1_method_12_code 11 = .ok (.aload_n 0, 1) := by decide +kernel
theorem d12_12 : decode prog_1_method_12_code 12 = .ok (.getfield 37, 3) := by decide +kernel
theorem d12_15 : decode prog_1_method_12_code 15 = .ok (.if_icmp .ge 17, 3) := by decide +kernel
theorem d12_18 : decode prog_1_method_12_code 18 = .ok (.aload_n 1, 1) := by decide +kernel
theorem d12_19 : decode prog_1_method_12_code 19 = .ok (.iload_n 2, 1) := by decide +kernel
theorem d12_20 : decode prog_1_method_12_code 20 = .ok (.aload_n 0, 1) := by decide +kernel
theorem d12_21 : decode prog_1_method_12_code 21 = .ok (.iload_n 2, 1) := by decide +kernel
theorem d12_22 : decode prog_1_method_12_code 22 = .ok (.invokevirtual 41, 3) := by decide +kernel
theorem d12_25 : decode prog_1_method_12_code 25 = .ok (.aastore, 1) := by decide +kernel
theorem d12_26 : decode prog_1_method_12_code 26 = .ok (.iinc 2 1, 3) := by decide +kernel
theorem d12_29 : decode prog_1_method_12_code 29 = .ok (.goto (-19), 3) := by decide +kernel
theorem d12_32 : decode prog_1_method_12_code 32 = .ok (.aload_n 1, 1) := by decide +kernel
theorem d12_33 : decode prog_1_method_12_code 33 = .ok (.areturn, 1) := by decide +kernel
theorem d13_0 : decode method_3_code 0 = .ok (.iload_n 2, 1) := by decide +kernel
theorem d13_1 : decode method_3_code 1 = .ok (.iload_n 3, 1) := by decide +kernel
theorem d13_2 : decode method_3_code 2 = .ok (.if_icmp .lt 5, 3) := by decide +kernel
theorem d13_5 : decode method_3_code 5 = .ok (.iconst 1, 1) := by decide +kernel
theorem d13_6 : decode method_3_code 6 = .ok (.ireturn, 1) := by decide +kernel
theorem d13_7 : decode method_3_code 7 = .ok (.aload_n 1, 1) := by decide +kernel
theorem d13_8 : decode method_3_code 8 = .ok (.iload_n 2, 1) := by decide +kernel
theorem d13_9 : decode method_3_code 9 = .ok (.aaload, 1) := by decide +kernel
theorem d13_10 : decode method_3_code 10 = .ok (.astore 7, 2) := by decide +kernel
theorem d13_12 : decode method_3_code 12 = .ok (.aload 7, 2) := by decide +kernel
theorem d13_14 : decode method_3_code 14 = .ok (.aload_n 0, 1) := by decide +kernel
theorem d13_15 : decode method_3_code 15 = .ok (.iload_n 2, 1) := by decide +kernel
theorem d13_16 : decode method_3_code 16 = .ok (.invokevirtual 42, 3) := by decide +kernel
theorem d13_19 : decode method_3_code 19 = .ok (.if_acmp .eq 5, 3) := by decide +kernel
theorem d13_24 : decode method_3_code 24 = .ok (.aload 7, 2) := by decide +kernel
theorem d13_26 : decode method_3_code 26 = .ok (.aload 4, 2) := by decide +kernel
theorem d13_28 : decode method_3_code 28 = .ok (.iload 5, 2) := by decide +kernel
theorem d13_30 : decode method_3_code 30 = .ok (.invokestatic 24, 3) := by decide +kernel
theorem d13_33 : decode method_3_code 33 = .ok (.istore 8, 2) := by decide +kernel
theorem d13_35 : decode method_3_code 35 = .ok (.iload 8, 2) := by decide +kernel
theorem d13_37 : decode method_3_code 37 = .ok (.ifCond .lt 14, 3) := by decide +kernel
theorem d13_40 : decode method_3_code 40 = .ok (.iload 8, 2) := by decide +kernel
theorem d13_42 : decode method_3_code 42 = .ok (.iload 6, 2) := by decide +kernel
theorem d13_44 : decode method_3_code 44 = .ok (.if_icmp .eq 7, 3) := by decide +kernel
theorem d13_47 : decode method_3_code 47 = .ok (.iconst 1, 1) := by decide +kernel
theorem d13_48 : decode method_3_code 48 = .ok (.goto 4, 3) := by decide +kernel
theorem d13_52 : decode method_3_code 52 = .ok (.ireturn, 1) := by decide +kernel
theorem d14_0 : decode prog_1_method_8_code 0 = .ok (.aload_n 0, 1) := by decide +kernel
theorem d14_1 : decode prog_1_method_8_code 1 = .ok (.getfield 37, 3) := by decide +kernel
theorem d14_4 : decode prog_1_method_8_code 4 = .ok (.aload_n 0, 1) := by decide +kernel
theorem d14_5 : decode prog_1_method_8_code 5 = .ok (.getfield 14, 3) := by decide +kernel
theorem d14_8 : decode prog_1_method_8_code 8 = .ok (.arraylength, 1) := by decide +kernel
theorem d14_9 : decode prog_1_method_8_code 9 = .ok (.if_icmp .ne 7, 3) := by decide +kernel
theorem d14_16 : decode prog_1_method_8_code 16 = .ok (.aload_n 0, 1) := by decide +kernel
theorem d14_17 : decode prog_1_method_8_code 17 = .ok (.getfield 34, 3) := by decide +kernel
theorem d14_20 : decode prog_1_method_8_code 20 = .ok (.ifnonnull 7, 3) := by decide +kernel
theorem d14_23 : decode prog_1_method_8_code 23 = .ok (.lconst 0, 1) := by decide +kernel
theorem d14_24 : decode prog_1_method_8_code 24 = .ok (.goto 14, 3) := by decide +kernel
theorem d14_38 : decode prog_1_method_8_code 38 = .ok (.lstore 4, 2) := by decide +kernel
theorem d14_40 : decode prog_1_method_8_code 40 = .ok (.aload_n 0, 1) := by decide +kernel
theorem d14_41 : decode prog_1_method_8_code 41 = .ok (.getfield 22, 3) := by decide +kernel
theorem d14_44 : decode prog_1_method_8_code 44 = .ok (.aload_n 0, 1) := by decide +kernel
theorem d14_45 : decode prog_1_method_8_code 45 = .ok (.getfield 37, 3) := by decide +kernel
theorem d14_48 : decode prog_1_method_8_code 48 = .ok (.iaload, 1) := by decide +kernel
theorem d14_49 : decode prog_1_method_8_code 49 = .ok (.istore 6, 2) := by decide +kernel
theorem d14_51 : decode prog_1_method_8_code 51 = .ok (.aload_n 0, 1) := by decide +kernel
theorem d14_52 : decode prog_1_method_8_code 52 = .ok (.getfield 26, 3) := by decide +kernel
theorem d14_55 : decode prog_1_method_8_code 55 = .ok (.iload 6, 2) := by decide +kernel
theorem d14_57 : decode prog_1_method_8_code 57 = .ok (.aload_n 1, 1) := by decide +kernel
theorem d14_58 : decode prog_1_method_8_code 58 = .ok (.aastore, 1) := by decide +kernel
theorem d14_59 : decode prog_1_method_8_code 59 = .ok (.aload_n 0, 1) := by decide +kernel
theorem d14_60 : decode prog_1_method_8_code 60 = .ok (.aload_n 0, 1) := by decide +kernel
theorem d14_61 : decode prog_1_method_8_code 61 = .ok (.getfield 37, 3) := by decide +kernel
theorem d14_64 : decode prog_1_method_8_code 64 = .ok (.lload_n 2, 1) := by decide +kernel
theorem d14_65 : decode prog_1_method_8_code 65 = .ok (.lload 4, 2) := by decide +kernel
theorem d14_67 : decode prog_1_method_8_code 67 = .ok (.invokevirtual 56, 3) := by decide +kernel
theorem d14_70 : decode prog_1_method_8_code 70 = .ok (.istore 7, 2) := by decide +kernel
theorem d14_72 : decode prog_1_method_8_code 72 = .ok (.aload_n 0, 1) := by decide +kernel
theorem d14_73 : decode prog_1_method_8_code 73 = .ok (.iload 7, 2) := by decide +kernel
theorem d14_75 : decode prog_1_method_8_code 75 = .ok (.lload_n 2, 1) := by decide +kernel
theorem d14_76 : decode prog_1_method_8_code 76 = .ok (.lload 4, 2) := by decide +kernel
theorem d14_78 : decode prog_1_method_8_code 78 = .ok (.iload 6, 2) := by decide +kernel
theorem d14_80 : decode prog_1_method_8_code 80 = .ok (.invokevirtual 60, 3) := by decide +kernel
theorem d14_83 : decode prog_1_method_8_code 83 = .ok (.aload_n 0, 1) := by decide +kernel
theorem d14_84 : decode prog_1_method_8_code 84 = .ok (.dup, 1) := by decide +kernel
theorem d14_85 : decode prog_1_method_8_code 85 = .ok (.getfield 37, 3) := by decide +kernel
theorem d14_88 : decode prog_1_method_8_code 88 = .ok (.iconst 1, 1) := by decide +kernel
theorem d14_89 : decode prog_1_method_8_code 89 = .ok (.iadd, 1) := by decide +kernel
theorem d14_90 : decode prog_1_method_8_code 90 = .ok (.putfield 37, 3) := by decide +kernel
theorem d14_93 : decode prog_1_method_8_code 93 = .ok (.iload 7, 2) := by decide +kernel
theorem d14_95 : decode prog_1_method_8_code 95 = .ok (.ifCond .ne 7, 3) := by decide +kernel
theorem d14_98 : decode prog_1_method_8_code 98 = .ok (.iconst 1, 1) := by decide +kernel
theorem d14_99 : decode prog_1_method_8_code 99 = .ok (.goto 4, 3) := by decide +kernel
theorem d14_102 : decode prog_1_method_8_code 102 = .ok (.iconst 0, 1) := by decide +kernel
theorem d14_103 : decode prog_1_method_8_code 103 = .ok (.ireturn, 1) := by decide +kernel
theorem d15_0 : decode prog_1_method_14_code 0 = .ok (.iload_n 1, 1) := by decide +kernel
theorem d15_1 : decode prog_1_method_14_code 1 = .ok (.ifCond .le 48, 3) := by decide +kernel
theorem d15_4 : decode prog_1_method_14_code 4 = .ok (.iload_n 1, 1) := by decide +kernel
theorem d15_5 : decode prog_1_method_14_code 5 = .ok (.iconst 1, 1) := by decide +kernel
theorem d15_6 : decode prog_1_method_14_code 6 = .ok (.isub, 1) := by decide +kernel
theorem d15_7 : decode prog_1_method_14_code 7 = .ok (.iconst 1, 1) := by decide +kernel
theorem d15_8 : decode prog_1_method_14_code 8 = .ok (.iushr, 1) := by decide +kernel
theorem d15_9 : decode prog_1_method_14_code 9 = .ok (.istore 6, 2) := by decide +kernel
theorem d15_11 : decode prog_1_method_14_code 11 = .ok (.lload_n 2, 1) := by decide +kernel
theorem d15_12 : decode prog_1_method_14_code 12 = .ok (.lload 4, 2) := by decide +kernel
theorem d15_14 : decode prog_1_method_14_code 14 = .ok (.aload_n 0, 1) := by decide +kernel
theorem d15_15 : decode prog_1_method_14_code 15 = .ok (.getfield 14, 3) := by decide +kernel
theorem d15_18 : decode prog_1_method_14_code 18 = .ok (.iload 6, 2) := by decide +kernel
theorem d15_20 : decode prog_1_method_14_code 20 = .ok (.laload, 1) := by decide +kernel
theorem d15_21 : decode prog_1_method_14_code 21 = .ok (.aload_n 0, 1) := by decide +kernel
theorem d15_22 : decode prog_1_method_14_code 22 = .ok (.iload 6, 2) := by decide +kernel
theorem d15_24 : decode prog_1_method_14_code 24 = .ok (.invokevirtual 64, 3) := by decide +kernel
theorem d15_27 : decode prog_1_method_14_code 27 = .ok (.invokestatic 127, 3) := by decide +kernel
theorem d15_30 : decode prog_1_method_14_code 30 = .ok (.ifCond .ne 6, 3) := by decide +kernel
theorem d15_33 : decode prog_1_method_14_code 33 = .ok (.goto 16, 3) := by decide +kernel
theorem d15_36 : decode prog_1_method_14_code 36 = .ok (.aload_n 0, 1) := by decide +kernel
theorem d15_37 : decode prog_1_method_14_code 37 = .ok (.iload_n 1, 1) := by decide +kernel
theorem d15_38 : decode prog_1_method_14_code 38 = .ok (.iload 6, 2) := by decide +kernel
theorem d15_40 : decode prog_1_method_14_code 40 = .ok (.invokevirtual 100, 3) := by decide +kernel
theorem d15_43 : decode prog_1_method_14_code 43 = .ok (.iload 6, 2) := by decide +kernel
theorem d15_45 : decode prog_1_method_14_code 45 = .ok (.istore_n 1, 1) := by decide +kernel
theorem d15_46 : decode prog_1_method_14_code 46 = .ok (.goto (-46), 3) := by decide +kernel
theorem d15_49 : decode prog_1_method_14_code 49 = .ok (.iload_n 1, 1) := by decide +kernel
theorem d15_50 : decode prog_1_method_14_code 50 = .ok (.ireturn, 1) := by decide +kernel
theorem d16_0 : decode prog_1_method_20_code 0 = .ok (.aload_n 0, 1) := by decide +kernel
theorem d16_1 : decode prog_1_method_20_code 1 = .ok (.getfield 14, 3) := by decide +kernel
theorem d16_4 : decode prog_1_method_20_code 4 = .ok (.iload_n 1, 1) := by decide +kernel
theorem d16_5 : decode prog_1_method_20_code 5 = .ok (.lload_n 2, 1) := by decide +kernel
theorem d16_6 : decode prog_1_method_20_code 6 = .ok (.lastore, 1) := by decide +kernel
theorem d16_7 : decode prog_1_method_20_code 7 = .ok (.aload_n 0, 1) := by decide +kernel
theorem d16_8 : decode prog_1_method_20_code 8 = .ok (.getfield 22, 3) := by decide +kernel
theorem d16_11 : decode prog_1_method_20_code 11 = .ok (.iload_n 1, 1) := by decide +kernel
theorem d16_12 : decode prog_1_method_20_code 12 = .ok (.iload 6, 2) := by decide +kernel
theorem d16_14 : decode prog_1_method_20_code 14 = .ok (.iastore, 1) := by decide +kernel
theorem d16_15 : decode prog_1_method_20_code 15 = .ok (.aload_n 0, 1) := by decide +kernel
theorem d16_16 : decode prog_1_method_20_code 16 = .ok (.getfield 34, 3) := by decide +kernel
theorem d16_19 : decode prog_1_method_20_code 19 = .ok (.ifnull 11, 3) := by decide +kernel
theorem d16_30 : decode prog_1_method_20_code 30 = .ok (.aload_n 0, 1) := by decide +kernel
theorem d16_31 : decode prog_1_method_20_code 31 = .ok (.iload_n 1, 1) := by decide +kernel
theorem d16_32 : decode prog_1_method_20_code 32 = .ok (.invokevirtual 134, 3) := by decide +kernel
theorem d16_35 : decode prog_1_method_20_code 35 = .ok (.return_, 1) := by decide +kernel
theorem d17_0 : decode prog_1_method_22_code 0 = .ok (.aload_n 0, 1) := by decide +kernel
theorem d17_1 : decode prog_1_method_22_code 1 = .ok (.getfield 30, 3) := by decide +kernel
theorem d17_4 : decode prog_1_method_22_code 4 = .ok (.ifnull 18, 3) := by decide +kernel
theorem d17_22 : decode prog_1_method_22_code 22 = .ok (.return_, 1) := by decide +kernel
theorem d18_0 : decode prog_1_method_19_code 0 = .ok (.aload_n 0, 1) := by decide +kernel
theorem d18_1 : decode prog_1_method_19_code 1 = .ok (.getfield 34, 3) := by decide +kernel
theorem d18_4 : decode prog_1_method_19_code 4 = .ok (.ifnonnull 7, 3) := by decide +kernel
theorem d18_7 : decode prog_1_method_19_code 7 = .ok (.lconst 0, 1) := by decide +kernel
theorem d18_8 : decode prog_1_method_19_code 8 = .ok (.goto 9, 3) := by decide +kernel
theorem d18_17 : decode prog_1_method_19_code 17 = .ok (.lreturn, 1) := by decide +kernel
theorem d19_0 : decode prog_1_method_16_code 0 = .ok (.lload_n 0, 1) := by decide +kernel
theorem d19_1 : decode prog_1_method_16_code 1 = .ok (.lload 4, 2) := by decide +kernel
theorem d19_3 : decode prog_1_method_16_code 3 = .ok (.lcmp, 1) := by decide +kernel
theorem d19_4 : decode prog_1_method_16_code 4 = .ok (.ifCond .lt 17, 3) := by decide +kernel
theorem d19_7 : decode prog_1_method_16_code 7 = .ok (.lload_n 0, 1) := by decide +kernel
theorem d19_8 : decode prog_1_method_16_code 8 = .ok (.lload 4, 2) := by decide +kernel
theorem d19_10 : decode prog_1_method_16_code 10 = .ok (.lcmp, 1) := by decide +kernel
theorem d19_11 : decode prog_1_method_16_code 11 = .ok (.ifCond .ne 14, 3) := by decide +kernel
theorem d19_14 : decode prog_1_method_16_code 14 = .ok (.lload_n 2, 1) := by decide +kernel
theorem d19_15 : decode prog_1_method_16_code 15 = .ok (.lload 6, 2) := by decide +kernel
theorem d19_17 : decode prog_1_method_16_code 17 = .ok (.lcmp, 1) := by decide +kernel
theorem d19_18 : decode prog_1_method_16_code 18 = .ok (.ifCond .ge 7, 3) := by decide +kernel
theorem d19_21 : decode prog_1_method_16_code 21 = .ok (.iconst 1, 1) := by decide +kernel
theorem d19_22 : decode prog_1_method_16_code 22 = .ok (.goto 4, 3) := by decide +kernel
theorem d19_25 : decode prog_1_method_16_code 25 = .ok (.iconst 0, 1) := by decide +kernel
theorem d19_26 : decode prog_1_method_16_code 26 = .ok (.ireturn, 1) := by decide +kernel
theorem d20_0 : decode prog_1_method_21_code 0 = .ok (.aload_n 0, 1) := by decide +kernel
theorem d20_1 : decode prog_1_method_21_code 1 = .ok (.iload_n 1, 1) := by decide +kernel
theorem d20_2 : decode prog_1_method_21_code 2 = .ok (.aload_n 0, 1) := by decide +kernel
theorem d20_3 : decode prog_1_method_21_code 3 = .ok (.getfield 14, 3) := by decide +kernel
theorem d20_6 : decode prog_1_method_21_code 6 = .ok (.iload_n 2, 1) := by decide +kernel
theorem d20_7 : decode prog_1_method_21_code 7 = .ok (.laload, 1) := by decide +kernel
theorem d20_8 : decode prog_1_method_21_code 8 = .ok (.aload_n 0, 1) := by decide +kernel
theorem d20_9 : decode prog_1_method_21_code 9 = .ok (.iload_n 2, 1) := by decide +kernel
theorem d20_10 : decode prog_1_method_21_code 10 = .ok (.invokevirtual 64, 3) := by decide +kernel
theorem d20_13 : decode prog_1_method_21_code 13 = .ok (.aload_n 0, 1) := by decide +kernel
theorem d20_14 : decode prog_1_method_21_code 14 = .ok (.getfield 22, 3) := by decide +kernel
theorem d20_17 : decode prog_1_method_21_code 17 = .ok (.iload_n 2, 1) := by decide +kernel
theorem d20_18 : decode prog_1_method_21_code 18 = .ok (.iaload, 1) := by decide +kernel
theorem d20_19 : decode prog_1_method_21_code 19 = .ok (.invokevirtual 60, 3) := by decide +kernel
theorem d20_22 : decode prog_1_method_21_code 22 = .ok (.return_, 1) := by decide +kernel
theorem d21_0 : decode prog_1_method_9_code 0 = .ok (.aload_n 0, 1) := by decide +kernel
theorem d21_1 : decode prog_1_method_9_code 1 = .ok (.getfield 22, 3) := by decide +kernel
theorem d21_4 : decode prog_1_method_9_code 4 = .ok (.iload_n 1, 1) := by decide +kernel
theorem d21_5 : decode prog_1_method_9_code 5 = .ok (.iaload, 1) := by decide +kernel
theorem d21_6 : decode prog_1_method_9_code 6 = .ok (.istore_n 2, 1) := by decide +kernel
theorem d21_7 : decode prog_1_method_9_code 7 = .ok (.aload_n 0, 1) := by decide +kernel
theorem d21_8 : decode prog_1_method_9_code 8 = .ok (.iload_n 1, 1) := by decide +kernel
theorem d21_9 : decode prog_1_method_9_code 9 = .ok (.invokevirtual 41, 3) := by decide +kernel
theorem d21_12 : decode prog_1_method_9_code 12 = .ok (.astore_n 3, 1) := by decide +kernel
theorem d21_13 : decode prog_1_method_9_code 13 = .ok (.aload_n 0, 1) := by decide +kernel
theorem d21_14 : decode prog_1_method_9_code 14 = .ok (.getfield 26, 3) := by decide +kernel
theorem d21_17 : decode prog_1_method_9_code 17 = .ok (.iload_n 2, 1) := by decide +kernel
theorem d21_18 : decode prog_1_method_9_code 18 = .ok (.aconst_null, 1) := by decide +kernel
theorem d21_19 : decode prog_1_method_9_code 19 = .ok (.aastore, 1) := by decide +kernel
theorem d21_20 : decode prog_1_method_9_code 20 = .ok (.aload_n 0, 1) := by decide +kernel
theorem d21_21 : decode prog_1_method_9_code 21 = .ok (.dup, 1) := by decide +kernel
theorem d21_22 : decode prog_1_method_9_code 22 = .ok (.getfield 37, 3) := by decide +kernel
theorem d21_25 : decode prog_1_method_9_code 25 = .ok (.iconst 1, 1) := by decide +kernel
theorem d21_26 : decode prog_1_method_9_code 26 = .ok (.isub, 1) := by decide +kernel
theorem d21_27 : decode prog_1_method_9_code 27 = .ok (.dup_x1, 1) := by decide +kernel
theorem d21_28 : decode prog_1_method_9_code 28 = .ok (.putfield 37, 3) := by decide +kernel
theorem d21_31 : decode prog_1_method_9_code 31 = .ok (.istore 4, 2) := by decide +kernel
theorem d21_33 : decode prog_1_method_9_code 33 = .ok (.aload_n 0, 1) := by decide +kernel
theorem d21_34 : decode prog_1_method_9_code 34 = .ok (.getfield 14, 3) := by decide +kernel
theorem d21_37 : decode prog_1_method_9_code 37 = .ok (.iload 4, 2) := by decide +kernel
theorem d21_39 : decode prog_1_method_9_code 39 = .ok (.laload, 1) := by decide +kernel
theorem d21_40 : decode prog_1_method_9_code 40 = .ok (.lstore 5, 2) := by decide +kernel
theorem d21_42 : decode prog_1_method_9_code 42 = .ok (.aload_n 0, 1) := by decide +kernel
theorem d21_43 : decode prog_1_method_9_code 43 = .ok (.iload 4, 2) := by decide +kernel
theorem d21_45 : decode prog_1_method_9_code 45 = .ok (.invokevirtual 64, 3) := by decide +kernel
theorem d21_48 : decode prog_1_method_9_code 48 = .ok (.lstore 7, 2) := by decide +kernel
theorem d21_50 : decode prog_1_method_9_code 50 = .ok (.aload_n 0, 1) := by decide +kernel
theorem d21_51 : decode prog_1_method_9_code 51 = .ok (.getfield 22, 3) := by decide +kernel
theorem d21_54 : decode prog_1_method_9_code 54 = .ok (.iload 4, 2) := by decide +kernel
theorem d21_56 : decode prog_1_method_9_code 56 = .ok (.iaload, 1) := by decide +kernel
theorem d21_57 : decode prog_1_method_9_code 57 = .ok (.istore 9, 2) := by decide +kernel
theorem d21_59 : decode prog_1_method_9_code 59 = .ok (.iload_n 1, 1) := by decide +kernel
theorem d21_60 : decode prog_1_method_9_code 60 = .ok (.iload 4, 2) := by decide +kernel
theorem d21_62 : decode prog_1_method_9_code 62 = .ok (.if_icmp .ge 43, 3) := by decide +kernel
theorem d21_65 : decode prog_1_method_9_code 65 = .ok (.aload_n 0, 1) := by decide +kernel
theorem d21_66 : decode prog_1_method_9_code 66 = .ok (.iload_n 1, 1) := by decide +kernel
theorem d21_67 : decode prog_1_method_9_code 67 = .ok (.lload 5, 2) := by decide +kernel
theorem d21_69 : decode prog_1_method_9_code 69 = .ok (.lload 7, 2) := by decide +kernel
theorem d21_71 : decode prog_1_method_9_code 71 = .ok (.invokevirtual 68, 3) := by decide +kernel
theorem d21_74 : decode prog_1_method_9_code 74 = .ok (.istore 10, 2) := by decide +kernel
theorem d21_76 : decode prog_1_method_9_code 76 = .ok (.iload 10, 2) := by decide +kernel
theorem d21_78 : decode prog_1_method_9_code 78 = .ok (.iload_n 1, 1) := by decide +kernel
theorem d21_79 : decode prog_1_method_9_code 79 = .ok (.if_icmp .ne 14, 3) := by decide +kernel
theorem d21_82 : decode prog_1_method_9_code 82 = .ok (.aload_n 0, 1) := by decide +kernel
theorem d21_83 : decode prog_1_method_9_code 83 = .ok (.iload_n 1, 1) := by decide +kernel
theorem d21_84 : decode prog_1_method_9_code 84 = .ok (.lload 5, 2) := by decide +kernel
theorem d21_86 : decode prog_1_method_9_code 86 = .ok (.lload 7, 2) := by decide +kernel
theorem d21_88 : decode prog_1_method_9_code 88 = .ok (.invokevirtual 56, 3) := by decide +kernel
theorem d21_91 : decode prog_1_method_9_code 91 = .ok (.istore 10, 2) := by decide +kernel
theorem d21_93 : decode prog_1_method_9_code 93 = .ok (.aload_n 0, 1) := by decide +kernel
theorem d21_94 : decode prog_1_method_9_code 94 = .ok (.iload 10, 2) := by decide +kernel
theorem d21_96 : decode prog_1_method_9_code 96 = .ok (.lload 5, 2) := by decide +kernel
theorem d21_98 : decode prog_1_method_9_code 98 = .ok (.lload 7, 2) := by decide +kernel
theorem d21_100 : decode prog_1_method_9_code 100 = .ok (.iload 9, 2) := by decide +kernel
theorem d21_102 : decode prog_1_method_9_code 102 = .ok (.invokevirtual 60, 3) := by decide +kernel
theorem d21_105 : decode prog_1_method_9_code 105 = .ok (.aload_n 0, 1) := by decide +kernel
theorem d21_106 : decode prog_1_method_9_code 106 = .ok (.getfield 22, 3) := by decide +kernel
theorem d21_109 : decode prog_1_method_9_code 109 = .ok (.iload 4, 2) := by decide +kernel
theorem d21_111 : decode prog_1_method_9_code 111 = .ok (.iload_n 2, 1) := by decide +kernel
theorem d21_112 : decode prog_1_method_9_code 112 = .ok (.iastore, 1) := by decide +kernel
theorem d21_113 : decode prog_1_method_9_code 113 = .ok (.aload_n 0, 1) := by decide +kernel
theorem d21_114 : decode prog_1_method_9_code 114 = .ok (.aload_n 3, 1) := by decide +kernel
theorem d21_115 : decode prog_1_method_9_code 115 = .ok (.invokevirtual 71, 3) := by decide +kernel
theorem d21_118 : decode prog_1_method_9_code 118 = .ok (.aload_n 3, 1) := by decide +kernel
theorem d21_119 : decode prog_1_method_9_code 119 = .ok (.areturn, 1) := by decide +kernel
theorem d22_0 : decode prog_1_method_6_code 0 = .ok (.aload_n 0, 1) := by decide +kernel
theorem d22_1 : decode prog_1_method_6_code 1 = .ok (.getfield 26, 3) := by decide +kernel
theorem d22_4 : decode prog_1_method_6_code 4 = .ok (.aload_n 0, 1) := by decide +kernel
theorem d22_5 : decode prog_1_method_6_code 5 = .ok (.getfield 22, 3) := by decide +kernel
theorem d22_8 : decode prog_1_method_6_code 8 = .ok (.iload_n 1, 1) := by decide +kernel
theorem d22_9 : decode prog_1_method_6_code 9 = .ok (.iaload, 1) := by decide +kernel
theorem d22_10 : decode prog_1_method_6_code 10 = .ok (.aaload, 1) := by decide +kernel
theorem d22_11 : decode prog_1_method_6_code 11 = .ok (.areturn, 1) := by decide +kernel
theorem d23_0 : decode prog_1_method_23_code 0 = .ok (.aload_n 0, 1) := by decide +kernel
theorem d23_1 : decode prog_1_method_23_code 1 = .ok (.getfield 30, 3) := by decide +kernel
theorem d23_4 : decode prog_1_method_23_code 4 = .ok (.ifnull 14, 3) := by decide +kernel
theorem d23_18 : decode prog_1_method_23_code 18 = .ok (.return_, 1) := by decide +kernel
theorem d24_0 : decode method_5_code 0 = .ok (.iload_n 2, 1) := by decide +kernel
theorem d24_1 : decode method_5_code 1 = .ok (.ifCond .le 12, 3) := by decide +kernel
theorem d24_4 : decode method_5_code 4 = .ok (.aload_n 1, 1) := by decide +kernel
theorem d24_5 : decode method_5_code 5 = .ok (.iconst 0, 1) := by decide +kernel
theorem d24_6 : decode method_5_code 6 = .ok (.aaload, 1) := by decide +kernel
theorem d24_7 : decode method_5_code 7 = .ok (.aload_n 0, 1) := by decide +kernel
theorem d24_8 : decode method_5_code 8 = .ok (.if_acmp .ne 5, 3) := by decide +kernel
theorem d24_11 : decode method_5_code 11 = .ok (.iconst 0, 1) := by decide +kernel
theorem d24_12 : decode method_5_code 12 = .ok (.ireturn, 1) := by decide +kernel
theorem d24_13 : decode method_5_code 13 = .ok (.iload_n 2, 1) := by decide +kernel
theorem d24_14 : decode method_5_code 14 = .ok (.iconst 1, 1) := by decide +kernel
theorem d24_15 : decode method_5_code 15 = .ok (.if_icmp .le 12, 3) := by decide +kernel
theorem d24_18 : decode method_5_code 18 = .ok (.aload_n 1, 1) := by decide +kernel
theorem d24_19 : decode method_5_code 19 = .ok (.iconst 1, 1) := by decide +kernel
theorem d24_20 : decode method_5_code 20 = .ok (.aaload, 1) := by decide +kernel
theorem d24_21 : decode method_5_code 21 = .ok (.aload_n 0, 1) := by decide +kernel
theorem d24_22 : decode method_5_code 22 = .ok (.if_acmp .ne 5, 3) := by decide +kernel
theorem d24_25 : decode method_5_code 25 = .ok (.iconst 1, 1) := by decide +kernel
theorem d24_26 : decode method_5_code 26 = .ok (.ireturn, 1) := by decide +kernel
theorem d24_27 : decode method_5_code 27 = .ok (.iload_n 2, 1) := by decide +kernel
theorem d24_28 : decode method_5_code 28 = .ok (.iconst 2, 1) := by decide +kernel
theorem d24_29 : decode method_5_code 29 = .ok (.if_icmp .le 12, 3) := by decide +kernel
theorem d24_32 : decode method_5_code 32 = .ok (.aload_n 1, 1) := by decide +kernel
theorem d24_33 : decode method_5_code 33 = .ok (.iconst 2, 1) := by decide +kernel
theorem d24_34 : decode method_5_code 34 = .ok (.aaload, 1) := by decide +kernel
theorem d24_35 : decode method_5_code 35 = .ok (.aload_n 0, 1) := by decide +kernel
theorem d24_36 : decode method_5_code 36 = .ok (.if_acmp .ne 5, 3) := by decide +kernel
theorem d24_39 : decode method_5_code 39 = .ok (.iconst 2, 1) := by decide +kernel
theorem d24_40 : decode method_5_code 40 = .ok (.ireturn, 1) := by decide +kernel
theorem d25_0 : decode method_4_code 0 = .ok (.iload_n 2, 1) := by decide +kernel
theorem d25_1 : decode method_4_code 1 = .ok (.iload_n 3, 1) := by decide +kernel
theorem d25_2 : decode method_4_code 2 = .ok (.if_icmp .ge 9, 3) := by decide +kernel
theorem d25_5 : decode method_4_code 5 = .ok (.iload_n 2, 1) := by decide +kernel
theorem d25_6 : decode method_4_code 6 = .ok (.iload 4, 2) := by decide +kernel
theorem d25_8 : decode method_4_code 8 = .ok (.if_icmp .ne 5, 3) := by decide +kernel
theorem d25_11 : decode method_4_code 11 = .ok (.iconst 1, 1) := by decide +kernel
theorem d25_12 : decode method_4_code 12 = .ok (.ireturn, 1) := by decide +kernel
theorem d25_13 : decode method_4_code 13 = .ok (.aload_n 0, 1) := by decide +kernel
theorem d25_14 : decode method_4_code 14 = .ok (.iload_n 1, 1) := by decide +kernel
theorem d25_15 : decode method_4_code 15 = .ok (.laload, 1) := by decide +kernel
theorem d25_16 : decode method_4_code 16 = .ok (.aload_n 0, 1) := by decide +kernel
theorem d25_17 : decode method_4_code 17 = .ok (.iload_n 2, 1) := by decide +kernel
theorem d25_18 : decode method_4_code 18 = .ok (.laload, 1) := by decide +kernel
theorem d25_19 : decode method_4_code 19 = .ok (.lcmp, 1) := by decide +kernel
theorem d25_20 : decode method_4_code 20 = .ok (.ifCond .gt 7, 3) := by decide +kernel
theorem d25_23 : decode method_4_code 23 = .ok (.iconst 1, 1) := by decide +kernel
theorem d25_24 : decode method_4_code 24 = .ok (.goto 4, 3) := by decide +kernel
theorem d25_28 : decode method_4_code 28 = .ok (.ireturn, 1) := by decide +kernel
theorem d26_0 : decode prog_1_method_15_code 0 = .ok (.aload_n 0, 1) := by decide +kernel
theorem d26_1 : decode prog_1_method_15_code 1 = .ok (.getfield 37, 3) := by decide +kernel
theorem d26_4 : decode prog_1_method_15_code 4 = .ok (.iconst 1, 1) := by decide +kernel
theorem d26_5 : decode prog_1_method_15_code 5 = .ok (.iushr, 1) := by decide +kernel
theorem d26_6 : decode prog_1_method_15_code 6 = .ok (.istore 6, 2) := by decide +kernel
theorem d26_8 : decode prog_1_method_15_code 8 = .ok (.iload_n 1, 1) := by decide +kernel
theorem d26_9 : decode prog_1_method_15_code 9 = .ok (.iload 6, 2) := by decide +kernel
theorem d26_11 : decode prog_1_method_15_code 11 = .ok (.if_icmp .ge 78, 3) := by decide +kernel
theorem d26_14 : decode prog_1_method_15_code 14 = .ok (.iconst 2, 1) := by decide +kernel
theorem d26_15 : decode prog_1_method_15_code 15 = .ok (.iload_n 1, 1) := by decide +kernel
theorem d26_16 : decode prog_1_method_15_code 16 = .ok (.imul, 1) := by decide +kernel
theorem d26_17 : decode prog_1_method_15_code 17 = .ok (.iconst 1, 1) := by decide +kernel
theorem d26_18 : decode prog_1_method_15_code 18 = .ok (.iadd, 1) := by decide +kernel
theorem d26_19 : decode prog_1_method_15_code 19 = .ok (.istore 7, 2) := by decide +kernel
theorem d26_21 : decode prog_1_method_15_code 21 = .ok (.iload 7, 2) := by decide +kernel
theorem d26_23 : decode prog_1_method_15_code 23 = .ok (.iconst 1, 1) := by decide +kernel
theorem d26_24 : decode prog_1_method_15_code 24 = .ok (.iadd, 1) := by decide +kernel
theorem d26_25 : decode prog_1_method_15_code 25 = .ok (.istore 8, 2) := by decide +kernel
theorem d26_27 : decode prog_1_method_15_code 27 = .ok (.iload 8, 2) := by decide +kernel
theorem d26_29 : decode prog_1_method_15_code 29 = .ok (.aload_n 0, 1) := by decide +kernel
theorem d26_30 : decode prog_1_method_15_code 30 = .ok (.getfield 37, 3) := by decide +kernel
theorem d26_33 : decode prog_1_method_15_code 33 = .ok (.if_icmp .ge 18, 3) := by decide +kernel
theorem d26_51 : decode prog_1_method_15_code 51 = .ok (.aload_n 0, 1) := by decide +kernel
theorem d26_52 : decode prog_1_method_15_code 52 = .ok (.getfield 14, 3) := by decide +kernel
theorem d26_55 : decode prog_1_method_15_code 55 = .ok (.iload 7, 2) := by decide +kernel
theorem d26_57 : decode prog_1_method_15_code 57 = .ok (.laload, 1) := by decide +kernel
theorem d26_58 : decode prog_1_method_15_code 58 = .ok (.aload_n 0, 1) := by decide +kernel
theorem d26_59 : decode prog_1_method_15_code 59 = .ok (.iload 7, 2) := by decide +kernel
theorem d26_61 : decode prog_1_method_15_code 61 = .ok (.invokevirtual 64, 3) := by decide +kernel
theorem d26_64 : decode prog_1_method_15_code 64 = .ok (.lload_n 2, 1) := by decide +kernel
theorem d26_65 : decode prog_1_method_15_code 65 = .ok (.lload 4, 2) := by decide +kernel
theorem d26_67 : decode prog_1_method_15_code 67 = .ok (.invokestatic 127, 3) := by decide +kernel
theorem d26_70 : decode prog_1_method_15_code 70 = .ok (.ifCond .ne 6, 3) := by decide +kernel
theorem d26_73 : decode prog_1_method_15_code 73 = .ok (.goto 16, 3) := by decide +kernel
theorem d26_76 : decode prog_1_method_15_code 76 = .ok (.aload_n 0, 1) := by decide +kernel
theorem d26_77 : decode prog_1_method_15_code 77 = .ok (.iload_n 1, 1) := by decide +kernel
theorem d26_78 : decode prog_1_method_15_code 78 = .ok (.iload 7, 2) := by decide +kernel
theorem d26_80 : decode prog_1_method_15_code 80 = .ok (.invokevirtual 100, 3) := by decide +kernel
theorem d26_83 : decode prog_1_method_15_code 83 = .ok (.iload 7, 2) := by decide +kernel
theorem d26_85 : decode prog_1_method_15_code 85 = .ok (.istore_n 1, 1) := by decide +kernel
theorem d26_86 : decode prog_1_method_15_code 86 = .ok (.goto (-78), 3) := by decide +kernel
theorem d26_89 : decode prog_1_method_15_code 89 = .ok (.iload_n 1, 1) := by decide +kernel
theorem d26_90 : decode prog_1_method_15_code 90 = .ok (.ireturn, 1) := by decide +kernel
theorem ef_RIRII_7 (m : MethodId) (x0 : Addr) (x1 : Int32) (x2 : Addr) (x3 : Int32) (x4 : Int32) : entryFrame m #[(.ref x0), (.int x1), (.ref x2), (.int x3), (.int x4)] 7 = mkF m 0 #[.val (.ref x0), .val (.int x1), .val (.ref x2), .val (.int x3), .val (.int x4), .unset, .unset] [] := by first | (simp [entryFrame, mkF, argsToLocals, Value.category]; done) | rfl
theorem ef_RII_6 (m : MethodId) (x0 : Addr) (x1 : Int32) (x2 : Int32) : entryFrame m #[(.ref x0), (.int x1), (.int x2)] 6 = mkF m 0 #[.val (.ref x0), .val (.int x1), .val (.int x2), .unset, .unset, .unset] [] := by first | (simp [entryFrame, mkF, argsToLocals, Value.category]; done) | rfl
theorem ef_RI_2 (m : MethodId) (x0 : Addr) (x1 : Int32) : entryFrame m #[(.ref x0), (.int x1)] 2 = mkF m 0 #[.val (.ref x0), .val (.int x1)] [] := by first | (simp [entryFrame, mkF, argsToLocals, Value.category]; done) | rfl
theorem ef_RRIIN_6 (m : MethodId) (x0 : Addr) (x1 : Addr) (x2 : Int32) (x3 : Int32) : entryFrame m #[(.ref x0), (.ref x1), (.int x2), (.int x3), .null] 6 = mkF m 0 #[.val (.ref x0), .val (.ref x1), .val (.int x2), .val (.int x3), .val .null, .unset] [] := by first | (simp [entryFrame, mkF, argsToLocals, Value.category]; done) | rfl
theorem ef_RR_2 (m : MethodId) (x0 : Addr) (x1 : Addr) : entryFrame m #[(.ref x0), (.ref x1)] 2 = mkF m 0 #[.val (.ref x0), .val (.ref x1)] [] := by first | (simp [entryFrame, mkF, argsToLocals, Value.category]; done) | rfl
theorem ef_JJJJ_8 (m : MethodId) (x0 : Int64) (x1 : Int64) (x2 : Int64) (x3 : Int64) : entryFrame m #[(.long x0), (.long x1), (.long x2), (.long x3)] 8 = mkF m 0 #[.val (.long x0), .second, .val (.long x1), .second, .val (.long x2), .second, .val (.long x3), .second] [] := by first | (simp [entryFrame, mkF, argsToLocals, Value.category]; done) | rfl
theorem ef_RIJJI_7 (m : MethodId) (x0 : Addr) (x1 : Int32) (x2 : Int64) (x3 : Int64) (x4 : Int32) : entryFrame m #[(.ref x0), (.int x1), (.long x2), (.long x3), (.int x4)] 7 = mkF m 0 #[.val (.ref x0), .val (.int x1), .val (.long x2), .second, .val (.long x3), .second, .val (.int x4)] [] := by first | (simp [entryFrame, mkF, argsToLocals, Value.category]; done) | rfl
theorem ef_RII_3 (m : MethodId) (x0 : Addr) (x1 : Int32) (x2 : Int32) : entryFrame m #[(.ref x0), (.int x1), (.int x2)] 3 = mkF m 0 #[.val (.ref x0), .val (.int x1), .val (.int x2)] [] := by first | (simp [entryFrame, mkF, argsToLocals, Value.category]; done) | rfl
theorem ef_RIJJ_7 (m : MethodId) (x0 : Addr) (x1 : Int32) (x2 : Int64) (x3 : Int64) : entryFrame m #[(.ref x0), (.int x1), (.long x2), (.long x3)] 7 = mkF m 0 #[.val (.ref x0), .val (.int x1), .val (.long x2), .second, .val (.long x3), .second, .unset] [] := by first | (simp [entryFrame, mkF, argsToLocals, Value.category]; done) | rfl
theorem ef_RIJJ_9 (m : MethodId) (x0 : Addr) (x1 : Int32) (x2 : Int64) (x3 : Int64) : entryFrame m #[(.ref x0), (.int x1), (.long x2), (.long x3)] 9 = mkF m 0 #[.val (.ref x0), .val (.int x1), .val (.long x2), .second, .val (.long x3), .second, .unset, .unset, .unset] [] := by first | (simp [entryFrame, mkF, argsToLocals, Value.category]; done) | rfl
theorem ef_RRJ_8 (m : MethodId) (x0 : Addr) (x1 : Addr) (x2 : Int64) : entryFrame m #[(.ref x0), (.ref x1), (.long x2)] 8 = mkF m 0 #[.val (.ref x0), .val (.ref x1), .val (.long x2), .second, .unset, .unset, .unset, .unset] [] := by first | (simp [entryFrame, mkF, argsToLocals, Value.category]; done) | rfl
theorem ef_RI_11 (m : MethodId) (x0 : Addr) (x1 : Int32) : entryFrame m #[(.ref x0), (.int x1)] 11 = mkF m 0 #[.val (.ref x0), .val (.int x1), .unset, .unset, .unset, .unset, .unset, .unset, .unset, .unset, .unset] [] := by first | (simp [entryFrame, mkF, argsToLocals, Value.category]; done) | rfl
theorem ef_II_2 (m : MethodId) (x0 : Int32) (x1 : Int32) : entryFrame m #[(.int x0), (.int x1)] 2 = mkF m 0 #[.val (.int x0), .val (.int x1)] [] := by first | (simp [entryFrame, mkF, argsToLocals, Value.category]; done) | rfl
theorem ef_RI_3 (m : MethodId) (x0 : Addr) (x1 : Int32) : entryFrame m #[(.ref x0), (.int x1)] 3 = mkF m 0 #[.val (.ref x0), .val (.int x1), .unset] [] := by first | (simp [entryFrame, mkF, argsToLocals, Value.category]; done) | rfl
theorem ef_RI_4 (m : MethodId) (x0 : Addr) (x1 : Int32) : entryFrame m #[(.ref x0), (.int x1)] 4 = mkF m 0 #[.val (.ref x0), .val (.int x1), .unset, .unset] [] := by first | (simp [entryFrame, mkF, argsToLocals, Value.category]; done) | rfl
theorem ef_RIN_3 (m : MethodId) (x0 : Addr) (x1 : Int32) : entryFrame m #[(.ref x0), (.int x1), .null] 3 = mkF m 0 #[.val (.ref x0), .val (.int x1), .val .null] [] := by first | (simp [entryFrame, mkF, argsToLocals, Value.category]; done) | rfl
theorem ef_R_1 (m : MethodId) (x0 : Addr) : entryFrame m #[(.ref x0)] 1 = mkF m 0 #[.val (.ref x0)] [] := by first | (simp [entryFrame, mkF, argsToLocals, Value.category]; done) | rfl
theorem ef_R_3 (m : MethodId) (x0 : Addr) : entryFrame m #[(.ref x0)] 3 = mkF m 0 #[.val (.ref x0), .unset, .unset] [] := by first | (simp [entryFrame, mkF, argsToLocals, Value.category]; done) | rfl
theorem ef_RRI_3 (m : MethodId) (x0 : Addr) (x1 : Addr) (x2 : Int32) : entryFrame m #[(.ref x0), (.ref x1), (.int x2)] 3 = mkF m 0 #[.val (.ref x0), .val (.ref x1), .val (.int x2)] [] := by first | (simp [entryFrame, mkF, argsToLocals, Value.category]; done) | rfl
theorem ef_RRIIRII_9 (m : MethodId) (x0 : Addr) (x1 : Addr) (x2 : Int32) (x3 : Int32) (x4 : Addr) (x5 : Int32) (x6 : Int32) : entryFrame m #[(.ref x0), (.ref x1), (.int x2), (.int x3), (.ref x4), (.int x5), (.int x6)] 9 = mkF m 0 #[.val (.ref x0), .val (.ref x1), .val (.int x2), .val (.int x3), .val (.ref x4), .val (.int x5), .val (.int x6), .unset, .unset] [] := by first | (simp [entryFrame, mkF, argsToLocals, Value.category]; done) | rfl
theorem ef_RIIII_5 (m : MethodId) (x0 : Addr) (x1 : Int32) (x2 : Int32) (x3 : Int32) (x4 : Int32) : entryFrame m #[(.ref x0), (.int x1), (.int x2), (.int x3), (.int x4)] 5 = mkF m 0 #[.val (.ref x0), .val (.int x1), .val (.int x2), .val (.int x3), .val (.int x4)] [] := by first | (simp [entryFrame, mkF, argsToLocals, Value.category]; done) | rfl
theorem ef_IJJJI_17 (m : MethodId) (x0 : Int32) (x1 : Int64) (x2 : Int64) (x3 : Int64) (x4 : Int32) : entryFrame m #[(.int x0), (.long x1), (.long x2), (.long x3), (.int x4)] 17 = mkF m 0 #[.val (.int x0), .val (.long x1), .second, .val (.long x2), .second, .val (.long x3), .second, .val (.int x4), .unset, .unset, .unset, .unset, .unset, .unset, .unset, .unset, .unset] [] := by first | (simp [entryFrame, mkF, argsToLocals, Value.category]; done) | rfl
def Q_cmp5 (Z : State) (n0 : Nat) (b d : Addr) (kb kd : ClassId) (z : Int32) (cs : List Int32) (h0 : Heap) (v : Option Value) (h : Heap) : Prop := v = some (.int z) ∧ Keep h0 h [d] ∧ Arv Z h d kd .byte z (cs.map fun c => Value.int c.toInt8.toInt32) (.int 0)
set_option maxRecDepth 65536 in
set_option maxHeartbeats 40000000 in
theorem ct_cmp5 {l : Launch} {Z : State} {a0 : Array Value} (hw : ∀ d ∈ tables_1, d.before a0 Z = true) (hEL : EW Z a0 EL0) {n0 : Nat} (cds : List Jvm.Cond) (b d : Addr) (kb kd : ClassId) (z : Int32) (cs : List Int32) (h0 : Heap) (hz : z.toInt = cs.length) (hlen : cs.length ≤ 1) (hcs : ∀ c ∈ cs, 0 ≤ c.toInt ∧ c.toInt < 256) (Vb : Arv Z h0 b kb .char z (cs.map Value.int) (.int 0)) (Vd : Arv Z h0 d kd .byte z [] (.int 0)) (n0_d : n0 ≤ d) (hne : b ≠ d) :
    Ct l Z a0 EL0 n0 false false (⟨"java/lang/StringUTF16", "compress", "([CI[BII)I"⟩ : MethodName) jdk_52_method_21_code 7 (Option.some Jvm.ClassFile.FieldType.int) cds ({ frames := 0, cells := 0, slots := 0, locals := 0 } : Room) [d] #[(.ref b), (.int (0 : Int32)), (.ref d), (.int (0 : Int32)), (.int z)] h0 (Q_cmp5 Z n0 b d kb kd z cs h0) := by
  refine Ct.of (plainFor_of_name pn_0) hEL ?_
  intro p e s m below meth c T0 W0 hret hnm hs0
  refine Go.cast (ef_RIRII_7 m b (0 : Int32) d (0 : Int32) z) ?_
  show Go p e below _ T0 (mkF m 0 #[.val (.ref b), .val (.int (0 : Int32)), .val (.ref d), .val (.int (0 : Int32)), .val (.int z), .unset, .unset] [])
  refine s_iconst W0 d5_0 (v := (0 : Int32)) (by decide) (pc' := 1) rfl ?_
  refine s_istore W0 d5_1 (l' := #[.val (.ref b), .val (.int (0 : Int32)), .val (.ref d), .val (.int (0 : Int32)), .val (.int z), .val (.int (0 : Int32)), .unset]) rfl (pc' := 3) rfl ?_
  suffices loop : ∀ (r j : Nat), j + r = cs.length → ∀ (T : State) (h : Heap) (s6 : Slot), One1 s6 → Wk p l e _ s m _ below meth c Z a0 EL0 n0 false false _ _ _ [d] T h 0 0 → Keep h0 h [d] → Arv Z h d kd .byte z ((cs.take j).map fun c => Value.int c.toInt8.toInt32) (.int 0) → Go p e below (Po s Z EL0 n0 false _ _ (Q_cmp5 Z n0 b d kb kd z cs h0)) T (mkF m 3 #[.val (.ref b), .val (.int j.toInt32), .val (.ref d), .val (.int j.toInt32), .val (.int z), .val (.int j.toInt32), s6] []) from
    loop cs.length 0 (Nat.zero_add _) T0 h0 .unset One1.u W0 (Keep.refl _ _) Vd
  intro r
  induction r with
  | zero =>
    intro j hj T1 h1 s6 h6 W1 K1 Vj
    have ej : j.toInt32.toInt = j := n32 (by omega)
    refine s_iload W1 d5_3 rfl (pc' := 5) rfl ?_
    refine s_iload W1 d5_5 rfl (pc' := 7) rfl ?_
    refine s_icmpge W1 d5_7 (by decide) (pc1 := 44) (by decide) (pc2 := 10) rfl ?_ (fun q => absurd q (nlt32 (by omega)))
    intro q7
    refine s_iload W1 d5_44 rfl (pc' := 46) rfl ?_
    exact gRetI W1 hret d5_46 (by decide) (by decide) ⟨rfl, K1, by rw [List.take_of_length_le (by omega)] at Vj; exact Vj⟩
  | succ r ih =>
    intro j hj T1 h1 s6 h6 W1 K1 Vj
    have hjl : j < cs.length := by omega
    have ej : j.toInt32.toInt = j := n32 (by omega)
    have hc := hcs cs[j] (List.getElem_mem hjl)
    have os : storeLocals #[.val (.ref b), .val (.int j.toInt32), .val (.ref d), .val (.int j.toInt32), .val (.int z), .val (.int j.toInt32), s6] 6 (.int cs[j]) = some #[.val (.ref b), .val (.int j.toInt32), .val (.ref d), .val (.int j.toInt32), .val (.int z), .val (.int j.toInt32), .val (.int cs[j])] := by
      rcases h6 with rfl | ⟨w, rfl, hw⟩
      · rfl
      · cases w <;> first | rfl | (simp [Value.category] at hw)
    refine s_iload W1 d5_3 rfl (pc' := 5) rfl ?_
    refine s_iload W1 d5_5 rfl (pc' := 7) rfl ?_
    refine s_icmpge W1 d5_7 (by decide) (pc1 := 44) (by decide) (pc2 := 10) rfl (fun q => absurd q (fun q' => q' (lt32 (by omega)))) ?_
    intro q7
    refine s_aloadN W1 d5_10 rfl rfl (pc' := 11) rfl ?_
    refine s_iloadN W1 d5_11 rfl (pc' := 12) rfl ?_
    have Vb1 := Vb.keep K1 (ninS hne nin0)
    refine gLdC W1 Vb1 ⟨nlt32 (by rw [zero32]; omega), lt32 (by omega)⟩ (v := .int cs[j]) (by rw [n32c (by omega)]; exact getD_map' _ _ _ hjl) d5_12 (pc' := 13) rfl ?_
    refine s_istore W1 d5_13 (l' := #[.val (.ref b), .val (.int j.toInt32), .val (.ref d), .val (.int j.toInt32), .val (.int z), .val (.int j.toInt32), .val (.int cs[j])]) os (pc' := 15) rfl ?_
    refine s_iload W1 d5_15 rfl (pc' := 17) rfl ?_
    refine s_sipush W1 d5_17 (v := (255 : Int32)) (by decide) (pc' := 20) rfl ?_
    refine s_icmple W1 d5_20 (by decide) (pc1 := 26) (by decide) (pc2 := 23) rfl ?_ (fun q => absurd q (nlt32 (by rw [show (255 : Int32).toInt = 255 from by decide]; omega)))
    intro q20
    refine s_aloadN W1 d5_26 rfl rfl (pc' := 27) rfl ?_
    refine s_iloadN W1 d5_27 rfl (pc' := 28) rfl ?_
    refine s_iload W1 d5_28 rfl (pc' := 30) rfl ?_
    refine s_i2b W1 d5_30 (pc' := 31) rfl ?_
    have Vp := Arv.pad Vj (pad_rep _ (.int 0) 1)
    refine gStB W1 n0_d (List.mem_of_getElem? (i := 0) rfl) Vp ⟨nlt32 (by rw [zero32]; omega), lt32 (by omega)⟩ (i := j) (n32c (by omega)) (by simp; omega) d5_31 (pc' := 32) rfl ?_
    intro T2 h2 W2 K2 V2
    refine s_iinc W2 d5_32 (v := (1 : Int32)) (by decide) rfl (l' := #[.val (.ref b), .val (.int (j.toInt32 + (1 : Int32))), .val (.ref d), .val (.int j.toInt32), .val (.int z), .val (.int j.toInt32), .val (.int cs[j])]) rfl (pc' := 35) rfl ?_
    refine s_iinc W2 d5_35 (v := (1 : Int32)) (by decide) rfl (l' := #[.val (.ref b), .val (.int (j.toInt32 + (1 : Int32))), .val (.ref d), .val (.int (j.toInt32 + (1 : Int32))), .val (.int z), .val (.int j.toInt32), .val (.int cs[j])]) rfl (pc' := 38) rfl ?_
    refine s_iinc W2 d5_38 (v := (1 : Int32)) (by decide) rfl (l' := #[.val (.ref b), .val (.int (j.toInt32 + (1 : Int32))), .val (.ref d), .val (.int (j.toInt32 + (1 : Int32))), .val (.int z), .val (.int (j.toInt32 + (1 : Int32))), .val (.int cs[j])]) rfl (pc' := 41) rfl ?_
    refine s_goto W2 d5_41 (by decide) (pc' := 3) (by decide) ?_
    rw [n32s]
    refine ih (j + 1) (by omega) T2 h2 _ (One1.i _) W2 (K1.trans K2 (allS (Or.inl (by simp)) all0)) ?_
    rw [take_succ' _ _ hjl]
    rw [set_last _ _ _ (by simp; omega)] at V2
    have e2 : cs[j].toInt8.toInt32.toInt8.toInt32 = cs[j].toInt8.toInt32 := by simp
    rw [e2] at V2
    exact V2
def Q_cmp3 (Z : State) (n0 : Nat) (b : Addr) (kb : ClassId) (z : Int32) (cs : List Int32) (h0 : Heap) (v : Option Value) (h : Heap) : Prop := ∃ d kd, v = some (.ref d) ∧ Keep h0 h [] ∧ h0.size ≤ d ∧ Arv Z h d kd .byte z (cs.map fun c => Value.int c.toInt8.toInt32) (.int 0)
set_option maxRecDepth 65536 in
set_option maxHeartbeats 40000000 in
theorem ct_cmp3 {l : Launch} {Z : State} {a0 : Array Value} (hw : ∀ d ∈ tables_1, d.before a0 Z = true) (hEL : EW Z a0 EL0) {n0 : Nat} (cds : List Jvm.Cond) (b : Addr) (kb : ClassId) (z : Int32) (cs : List Int32) (h0 : Heap) (hz : z.toInt = cs.length) (hlen : cs.length ≤ 1) (hcs : ∀ c ∈ cs, 0 ≤ c.toInt ∧ c.toInt < 256) (Vb : Arv Z h0 b kb .char z (cs.map Value.int) (.int 0)) :
    Ct l Z a0 EL0 n0 false false (⟨"java/lang/StringUTF16", "compress", "([CII)[B"⟩ : MethodName) jdk_52_method_16_code 6 (Option.some (Jvm.ClassFile.FieldType.array Jvm.ClassFile.FieldType.byte)) cds ({ frames := 1, cells := 1, slots := 1, locals := 18 } : Room) [] #[(.ref b), (.int (0 : Int32)), (.int z)] h0 (Q_cmp3 Z n0 b kb z cs h0) := by
  refine Ct.of (plainFor_of_name pn_0) hEL ?_
  intro p e s m below meth c T0 W0 hret hnm hs0
  refine Go.cast (ef_RII_6 m b (0 : Int32) z) ?_
  show Go p e below _ T0 (mkF m 0 #[.val (.ref b), .val (.int (0 : Int32)), .val (.int z), .unset, .unset, .unset] [])
  have lt_b := natlt Vb.lt
  refine s_iloadN W0 d4_0 rfl (pc' := 1) rfl ?_
  refine gNewP (aty := .byte) W0 (w_21 hw) (ad := "[B") (by decide +kernel) d4_1 (pc' := 3) rfl (nlt32 (by rw [zero32]; omega)) (cap := 1) (by show z.toInt.toNat ≤ _; omega) (by decide) (by decide) (by decide) ?_
  intro T1 h1 b1 g1 W1 E1 ⟨k1, V1, A1⟩
  have z1 : h0.size ≤ h1.size := E1.1
  have lt_b1 := natlt A1.lt
  have gg1 := nateq g1
  have n0_b1 : n0 ≤ b1 := by have := W0.n0le; omega
  have Vp1 : Arv Z h1 b1 k1 .byte z [] (.int (0 : Int32)) := V1
  refine s_astoreN W1 d4_3 rfl (l' := #[.val (.ref b), .val (.int (0 : Int32)), .val (.int z), .val (.ref b1), .unset, .unset]) rfl (pc' := 4) rfl ?_
  refine s_aloadN W1 d4_4 rfl rfl (pc' := 5) rfl ?_
  refine s_iloadN W1 d4_5 rfl (pc' := 6) rfl ?_
  refine s_aloadN W1 d4_6 rfl rfl (pc' := 7) rfl ?_
  refine s_iconst W1 d4_7 (v := (0 : Int32)) (by decide) (pc' := 8) rfl ?_
  refine s_iloadN W1 d4_8 rfl (pc' := 9) rfl ?_
  have fx2 := (Vb.ext E1)
  refine gStatic W1 (w_22 hw) (w_23 hw) (w_19 hw) (w_24 hw) (by decide) pd_0 (ct_cmp5 hw hEL [] b b1 kb k1 z cs h1 hz hlen hcs fx2 Vp1 n0_b1 (ane (by omega))) (by simp) d4_9 (pc' := 12) rfl rfl (argsL := [(.ref b), (.int (0 : Int32)), (.ref b1), (.int (0 : Int32)), (.int z)]) rfl rfl (rest := []) rfl (wt := 0) (Nat.le_of_eq rfl) (by decide) (by decide) (by decide) (by decide) ?_
  rintro v3 T3 h3 W3 z3 ⟨rfl, K, V⟩
  show Go p e below _ T3 (mkF m 12 #[.val (.ref b), .val (.int (0 : Int32)), .val (.int z), .val (.ref b1), .unset, .unset] [(.int z)])
  refine s_istore W3 d4_12 (l' := #[.val (.ref b), .val (.int (0 : Int32)), .val (.int z), .val (.ref b1), .val (.int z), .unset]) rfl (pc' := 14) rfl ?_
  refine s_iload W3 d4_14 rfl (pc' := 16) rfl ?_
  refine s_iloadN W3 d4_16 rfl (pc' := 17) rfl ?_
  refine s_icmpeq W3 d4_17 (by decide) (pc1 := 57) (by decide) (pc2 := 20) rfl ?_ (fun q => (q rfl).elim)
  intro q17
  refine s_aloadN W3 d4_57 rfl rfl (pc' := 58) rfl ?_
  exact gRetA W3 hret rfl rfl d4_58 (by decide) (by decide) ⟨_, _, rfl, (((Keep.refl h0 []).ext E1).trans K (allS (Or.inr (natle (by omega))) all0)), by omega, V⟩
def Q_coder (Z : State) (n0 : Nat) (d : Addr) (kd : ClassId) (z zz : Int32) (vs : List Value) (h0 : Heap) (v : Option Value) (h : Heap) : Prop := v = some (.int (nar .byte (((z - zz).toUInt32 >>> ((31 : Int32) &&& 31).toUInt32).toInt32.toInt8.toInt32))) ∧ h0 = h
set_option maxRecDepth 65536 in
set_option maxHeartbeats 40000000 in
theorem ct_coder {l : Launch} {Z : State} {a0 : Array Value} (hw : ∀ d ∈ tables_1, d.before a0 Z = true) (hEL : EW Z a0 EL0) {n0 : Nat} (cds : List Jvm.Cond) (d : Addr) (kd : ClassId) (z zz : Int32) (vs : List Value) (h0 : Heap) (Vd : Arv Z h0 d kd .byte zz vs (.int 0)) :
    Ct l Z a0 EL0 n0 false false (⟨"java/lang/StringUTF16", "coderFromArrayLen", "([BI)B"⟩ : MethodName) jdk_52_method_15_code 2 (Option.some Jvm.ClassFile.FieldType.byte) cds ({ frames := 0, cells := 0, slots := 0, locals := 0 } : Room) [] #[(.ref d), (.int z)] h0 (Q_coder Z n0 d kd z zz vs h0) := by
  refine Ct.of (plainFor_of_name pn_0) hEL ?_
  intro p e s m below meth c T0 W0 hret hnm hs0
  refine Go.cast (ef_RI_2 m d z) ?_
  show Go p e below _ T0 (mkF m 0 #[.val (.ref d), .val (.int z)] [])
  refine s_iloadN W0 d6_0 rfl (pc' := 1) rfl ?_
  refine s_aloadN W0 d6_1 rfl rfl (pc' := 2) rfl ?_
  refine gLen W0 Vd d6_2 (pc' := 3) rfl ?_
  refine s_isub W0 d6_3 (pc' := 4) rfl ?_
  refine s_bipush W0 d6_4 (v := (31 : Int32)) (by decide) (pc' := 6) rfl ?_
  refine s_iushr W0 d6_6 (pc' := 7) rfl ?_
  refine s_i2b W0 d6_7 (pc' := 8) rfl ?_
  exact gRetN W0 hret (by simp) d6_8 (by decide) (by decide) ⟨rfl, rfl⟩
def Q_str4 (Z : State) (n0 : Nat) (a b : Addr) (kb : ClassId) (z ccs : Int32) (cs : List Int32) (h0 : Heap) (v : Option Value) (h : Heap) : Prop := v = none ∧ Keep h0 h [a] ∧ ∃ d kd, Str Z h a d kd 0 z (cs.map fun c => Value.int c.toInt8.toInt32) ∧ (cs ≠ [] → h0.size ≤ d)
set_option maxRecDepth 65536 in
set_option maxHeartbeats 40000000 in
theorem ct_str4 {l : Launch} {Z : State} {a0 : Array Value} (hw : ∀ d ∈ tables_1, d.before a0 Z = true) (hEL : EW Z a0 EL0) {n0 : Nat} (cds : List Jvm.Cond) (a b : Addr) (kb : ClassId) (z ccs : Int32) (cs : List Int32) (h0 : Heap) (hz : z.toInt = cs.length) (hlen : cs.length ≤ 1) (hcs : ∀ c ∈ cs, 0 ≤ c.toInt ∧ c.toInt < 256) (Vb : Arv Z h0 b kb .char z (cs.map Value.int) (.int 0)) (Ea : Exa Z h0 a "java/lang/String") (Fv : Fld Z h0 a "java/lang/String" "value" "[B" .null) (Fc : Fld Z h0 a "java/lang/String" "coder" "B" (.int 0)) (n0_a : n0 ≤ a) (SCS : Sta Z Z.heap "java/lang/String" "COMPACT_STRINGS" "Z" (.int ccs)) (hccs : ¬ ccs = 0) (hne0 : cs ≠ []) :
    Ct l Z a0 EL0 n0 false false (⟨"java/lang/String", "<init>", "([CIILjava/lang/Void;)V"⟩ : MethodName) jdk_42_method_149_code 6 (Option.none : Option Jvm.ClassFile.FieldType) cds ({ frames := 2, cells := 1, slots := 1, locals := 35 } : Room) [a] #[(.ref a), (.ref b), (.int (0 : Int32)), (.int z), .null] h0 (Q_str4 Z n0 a b kb z ccs cs h0) := by
  refine Ct.of (plainFor_of_name pn_1) hEL ?_
  intro p e s m below meth c T0 W0 hret hnm hs0
  refine Go.cast (ef_RRIIN_6 m a b (0 : Int32) z) ?_
  show Go p e below _ T0 (mkF m 0 #[.val (.ref a), .val (.ref b), .val (.int (0 : Int32)), .val (.int z), .val .null, .unset] [])
  have lt_a := natlt Ea.lt
  have lt_b := natlt Vb.lt
  have hz0 : ¬ z = 0 := fun q => hne0 (List.eq_nil_of_length_eq_zero (by rw [q, zero32] at hz; omega))
  refine s_aloadN W0 d2_0 rfl rfl (pc' := 1) rfl ?_
  refine gInitO W0 (w_13 hw) (w_14 hw) (w_15 hw) d2_1 (pc' := 4) rfl rfl (by decide) (wt := 0) (Nat.le_of_eq rfl) (by decide) ?_
  intro T1 W1
  refine s_iloadN W1 d2_4 rfl (pc' := 5) rfl ?_
  refine s_ifne W1 d2_5 (by decide) (pc1 := 27) (by decide) (pc2 := 8) rfl ?_ (fun q => absurd q hz0)
  intro q5
  refine gGetS W1 (host := "") (Or.inl (w_16 hw)) Via.refl (SCS.ext W1.old.2) d2_27 (pc' := 30) rfl ?_
  intro T2 W2
  refine s_ifeq W2 d2_30 (by decide) (pc1 := 58) (by decide) (pc2 := 33) rfl (fun q => absurd q hccs) ?_
  intro q30
  refine s_aloadN W2 d2_33 rfl rfl (pc' := 34) rfl ?_
  refine s_iloadN W2 d2_34 rfl (pc' := 35) rfl ?_
  refine s_iloadN W2 d2_35 rfl (pc' := 36) rfl ?_
  refine gStatic W2 (w_17 hw) (w_18 hw) (w_19 hw) (w_20 hw) (by decide) pd_1 (ct_cmp3 hw hEL [] b kb z cs h0 hz hlen hcs Vb) (by simp) d2_36 (pc' := 39) rfl rfl (argsL := [(.ref b), (.int (0 : Int32)), (.int z)]) rfl rfl (rest := []) rfl (wt := 0) (Nat.le_of_eq rfl) (by decide) (by decide) (by decide) (by decide) ?_
  rintro v3 T3 h3 W3 z3 ⟨d, kd, rfl, K3, g3, V3⟩
  have lt_d := natlt V3.lt
  show Go p e below _ T3 (mkF m 39 #[.val (.ref a), .val (.ref b), .val (.int (0 : Int32)), .val (.int z), .val .null, .unset] [(.ref d)])
  refine s_astore W3 d2_39 rfl (l' := #[.val (.ref a), .val (.ref b), .val (.int (0 : Int32)), .val (.int z), .val .null, .val (.ref d)]) rfl (pc' := 41) rfl ?_
  refine s_aloadN W3 d2_41 rfl rfl (pc' := 42) rfl ?_
  refine s_aload W3 d2_42 rfl rfl (pc' := 44) rfl ?_
  refine s_iloadN W3 d2_44 rfl (pc' := 45) rfl ?_
  refine gStatic W3 (w_25 hw) (w_26 hw) (w_19 hw) (w_27 hw) (by decide) pd_2 (ct_coder hw hEL [] d kd z z (cs.map fun c => Value.int c.toInt8.toInt32) h3 V3) (by simp) d2_45 (pc' := 48) rfl rfl (argsL := [(.ref d), (.int z)]) rfl rfl (rest := [(.ref a)]) rfl (wt := 1) (Nat.le_of_eq rfl) (by decide) (by decide) (by decide) (by decide) ?_
  rintro v4 T4 h4 W4 z4 ⟨rfl, rfl⟩
  have ec : (nar .byte (((z - z).toUInt32 >>> ((31 : Int32) &&& 31).toUInt32).toInt32.toInt8.toInt32)) = 0 := by rw [Int32.sub_self]; decide
  rw [ec]
  show Go p e below _ T4 (mkF m 48 #[.val (.ref a), .val (.ref b), .val (.int (0 : Int32)), .val (.int z), .val .null, .val (.ref d)] [(.int (0 : Int32)), (.ref a)])
  have fx6 := (Fc.keep K3 nin0)
  have fx7 := (Ea.keep K3)
  refine gPutFN W4 n0_a (Or.inr (Or.inl rfl)) (w_28 hw) Via.refl fx6 fx7 (Or.inr ⟨(w_29 hw), rfl, hnm⟩) (w_3 hw) (ty := .byte) (v' := (.int (0 : Int32))) (by decide) (by decide) (by decide) d2_48 (pc' := 51) rfl ?_
  intro T5 h5 W5 Wr5
  have Fw5 := fx6.same Wr5
  have z5 : h3.size ≤ h5.size := Nat.le_of_eq Wr5.size.symm
  refine s_aloadN W5 d2_51 rfl rfl (pc' := 52) rfl ?_
  refine s_aload W5 d2_52 rfl rfl (pc' := 54) rfl ?_
  have fx9 := ((Fv.keep K3 nin0).other Wr5 (Or.inr (slot_ne (Or.inr (w_31 hw)) (Or.inr (w_29 hw)) (by decide) (t := (.array .byte)) (t' := .byte) (by decide) (by decide))))
  have fx10 := (fx7.wr Wr5)
  refine gPutF W5 n0_a (Or.inr (Or.inl rfl)) (host := "") (Or.inl (w_30 hw)) Via.refl fx9 fx10 (Or.inr ⟨(w_31 hw), rfl, hnm⟩) (w_3 hw) (ty := (.array .byte)) (by decide) rfl rfl d2_54 (pc' := 57) rfl ?_
  intro T8 h8 W8 Wr8
  have Fw8 := fx9.same Wr8
  have z8 : h5.size ≤ h8.size := Nat.le_of_eq Wr8.size.symm
  have fx11 := (fx10.wr Wr8)
  have fx12 := (Fw5.other Wr8 (Or.inr (slot_ne (Or.inr (w_29 hw)) (Or.inr (w_31 hw)) (by decide) (t := .byte) (t' := (.array .byte)) (by decide) (by decide))))
  have fx13 := ((V3.other Wr5 (ane (by omega))).other Wr8 (ane (by omega)))
  exact gRetV W8 hret d2_57 (by decide) (by decide) ⟨rfl, ((((Keep.refl h0 [a]).trans K3 all0).wr Wr5 (Or.inl (by simp))).wr Wr8 (Or.inl (by simp))), d, kd, ⟨fx11, Fw8, fx12, fx13⟩, fun _ => by omega⟩
def Q_str1 (Z : State) (n0 : Nat) (a b : Addr) (kb : ClassId) (z ccs : Int32) (cs : List Int32) (h0 : Heap) (v : Option Value) (h : Heap) : Prop := v = none ∧ Keep h0 h [a] ∧ ∃ d kd, Str Z h a d kd 0 z (cs.map fun c => Value.int c.toInt8.toInt32) ∧ (cs ≠ [] → h0.size ≤ d)
set_option maxRecDepth 65536 in
set_option maxHeartbeats 40000000 in
theorem ct_str1 {l : Launch} {Z : State} {a0 : Array Value} (hw : ∀ d ∈ tables_1, d.before a0 Z = true) (hEL : EW Z a0 EL0) {n0 : Nat} (cds : List Jvm.Cond) (a b : Addr) (kb : ClassId) (z ccs : Int32) (cs : List Int32) (h0 : Heap) (hz : z.toInt = cs.length) (hlen : cs.length ≤ 1) (hcs : ∀ c ∈ cs, 0 ≤ c.toInt ∧ c.toInt < 256) (Vb : Arv Z h0 b kb .char z (cs.map Value.int) (.int 0)) (Ea : Exa Z h0 a "java/lang/String") (Fv : Fld Z h0 a "java/lang/String" "value" "[B" .null) (Fc : Fld Z h0 a "java/lang/String" "coder" "B" (.int 0)) (n0_a : n0 ≤ a) (SCS : Sta Z Z.heap "java/lang/String" "COMPACT_STRINGS" "Z" (.int ccs)) (hccs : ¬ ccs = 0) (hne0 : cs ≠ []) :
    Ct l Z a0 EL0 n0 false false (⟨"java/lang/String", "<init>", "([C)V"⟩ : MethodName) jdk_42_method_3_code 2 (Option.none : Option Jvm.ClassFile.FieldType) cds ({ frames := 3, cells := 1, slots := 1, locals := 52 } : Room) [a] #[(.ref a), (.ref b)] h0 (Q_str1 Z n0 a b kb z ccs cs h0) := by
  refine Ct.of (plainFor_of_name pn_1) hEL ?_
  intro p e s m below meth c T0 W0 hret hnm hs0
  refine Go.cast (ef_RR_2 m a b) ?_
  show Go p e below _ T0 (mkF m 0 #[.val (.ref a), .val (.ref b)] [])
  refine s_aloadN W0 d1_0 rfl rfl (pc' := 1) rfl ?_
  refine s_aloadN W0 d1_1 rfl rfl (pc' := 2) rfl ?_
  refine s_iconst W0 d1_2 (v := (0 : Int32)) (by decide) (pc' := 3) rfl ?_
  refine s_aloadN W0 d1_3 rfl rfl (pc' := 4) rfl ?_
  refine gLen W0 Vb d1_4 (pc' := 5) rfl ?_
  refine s_aconst_null W0 d1_5 (pc' := 6) rfl ?_
  refine gSpecial W0 rfl (w_9 hw) (w_10 hw) (w_4 hw) (w_12 hw) (by decide) pd_3 (ct_str4 hw hEL [] a b kb z ccs cs h0 hz hlen hcs Vb Ea Fv Fc n0_a SCS hccs hne0) (fun x hx => hx) d1_6 (pc' := 9) rfl rfl (argsL := [(.ref b), (.int (0 : Int32)), (.int z), .null]) rfl rfl (rest := []) rfl (wt := 0) (Nat.le_of_eq rfl) (by decide) (by decide) (by decide) (by decide) ?_
  rintro v1 T1 h1 W1 z1 ⟨rfl, K, S⟩
  show Go p e below _ T1 (mkF m 9 #[.val (.ref a), .val (.ref b)] [])
  exact gRetV W1 hret d1_9 (by decide) (by decide) ⟨rfl, K, S⟩
/-- a DeadlineHeap without a tracker and without sequences, its three arrays -/
def HF (Z : State) (h : Heap) (a dA hA eA : Addr) : Prop := Exa Z h a "com/example/ripen/ripen/DeadlineHeap" ∧ Fld Z h a "com/example/ripen/ripen/DeadlineHeap" "deadlines" "[J" (.ref dA) ∧ Fld Z h a "com/example/ripen/ripen/DeadlineHeap" "handles" "[I" (.ref hA) ∧ Fld Z h a "com/example/ripen/ripen/DeadlineHeap" "elements" "[Ljava/lang/Object;" (.ref eA) ∧ Fld Z h a "com/example/ripen/ripen/DeadlineHeap" "tracker" "Lcom/example/ripen/ripen/DeadlineHeap$SlotTracker;" .null ∧ Fld Z h a "com/example/ripen/ripen/DeadlineHeap" "sequences" "[J" .null
theorem HF.keep {Z : State} {h h' : Heap} {a dA hA eA : Addr} {ws : List Addr} (X : HF Z h a dA hA eA) (K : Keep h h' ws) (q : a ∉ ws) : HF Z h' a dA hA eA := ⟨X.1.keep K, X.2.1.keep K q, X.2.2.1.keep K q, X.2.2.2.1.keep K q, X.2.2.2.2.1.keep K q, X.2.2.2.2.2.keep K q⟩
theorem HF.ext {Z : State} {h h' : Heap} {a dA hA eA : Addr} (X : HF Z h a dA hA eA) (E : Ext h h') : HF Z h' a dA hA eA := ⟨X.1.ext E, X.2.1.ext E, X.2.2.1.ext E, X.2.2.2.1.ext E, X.2.2.2.2.1.ext E, X.2.2.2.2.2.ext E⟩
def DN (a dA hA eA : Addr) : Prop := a ≠ dA ∧ a ≠ hA ∧ a ≠ eA ∧ dA ≠ hA ∧ dA ≠ eA ∧ hA ≠ eA
theorem idx16 {i : Int32} {j : Nat} (hi : i.toInt = j) (hj : j < 16) : (¬ i < 0 ∧ i < (16 : Int32)) ∧ i.toNatClampNeg = j := by
  have e : (16 : Int32).toInt = 16 := by decide
  refine ⟨⟨nlt32 (by rw [zero32]; omega), lt32 (by rw [e]; omega)⟩, ?_⟩
  show i.toInt.toNat = j
  omega
theorem one_if {c : Prop} [Decidable c] (q : ¬ (if c then (1 : Int32) else 0) = 0) : c := Classical.byContradiction fun r => q (if_neg r)
theorem nil_if {c : Prop} [Decidable c] (q : (if c then (1 : Int32) else 0) = 0) : ¬ c := fun r => by rw [if_pos r] at q; exact absurd q (by decide)
def Q_bef (Z : State) (n0 : Nat) (x y : Int64) (h0 : Heap) (v : Option Value) (h : Heap) : Prop := v = some (.int (if x < y then 1 else 0)) ∧ h0 = h
set_option maxRecDepth 65536 in
set_option maxHeartbeats 40000000 in
theorem ct_bef {l : Launch} {Z : State} {a0 : Array Value} (hw : ∀ d ∈ tables_1, d.before a0 Z = true) (hEL : EW Z a0 EL0) {n0 : Nat} (cds : List Jvm.Cond) (x y : Int64) (h0 : Heap)  :
    Ct l Z a0 EL0 n0 false false (⟨"com/example/ripen/ripen/DeadlineHeap", "before", "(JJJJ)Z"⟩ : MethodName) prog_1_method_16_code 8 (Option.some Jvm.ClassFile.FieldType.boolean) cds ({ frames := 0, cells := 0, slots := 0, locals := 0 } : Room) [] #[(.long x), (.long (0 : Int64)), (.long y), (.long (0 : Int64))] h0 (Q_bef Z n0 x y h0) := by
  refine Ct.of (plainFor_of_name pn_2) hEL ?_
  intro p e s m below meth c T0 W0 hret hnm hs0
  refine Go.cast (ef_JJJJ_8 m x (0 : Int64) y (0 : Int64)) ?_
  show Go p e below _ T0 (mkF m 0 #[.val (.long x), .second, .val (.long (0 : Int64)), .second, .val (.long y), .second, .val (.long (0 : Int64)), .second] [])
  refine s_lloadN W0 d19_0 rfl (pc' := 1) rfl ?_
  refine s_lload W0 d19_1 rfl (pc' := 3) rfl ?_
  refine s_lcmp W0 d19_3 (pc' := 4) rfl ?_
  refine s_iflt W0 d19_4 (by decide) (pc1 := 21) (by decide) (pc2 := 7) rfl ?_ ?_
  · intro q4
    refine s_iconst W0 d19_21 (v := (1 : Int32)) (by decide) (pc' := 22) rfl ?_
    refine s_goto W0 d19_22 (by decide) (pc' := 26) (by decide) ?_
    exact gRetN W0 hret (by simp) d19_26 (by decide) (by decide) ⟨by rw [if_pos ((lw_lt _ _).mp q4)]; rfl, rfl⟩
  · intro q4
    refine s_lloadN W0 d19_7 rfl (pc' := 8) rfl ?_
    refine s_lload W0 d19_8 rfl (pc' := 10) rfl ?_
    refine s_lcmp W0 d19_10 (pc' := 11) rfl ?_
    refine s_ifne W0 d19_11 (by decide) (pc1 := 25) (by decide) (pc2 := 14) rfl ?_ ?_
    · intro q11
      refine s_iconst W0 d19_25 (v := (0 : Int32)) (by decide) (pc' := 26) rfl ?_
      exact gRetN W0 hret (by simp) d19_26 (by decide) (by decide) ⟨by rw [if_neg (fun r => q4 ((lw_lt _ _).mpr r))]; rfl, rfl⟩
    · intro q11
      refine s_lloadN W0 d19_14 rfl (pc' := 15) rfl ?_
      refine s_lload W0 d19_15 rfl (pc' := 17) rfl ?_
      refine s_lcmp W0 d19_17 (pc' := 18) rfl ?_
      refine s_ifge W0 d19_18 (by decide) (pc1 := 25) (by decide) (pc2 := 21) rfl ?_ (fun q => absurd q (by decide))
      intro q18
      refine s_iconst W0 d19_25 (v := (0 : Int32)) (by decide) (pc' := 26) rfl ?_
      exact gRetN W0 hret (by simp) d19_26 (by decide) (by decide) ⟨by rw [if_neg (fun r => q4 ((lw_lt _ _).mpr r))]; rfl, rfl⟩
def Q_sqa (Z : State) (n0 : Nat) (a dA hA eA : Addr) (i : Int32) (h0 : Heap) (v : Option Value) (h : Heap) : Prop := v = some (.long (0 : Int64)) ∧ h0 = h
set_option maxRecDepth 65536 in
set_option maxHeartbeats 40000000 in
theorem ct_sqa {l : Launch} {Z : State} {a0 : Array Value} (hw : ∀ d ∈ tables_1, d.before a0 Z = true) (hEL : EW Z a0 EL0) {n0 : Nat} (cds : List Jvm.Cond) (a dA hA eA : Addr) (i : Int32) (h0 : Heap) (X : HF Z h0 a dA hA eA) :
    Ct l Z a0 EL0 n0 false false (⟨"com/example/ripen/ripen/DeadlineHeap", "sequenceAt", "(I)J"⟩ : MethodName) prog_1_method_19_code 2 (Option.some Jvm.ClassFile.FieldType.long) cds ({ frames := 0, cells := 0, slots := 0, locals := 0 } : Room) [] #[(.ref a), (.int i)] h0 (Q_sqa Z n0 a dA hA eA i h0) := by
  refine Ct.of (plainFor_of_name pn_2) hEL ?_
  intro p e s m below meth c T0 W0 hret hnm hs0
  refine Go.cast (ef_RI_2 m a i) ?_
  show Go p e below _ T0 (mkF m 0 #[.val (.ref a), .val (.int i)] [])
  obtain ⟨Ea, Fd, Fh, Fe, Ft, Fs⟩ := id X
  have lt_a := natlt Ea.lt
  refine s_aloadN W0 d18_0 rfl rfl (pc' := 1) rfl ?_
  refine gGetF W0 (host := "") (Or.inl (w_69 hw)) Via.refl Fs d18_1 (pc' := 4) rfl ?_
  intro T1 W1
  refine s_ifnonnull W1 d18_4 rfl (by decide) (pc1 := 11) (by decide) (pc2 := 7) rfl (fun q => (q rfl).elim) ?_
  intro q4
  refine s_lconst W1 d18_7 (v := (0 : Int64)) (by decide) (pc' := 8) rfl ?_
  refine s_goto W1 d18_8 (by decide) (pc' := 17) (by decide) ?_
  exact gRetJ W1 hret d18_17 (by decide) (by decide) ⟨rfl, rfl⟩
def Q_rpl (Z : State) (n0 : Nat) (a dA hA eA : Addr) (i : Int32) (h0 : Heap) (v : Option Value) (h : Heap) : Prop := v = none ∧ h0 = h
set_option maxRecDepth 65536 in
set_option maxHeartbeats 40000000 in
theorem ct_rpl {l : Launch} {Z : State} {a0 : Array Value} (hw : ∀ d ∈ tables_1, d.before a0 Z = true) (hEL : EW Z a0 EL0) {n0 : Nat} (cds : List Jvm.Cond) (a dA hA eA : Addr) (i : Int32) (h0 : Heap) (X : HF Z h0 a dA hA eA) :
    Ct l Z a0 EL0 n0 false false (⟨"com/example/ripen/ripen/DeadlineHeap", "reportPlaced", "(I)V"⟩ : MethodName) prog_1_method_22_code 2 (Option.none : Option Jvm.ClassFile.FieldType) cds ({ frames := 0, cells := 0, slots := 0, locals := 0 } : Room) [] #[(.ref a), (.int i)] h0 (Q_rpl Z n0 a dA hA eA i h0) := by
  refine Ct.of (plainFor_of_name pn_2) hEL ?_
  intro p e s m below meth c T0 W0 hret hnm hs0
  refine Go.cast (ef_RI_2 m a i) ?_
  show Go p e below _ T0 (mkF m 0 #[.val (.ref a), .val (.int i)] [])
  obtain ⟨Ea, Fd, Fh, Fe, Ft, Fs⟩ := id X
  have lt_a := natlt Ea.lt
  refine s_aloadN W0 d17_0 rfl rfl (pc' := 1) rfl ?_
  refine gGetF W0 (host := "") (Or.inl (w_67 hw)) Via.refl Ft d17_1 (pc' := 4) rfl ?_
  intro T1 W1
  refine s_ifnull W1 d17_4 rfl (by decide) (pc1 := 22) (by decide) (pc2 := 7) rfl ?_ (fun q => (q rfl).elim)
  intro q4
  exact gRetV W1 hret d17_22 (by decide) (by decide) ⟨rfl, rfl⟩
def Q_rlf (Z : State) (n0 : Nat) (a dA hA eA : Addr) (y : Addr) (h0 : Heap) (v : Option Value) (h : Heap) : Prop := v = none ∧ h0 = h
set_option maxRecDepth 65536 in
set_option maxHeartbeats 40000000 in
theorem ct_rlf {l : Launch} {Z : State} {a0 : Array Value} (hw : ∀ d ∈ tables_1, d.before a0 Z = true) (hEL : EW Z a0 EL0) {n0 : Nat} (cds : List Jvm.Cond) (a dA hA eA : Addr) (y : Addr) (h0 : Heap) (X : HF Z h0 a dA hA eA) :
    Ct l Z a0 EL0 n0 false false (⟨"com/example/ripen/ripen/DeadlineHeap", "reportLeft", "(Ljava/lang/Object;)V"⟩ : MethodName) prog_1_method_23_code 2 (Option.none : Option Jvm.ClassFile.FieldType) cds ({ frames := 0, cells := 0, slots := 0, locals := 0 } : Room) [] #[(.ref a), (.ref y)] h0 (Q_rlf Z n0 a dA hA eA y h0) := by
  refine Ct.of (plainFor_of_name pn_2) hEL ?_
  intro p e s m below meth c T0 W0 hret hnm hs0
  refine Go.cast (ef_RR_2 m a y) ?_
  show Go p e below _ T0 (mkF m 0 #[.val (.ref a), .val (.ref y)] [])
  obtain ⟨Ea, Fd, Fh, Fe, Ft, Fs⟩ := id X
  have lt_a := natlt Ea.lt
  refine s_aloadN W0 d23_0 rfl rfl (pc' := 1) rfl ?_
  refine gGetF W0 (host := "") (Or.inl (w_67 hw)) Via.refl Ft d23_1 (pc' := 4) rfl ?_
  intro T1 W1
  refine s_ifnull W1 d23_4 rfl (by decide) (pc1 := 18) (by decide) (pc2 := 7) rfl ?_ (fun q => (q rfl).elim)
  intro q4
  exact gRetV W1 hret d23_18 (by decide) (by decide) ⟨rfl, rfl⟩
def Q_ela (Z : State) (n0 : Nat) (a dA hA eA : Addr) (kh ke : ClassId) (i ti : Int32) (j t : Nat) (hs es : List Value) (u : Value) (h0 : Heap) (v : Option Value) (h : Heap) : Prop := v = some u ∧ h0 = h
set_option maxRecDepth 65536 in
set_option maxHeartbeats 40000000 in
theorem ct_ela {l : Launch} {Z : State} {a0 : Array Value} (hw : ∀ d ∈ tables_1, d.before a0 Z = true) (hEL : EW Z a0 EL0) {n0 : Nat} (cds : List Jvm.Cond) (a dA hA eA : Addr) (kh ke : ClassId) (i ti : Int32) (j t : Nat) (hs es : List Value) (u : Value) (h0 : Heap) (X : HF Z h0 a dA hA eA) (Vh : Arv Z h0 hA kh .int 16 hs (.int 0)) (Ve : Arv Z h0 eA ke (.object "java/lang/Object") 16 es .null) (hi : i.toInt = j) (hj : j < 16) (hh : hs.getD j (.int 0) = .int ti) (ht : ti.toInt = t) (ht2 : t < 16) (he : es.getD t .null = u) (hu : u.isRef = true) :
    Ct l Z a0 EL0 n0 false false (⟨"com/example/ripen/ripen/DeadlineHeap", "elementAt", "(I)Ljava/lang/Object;"⟩ : MethodName) prog_1_method_6_code 2 (Option.some (Jvm.ClassFile.FieldType.object "java/lang/Object")) cds ({ frames := 0, cells := 0, slots := 0, locals := 0 } : Room) [] #[(.ref a), (.int i)] h0 (Q_ela Z n0 a dA hA eA kh ke i ti j t hs es u h0) := by
  refine Ct.of (plainFor_of_name pn_2) hEL ?_
  intro p e s m below meth c T0 W0 hret hnm hs0
  refine Go.cast (ef_RI_2 m a i) ?_
  show Go p e below _ T0 (mkF m 0 #[.val (.ref a), .val (.int i)] [])
  obtain ⟨Ea, Fd, Fh, Fe, Ft, Fs⟩ := id X
  have lt_a := natlt Ea.lt
  have lt_hA := natlt Vh.lt
  have lt_eA := natlt Ve.lt
  refine s_aloadN W0 d22_0 rfl rfl (pc' := 1) rfl ?_
  refine gGetF W0 (host := "") (Or.inl (w_65 hw)) Via.refl Fe d22_1 (pc' := 4) rfl ?_
  intro T1 W1
  refine s_aloadN W1 d22_4 rfl rfl (pc' := 5) rfl ?_
  refine gGetF W1 (host := "") (Or.inl (w_62 hw)) Via.refl Fh d22_5 (pc' := 8) rfl ?_
  intro T2 W2
  refine s_iloadN W2 d22_8 rfl (pc' := 9) rfl ?_
  refine gLdI W2 Vh (idx16 hi hj).1 (v := (.int ti)) (by rw [(idx16 hi hj).2]; exact hh) d22_9 (pc' := 10) rfl ?_
  refine gLdA W2 Ve rfl (idx16 ht ht2).1 (v := u) (by rw [(idx16 ht ht2).2]; exact he) d22_10 (pc' := 11) rfl ?_
  exact gRetA W2 hret rfl hu d22_11 (by decide) (by decide) ⟨rfl, rfl⟩
def Q_plc (Z : State) (n0 : Nat) (a dA hA eA : Addr) (kd kh : ClassId) (i t : Int32) (x : Int64) (j : Nat) (ds hs : List Value) (h0 : Heap) (v : Option Value) (h : Heap) : Prop := v = none ∧ Keep h0 h [dA, hA] ∧ Arv Z h dA kd .long 16 (ds.set j (.long x)) (.long 0) ∧ Arv Z h hA kh .int 16 (hs.set j (.int t)) (.int 0)
set_option maxRecDepth 65536 in
set_option maxHeartbeats 40000000 in
theorem ct_plc {l : Launch} {Z : State} {a0 : Array Value} (hw : ∀ d ∈ tables_1, d.before a0 Z = true) (hEL : EW Z a0 EL0) {n0 : Nat} (cds : List Jvm.Cond) (a dA hA eA : Addr) (kd kh : ClassId) (i t : Int32) (x : Int64) (j : Nat) (ds hs : List Value) (h0 : Heap) (X : HF Z h0 a dA hA eA) (N : DN a dA hA eA) (n0_dA : n0 ≤ dA) (n0_hA : n0 ≤ hA) (Vd : Arv Z h0 dA kd .long 16 ds (.long 0)) (Vh : Arv Z h0 hA kh .int 16 hs (.int 0)) (hi : i.toInt = j) (hj : j < 16) (ld : ds.length = 16) (lh : hs.length = 16) :
    Ct l Z a0 EL0 n0 false false (⟨"com/example/ripen/ripen/DeadlineHeap", "place", "(IJJI)V"⟩ : MethodName) prog_1_method_20_code 7 (Option.none : Option Jvm.ClassFile.FieldType) cds ({ frames := 1, cells := 0, slots := 0, locals := 13 } : Room) [] #[(.ref a), (.int i), (.long x), (.long (0 : Int64)), (.int t)] h0 (Q_plc Z n0 a dA hA eA kd kh i t x j ds hs h0) := by
  refine Ct.of (plainFor_of_name pn_2) hEL ?_
  intro p e s m below meth c T0 W0 hret hnm hs0
  refine Go.cast (ef_RIJJI_7 m a i x (0 : Int64) t) ?_
  show Go p e below _ T0 (mkF m 0 #[.val (.ref a), .val (.int i), .val (.long x), .second, .val (.long (0 : Int64)), .second, .val (.int t)] [])
  obtain ⟨Ea, Fd, Fh, Fe, Ft, Fs⟩ := id X
  have lt_a := natlt Ea.lt
  obtain ⟨ad, ah, ae, dh, de, he⟩ := id N
  have lt_dA := natlt Vd.lt
  have lt_hA := natlt Vh.lt
  refine s_aloadN W0 d16_0 rfl rfl (pc' := 1) rfl ?_
  refine gGetF W0 (host := "") (Or.inl (w_44 hw)) Via.refl Fd d16_1 (pc' := 4) rfl ?_
  intro T1 W1
  refine s_iloadN W1 d16_4 rfl (pc' := 5) rfl ?_
  refine s_lloadN W1 d16_5 rfl (pc' := 6) rfl ?_
  refine gStJ W1 n0_dA Vd (idx16 hi hj).1 (i := j) (idx16 hi hj).2 (by rw [ld]; exact hj) d16_6 (pc' := 7) rfl ?_
  intro T2 h2 W2 K2 Wd
  have z2 : h0.size ≤ h2.size := K2.1
  refine s_aloadN W2 d16_7 rfl rfl (pc' := 8) rfl ?_
  have fx3 := (Fh.keep K2 (ninS ad nin0))
  refine gGetF W2 (host := "") (Or.inl (w_62 hw)) Via.refl fx3 d16_8 (pc' := 11) rfl ?_
  intro T4 W4
  refine s_iloadN W4 d16_11 rfl (pc' := 12) rfl ?_
  refine s_iload W4 d16_12 rfl (pc' := 14) rfl ?_
  have fx6 := (Vh.keep K2 (ninS (Ne.symm dh) nin0))
  refine gStI W4 n0_hA fx6 (idx16 hi hj).1 (i := j) (idx16 hi hj).2 (by rw [lh]; exact hj) d16_14 (pc' := 15) rfl ?_
  intro T5 h5 W5 K5 Wh
  have z5 : h2.size ≤ h5.size := K5.1
  refine s_aloadN W5 d16_15 rfl rfl (pc' := 16) rfl ?_
  have fx7 := ((Fs.keep K2 (ninS ad nin0)).keep K5 (ninS ah nin0))
  refine gGetF W5 (host := "") (Or.inl (w_69 hw)) Via.refl fx7 d16_16 (pc' := 19) rfl ?_
  intro T8 W8
  refine s_ifnull W8 d16_19 rfl (by decide) (pc1 := 30) (by decide) (pc2 := 22) rfl ?_ (fun q => (q rfl).elim)
  intro q19
  refine s_aloadN W8 d16_30 rfl rfl (pc' := 31) rfl ?_
  refine s_iloadN W8 d16_31 rfl (pc' := 32) rfl ?_
  have fx9 := ((Ea.keep K2).keep K5)
  have fx10 := ((Fd.keep K2 (ninS ad nin0)).keep K5 (ninS ah nin0))
  have fx11 := (fx3.keep K5 (ninS ah nin0))
  have fx12 := ((Fe.keep K2 (ninS ad nin0)).keep K5 (ninS ah nin0))
  have fx13 := ((Ft.keep K2 (ninS ad nin0)).keep K5 (ninS ah nin0))
  refine gPriv W8 fx9 (w_95 hw) (w_96 hw) (w_97 hw) (w_74 hw) rfl (w_36 hw) (w_98 hw) (by decide) pd_4 (ct_rpl hw hEL [] a dA hA eA i h5 ⟨fx9, fx10, fx11, fx12, fx13, fx7⟩) (by simp) d16_32 (pc' := 35) rfl rfl (argsL := [(.int i)]) rfl rfl (rest := []) rfl (wt := 0) (Nat.le_of_eq rfl) (by decide) (by decide) (by decide) (by decide) ?_
  rintro v14 T14 h14 W14 z14 ⟨rfl, rfl⟩
  show Go p e below _ T14 (mkF m 35 #[.val (.ref a), .val (.int i), .val (.long x), .second, .val (.long (0 : Int64)), .second, .val (.int t)] [])
  have fx15 := (Wd.keep K5 (ninS dh nin0))
  exact gRetV W14 hret d16_35 (by decide) (by decide) ⟨rfl, (((Keep.refl h0 [dA, hA]).trans K2 (allS (Or.inl (by simp)) all0)).trans K5 (allS (Or.inl (by simp)) all0)), fx15, Wh⟩
def Q_mvt (Z : State) (n0 : Nat) (a dA hA eA : Addr) (kd kh : ClassId) (i g t : Int32) (x : Int64) (j k : Nat) (ds hs : List Value) (h0 : Heap) (v : Option Value) (h : Heap) : Prop := v = none ∧ Keep h0 h [dA, hA] ∧ Arv Z h dA kd .long 16 (ds.set j (.long x)) (.long 0) ∧ Arv Z h hA kh .int 16 (hs.set j (.int t)) (.int 0)
set_option maxRecDepth 65536 in
set_option maxHeartbeats 40000000 in
theorem ct_mvt {l : Launch} {Z : State} {a0 : Array Value} (hw : ∀ d ∈ tables_1, d.before a0 Z = true) (hEL : EW Z a0 EL0) {n0 : Nat} (cds : List Jvm.Cond) (a dA hA eA : Addr) (kd kh : ClassId) (i g t : Int32) (x : Int64) (j k : Nat) (ds hs : List Value) (h0 : Heap) (X : HF Z h0 a dA hA eA) (N : DN a dA hA eA) (n0_dA : n0 ≤ dA) (n0_hA : n0 ≤ hA) (Vd : Arv Z h0 dA kd .long 16 ds (.long 0)) (Vh : Arv Z h0 hA kh .int 16 hs (.int 0)) (hi : i.toInt = j) (hj : j < 16) (hg : g.toInt = k) (hg2 : k < 16) (gd : ds.getD k (.long 0) = .long x) (gh : hs.getD k (.int 0) = .int t) (ld : ds.length = 16) (lh : hs.length = 16) :
    Ct l Z a0 EL0 n0 false false (⟨"com/example/ripen/ripen/DeadlineHeap", "moveTo", "(II)V"⟩ : MethodName) prog_1_method_21_code 3 (Option.none : Option Jvm.ClassFile.FieldType) cds ({ frames := 2, cells := 0, slots := 0, locals := 31 } : Room) [] #[(.ref a), (.int i), (.int g)] h0 (Q_mvt Z n0 a dA hA eA kd kh i g t x j k ds hs h0) := by
  refine Ct.of (plainFor_of_name pn_2) hEL ?_
  intro p e s m below meth c T0 W0 hret hnm hs0
  refine Go.cast (ef_RII_3 m a i g) ?_
  show Go p e below _ T0 (mkF m 0 #[.val (.ref a), .val (.int i), .val (.int g)] [])
  obtain ⟨Ea, Fd, Fh, Fe, Ft, Fs⟩ := id X
  have lt_a := natlt Ea.lt
  obtain ⟨ad, ah, ae, dh, de, he⟩ := id N
  have lt_dA := natlt Vd.lt
  have lt_hA := natlt Vh.lt
  refine s_aloadN W0 d20_0 rfl rfl (pc' := 1) rfl ?_
  refine s_iloadN W0 d20_1 rfl (pc' := 2) rfl ?_
  refine s_aloadN W0 d20_2 rfl rfl (pc' := 3) rfl ?_
  refine gGetF W0 (host := "") (Or.inl (w_44 hw)) Via.refl Fd d20_3 (pc' := 6) rfl ?_
  intro T1 W1
  refine s_iloadN W1 d20_6 rfl (pc' := 7) rfl ?_
  refine gLdJ W1 Vd (idx16 hg hg2).1 (v := (.long x)) (by rw [(idx16 hg hg2).2]; exact gd) d20_7 (pc' := 8) rfl ?_
  refine s_aloadN W1 d20_8 rfl rfl (pc' := 9) rfl ?_
  refine s_iloadN W1 d20_9 rfl (pc' := 10) rfl ?_
  refine gPriv W1 Ea (w_99 hw) (w_100 hw) (w_101 hw) (w_74 hw) rfl (w_36 hw) (w_102 hw) (by decide) pd_5 (ct_sqa hw hEL [] a dA hA eA g h0 ⟨Ea, Fd, Fh, Fe, Ft, Fs⟩) (by simp) d20_10 (pc' := 13) rfl rfl (argsL := [(.int g)]) rfl rfl (rest := [(.long x), (.int i), (.ref a)]) rfl (wt := 4) (Nat.le_of_eq rfl) (by decide) (by decide) (by decide) (by decide) ?_
  rintro v2 T2 h2 W2 z2 ⟨rfl, rfl⟩
  show Go p e below _ T2 (mkF m 13 #[.val (.ref a), .val (.int i), .val (.int g)] [(.long (0 : Int64)), (.long x), (.int i), (.ref a)])
  refine s_aloadN W2 d20_13 rfl rfl (pc' := 14) rfl ?_
  refine gGetF W2 (host := "") (Or.inl (w_62 hw)) Via.refl Fh d20_14 (pc' := 17) rfl ?_
  intro T3 W3
  refine s_iloadN W3 d20_17 rfl (pc' := 18) rfl ?_
  refine gLdI W3 Vh (idx16 hg hg2).1 (v := (.int t)) (by rw [(idx16 hg hg2).2]; exact gh) d20_18 (pc' := 19) rfl ?_
  refine gPriv W3 Ea (w_91 hw) (w_92 hw) (w_93 hw) (w_74 hw) rfl (w_36 hw) (w_94 hw) (by decide) pd_6 (ct_plc hw hEL [] a dA hA eA kd kh i t x j ds hs h0 ⟨Ea, Fd, Fh, Fe, Ft, Fs⟩ N n0_dA n0_hA Vd Vh hi hj ld lh) (by simp) d20_19 (pc' := 22) rfl rfl (argsL := [(.int i), (.long x), (.long (0 : Int64)), (.int t)]) rfl rfl (rest := []) rfl (wt := 0) (Nat.le_of_eq rfl) (by decide) (by decide) (by decide) (by decide) ?_
  rintro v4 T4 h4 W4 z4 ⟨rfl, Q⟩
  show Go p e below _ T4 (mkF m 22 #[.val (.ref a), .val (.int i), .val (.int g)] [])
  exact gRetV W4 hret d20_22 (by decide) (by decide) ⟨rfl, Q⟩
def Q_su0 (Z : State) (n0 : Nat) (a dA hA eA : Addr) (kd kh : ClassId) (x : Int64) (ds hs : List Value) (h0 : Heap) (v : Option Value) (h : Heap) : Prop := v = some (.int (0 : Int32)) ∧ h0 = h
set_option maxRecDepth 65536 in
set_option maxHeartbeats 40000000 in
theorem ct_su0 {l : Launch} {Z : State} {a0 : Array Value} (hw : ∀ d ∈ tables_1, d.before a0 Z = true) (hEL : EW Z a0 EL0) {n0 : Nat} (cds : List Jvm.Cond) (a dA hA eA : Addr) (kd kh : ClassId) (x : Int64) (ds hs : List Value) (h0 : Heap) (X : HF Z h0 a dA hA eA) (N : DN a dA hA eA) (n0_dA : n0 ≤ dA) (n0_hA : n0 ≤ hA) (Vd : Arv Z h0 dA kd .long 16 ds (.long 0)) (Vh : Arv Z h0 hA kh .int 16 hs (.int 0)) :
    Ct l Z a0 EL0 n0 false false (⟨"com/example/ripen/ripen/DeadlineHeap", "siftUp", "(IJJ)I"⟩ : MethodName) prog_1_method_14_code 7 (Option.some Jvm.ClassFile.FieldType.int) cds ({ frames := 0, cells := 0, slots := 0, locals := 0 } : Room) [] #[(.ref a), (.int (0 : Int32)), (.long x), (.long (0 : Int64))] h0 (Q_su0 Z n0 a dA hA eA kd kh x ds hs h0) := by
  refine Ct.of (plainFor_of_name pn_2) hEL ?_
  intro p e s m below meth c T0 W0 hret hnm hs0
  refine Go.cast (ef_RIJJ_7 m a (0 : Int32) x (0 : Int64)) ?_
  show Go p e below _ T0 (mkF m 0 #[.val (.ref a), .val (.int (0 : Int32)), .val (.long x), .second, .val (.long (0 : Int64)), .second, .unset] [])
  obtain ⟨Ea, Fd, Fh, Fe, Ft, Fs⟩ := id X
  have lt_a := natlt Ea.lt
  obtain ⟨ad, ah, ae, dh, de, he⟩ := id N
  have lt_dA := natlt Vd.lt
  have lt_hA := natlt Vh.lt
  refine s_iloadN W0 d15_0 rfl (pc' := 1) rfl ?_
  refine s_ifle W0 d15_1 (by decide) (pc1 := 49) (by decide) (pc2 := 4) rfl ?_ (fun q => absurd q (by decide))
  intro q1
  refine s_iloadN W0 d15_49 rfl (pc' := 50) rfl ?_
  exact gRetI W0 hret d15_50 (by decide) (by decide) ⟨rfl, rfl⟩
def Q_su1 (Z : State) (n0 : Nat) (a dA hA eA : Addr) (kd kh : ClassId) (x x0 : Int64) (t0 : Int32) (ds hs : List Value) (h0 : Heap) (v : Option Value) (h : Heap) : Prop := if x < x0 then v = some (.int (0 : Int32)) ∧ Keep h0 h [dA, hA] ∧ Arv Z h dA kd .long 16 (ds.set 1 (.long x0)) (.long 0) ∧ Arv Z h hA kh .int 16 (hs.set 1 (.int t0)) (.int 0) else v = some (.int (1 : Int32)) ∧ h0 = h
set_option maxRecDepth 65536 in
set_option maxHeartbeats 40000000 in
theorem ct_su1 {l : Launch} {Z : State} {a0 : Array Value} (hw : ∀ d ∈ tables_1, d.before a0 Z = true) (hEL : EW Z a0 EL0) {n0 : Nat} (cds : List Jvm.Cond) (a dA hA eA : Addr) (kd kh : ClassId) (x x0 : Int64) (t0 : Int32) (ds hs : List Value) (h0 : Heap) (X : HF Z h0 a dA hA eA) (N : DN a dA hA eA) (n0_dA : n0 ≤ dA) (n0_hA : n0 ≤ hA) (Vd : Arv Z h0 dA kd .long 16 ds (.long 0)) (Vh : Arv Z h0 hA kh .int 16 hs (.int 0)) (gd : ds.getD 0 (.long 0) = .long x0) (gh : hs.getD 0 (.int 0) = .int t0) (ld : ds.length = 16) (lh : hs.length = 16) :
    Ct l Z a0 EL0 n0 false false (⟨"com/example/ripen/ripen/DeadlineHeap", "siftUp", "(IJJ)I"⟩ : MethodName) prog_1_method_14_code 7 (Option.some Jvm.ClassFile.FieldType.int) cds ({ frames := 3, cells := 0, slots := 0, locals := 45 } : Room) [] #[(.ref a), (.int (1 : Int32)), (.long x), (.long (0 : Int64))] h0 (Q_su1 Z n0 a dA hA eA kd kh x x0 t0 ds hs h0) := by
  refine Ct.of (plainFor_of_name pn_2) hEL ?_
  intro p e s m below meth c T0 W0 hret hnm hs0
  refine Go.cast (ef_RIJJ_7 m a (1 : Int32) x (0 : Int64)) ?_
  show Go p e below _ T0 (mkF m 0 #[.val (.ref a), .val (.int (1 : Int32)), .val (.long x), .second, .val (.long (0 : Int64)), .second, .unset] [])
  obtain ⟨Ea, Fd, Fh, Fe, Ft, Fs⟩ := id X
  have lt_a := natlt Ea.lt
  obtain ⟨ad, ah, ae, dh, de, he⟩ := id N
  have lt_dA := natlt Vd.lt
  have lt_hA := natlt Vh.lt
  refine s_iloadN W0 d15_0 rfl (pc' := 1) rfl ?_
  refine s_ifle W0 d15_1 (by decide) (pc1 := 49) (by decide) (pc2 := 4) rfl (fun q => absurd q (by decide)) ?_
  intro q1
  refine s_iloadN W0 d15_4 rfl (pc' := 5) rfl ?_
  refine s_iconst W0 d15_5 (v := (1 : Int32)) (by decide) (pc' := 6) rfl ?_
  refine s_isub W0 d15_6 (pc' := 7) rfl ?_
  refine s_iconst W0 d15_7 (v := (1 : Int32)) (by decide) (pc' := 8) rfl ?_
  refine s_iushr W0 d15_8 (pc' := 9) rfl ?_
  rw [show ((((1 : Int32) - (1 : Int32)).toUInt32 >>> ((1 : Int32) &&& 31).toUInt32).toInt32) = (0 : Int32) from by decide]
  refine s_istore W0 d15_9 (l' := #[.val (.ref a), .val (.int (1 : Int32)), .val (.long x), .second, .val (.long (0 : Int64)), .second, .val (.int (0 : Int32))]) rfl (pc' := 11) rfl ?_
  refine s_lloadN W0 d15_11 rfl (pc' := 12) rfl ?_
  refine s_lload W0 d15_12 rfl (pc' := 14) rfl ?_
  refine s_aloadN W0 d15_14 rfl rfl (pc' := 15) rfl ?_
  refine gGetF W0 (host := "") (Or.inl (w_44 hw)) Via.refl Fd d15_15 (pc' := 18) rfl ?_
  intro T1 W1
  refine s_iload W1 d15_18 rfl (pc' := 20) rfl ?_
  refine gLdJ W1 Vd (idx16 (i := (0 : Int32)) (j := 0) (by decide) (by decide)).1 (v := (.long x0)) (by rw [(idx16 (i := (0 : Int32)) (j := 0) (by decide) (by decide)).2]; exact gd) d15_20 (pc' := 21) rfl ?_
  refine s_aloadN W1 d15_21 rfl rfl (pc' := 22) rfl ?_
  refine s_iload W1 d15_22 rfl (pc' := 24) rfl ?_
  refine gPriv W1 Ea (w_99 hw) (w_100 hw) (w_101 hw) (w_74 hw) rfl (w_36 hw) (w_102 hw) (by decide) pd_5 (ct_sqa hw hEL [] a dA hA eA (0 : Int32) h0 ⟨Ea, Fd, Fh, Fe, Ft, Fs⟩) (by simp) d15_24 (pc' := 27) rfl rfl (argsL := [(.int (0 : Int32))]) rfl rfl (rest := [(.long x0), (.long (0 : Int64)), (.long x)]) rfl (wt := 6) (Nat.le_of_eq rfl) (by decide) (by decide) (by decide) (by decide) ?_
  rintro v2 T2 h2 W2 z2 ⟨rfl, rfl⟩
  show Go p e below _ T2 (mkF m 27 #[.val (.ref a), .val (.int (1 : Int32)), .val (.long x), .second, .val (.long (0 : Int64)), .second, .val (.int (0 : Int32))] [(.long (0 : Int64)), (.long x0), (.long (0 : Int64)), (.long x)])
  refine gStatic W2 (w_103 hw) (w_104 hw) (w_36 hw) (w_105 hw) (by decide) pd_7 (ct_bef hw hEL [] x x0 h0) (by simp) d15_27 (pc' := 30) rfl rfl (argsL := [(.long x), (.long (0 : Int64)), (.long x0), (.long (0 : Int64))]) rfl rfl (rest := []) rfl (wt := 0) (Nat.le_of_eq rfl) (by decide) (by decide) (by decide) (by decide) ?_
  rintro v3 T3 h3 W3 z3 ⟨rfl, rfl⟩
  show Go p e below _ T3 (mkF m 30 #[.val (.ref a), .val (.int (1 : Int32)), .val (.long x), .second, .val (.long (0 : Int64)), .second, .val (.int (0 : Int32))] [(.int (if x < x0 then 1 else 0))])
  refine s_ifne W3 d15_30 (by decide) (pc1 := 36) (by decide) (pc2 := 33) rfl ?_ ?_
  · intro q30
    have qx := one_if q30
    refine s_aloadN W3 d15_36 rfl rfl (pc' := 37) rfl ?_
    refine s_iloadN W3 d15_37 rfl (pc' := 38) rfl ?_
    refine s_iload W3 d15_38 rfl (pc' := 40) rfl ?_
    refine gPriv W3 Ea (w_106 hw) (w_107 hw) (w_108 hw) (w_74 hw) rfl (w_36 hw) (w_109 hw) (by decide) pd_8 (ct_mvt hw hEL [] a dA hA eA kd kh (1 : Int32) (0 : Int32) t0 x0 1 0 ds hs h0 ⟨Ea, Fd, Fh, Fe, Ft, Fs⟩ N n0_dA n0_hA Vd Vh (by decide) (by decide) (by decide) (by decide) gd gh ld lh) (by simp) d15_40 (pc' := 43) rfl rfl (argsL := [(.int (1 : Int32)), (.int (0 : Int32))]) rfl rfl (rest := []) rfl (wt := 0) (Nat.le_of_eq rfl) (by decide) (by decide) (by decide) (by decide) ?_
    rintro v4 T4 h4 W4 z4 ⟨rfl, Km, Wd, Wh⟩
    show Go p e below _ T4 (mkF m 43 #[.val (.ref a), .val (.int (1 : Int32)), .val (.long x), .second, .val (.long (0 : Int64)), .second, .val (.int (0 : Int32))] [])
    refine s_iload W4 d15_43 rfl (pc' := 45) rfl ?_
    refine s_istoreN W4 d15_45 (l' := #[.val (.ref a), .val (.int (0 : Int32)), .val (.long x), .second, .val (.long (0 : Int64)), .second, .val (.int (0 : Int32))]) rfl (pc' := 46) rfl ?_
    refine s_goto W4 d15_46 (by decide) (pc' := 0) (by decide) ?_
    refine s_iloadN W4 d15_0 rfl (pc' := 1) rfl ?_
    refine s_ifle W4 d15_1 (by decide) (pc1 := 49) (by decide) (pc2 := 4) rfl ?_ (fun q => absurd q (by decide))
    intro q1
    refine s_iloadN W4 d15_49 rfl (pc' := 50) rfl ?_
    exact gRetI W4 hret d15_50 (by decide) (by decide) (by unfold Q_su1; rw [if_pos qx]; exact ⟨rfl, Km, Wd, Wh⟩)
  · intro q30
    have qx := nil_if q30
    refine s_goto W3 d15_33 (by decide) (pc' := 49) (by decide) ?_
    refine s_iloadN W3 d15_49 rfl (pc' := 50) rfl ?_
    exact gRetI W3 hret d15_50 (by decide) (by decide) (by unfold Q_su1; rw [if_neg qx]; exact ⟨rfl, rfl⟩)
def Q_su2 (Z : State) (n0 : Nat) (a dA hA eA : Addr) (kd kh : ClassId) (x x0 : Int64) (t0 : Int32) (ds hs : List Value) (h0 : Heap) (v : Option Value) (h : Heap) : Prop := if x < x0 then v = some (.int (0 : Int32)) ∧ Keep h0 h [dA, hA] ∧ Arv Z h dA kd .long 16 (ds.set 2 (.long x0)) (.long 0) ∧ Arv Z h hA kh .int 16 (hs.set 2 (.int t0)) (.int 0) else v = some (.int (2 : Int32)) ∧ h0 = h
set_option maxRecDepth 65536 in
set_option maxHeartbeats 40000000 in
theorem ct_su2 {l : Launch} {Z : State} {a0 : Array Value} (hw : ∀ d ∈ tables_1, d.before a0 Z = true) (hEL : EW Z a0 EL0) {n0 : Nat} (cds : List Jvm.Cond) (a dA hA eA : Addr) (kd kh : ClassId) (x x0 : Int64) (t0 : Int32) (ds hs : List Value) (h0 : Heap) (X : HF Z h0 a dA hA eA) (N : DN a dA hA eA) (n0_dA : n0 ≤ dA) (n0_hA : n0 ≤ hA) (Vd : Arv Z h0 dA kd .long 16 ds (.long 0)) (Vh : Arv Z h0 hA kh .int 16 hs (.int 0)) (gd : ds.getD 0 (.long 0) = .long x0) (gh : hs.getD 0 (.int 0) = .int t0) (ld : ds.length = 16) (lh : hs.length = 16) :
    Ct l Z a0 EL0 n0 false false (⟨"com/example/ripen/ripen/DeadlineHeap", "siftUp", "(IJJ)I"⟩ : MethodName) prog_1_method_14_code 7 (Option.some Jvm.ClassFile.FieldType.int) cds ({ frames := 3, cells := 0, slots := 0, locals := 45 } : Room) [] #[(.ref a), (.int (2 : Int32)), (.long x), (.long (0 : Int64))] h0 (Q_su2 Z n0 a dA hA eA kd kh x x0 t0 ds hs h0) := by
  refine Ct.of (plainFor_of_name pn_2) hEL ?_
  intro p e s m below meth c T0 W0 hret hnm hs0
  refine Go.cast (ef_RIJJ_7 m a (2 : Int32) x (0 : Int64)) ?_
  show Go p e below _ T0 (mkF m 0 #[.val (.ref a), .val (.int (2 : Int32)), .val (.long x), .second, .val (.long (0 : Int64)), .second, .unset] [])
  obtain ⟨Ea, Fd, Fh, Fe, Ft, Fs⟩ := id X
  have lt_a := natlt Ea.lt
  obtain ⟨ad, ah, ae, dh, de, he⟩ := id N
  have lt_dA := natlt Vd.lt
  have lt_hA := natlt Vh.lt
  refine s_iloadN W0 d15_0 rfl (pc' := 1) rfl ?_
  refine s_ifle W0 d15_1 (by decide) (pc1 := 49) (by decide) (pc2 := 4) rfl (fun q => absurd q (by decide)) ?_
  intro q1
  refine s_iloadN W0 d15_4 rfl (pc' := 5) rfl ?_
  refine s_iconst W0 d15_5 (v := (1 : Int32)) (by decide) (pc' := 6) rfl ?_
  refine s_isub W0 d15_6 (pc' := 7) rfl ?_
  refine s_iconst W0 d15_7 (v := (1 : Int32)) (by decide) (pc' := 8) rfl ?_
  refine s_iushr W0 d15_8 (pc' := 9) rfl ?_
  rw [show ((((2 : Int32) - (1 : Int32)).toUInt32 >>> ((1 : Int32) &&& 31).toUInt32).toInt32) = (0 : Int32) from by decide]
  refine s_istore W0 d15_9 (l' := #[.val (.ref a), .val (.int (2 : Int32)), .val (.long x), .second, .val (.long (0 : Int64)), .second, .val (.int (0 : Int32))]) rfl (pc' := 11) rfl ?_
  refine s_lloadN W0 d15_11 rfl (pc' := 12) rfl ?_
  refine s_lload W0 d15_12 rfl (pc' := 14) rfl ?_
  refine s_aloadN W0 d15_14 rfl rfl (pc' := 15) rfl ?_
  refine gGetF W0 (host := "") (Or.inl (w_44 hw)) Via.refl Fd d15_15 (pc' := 18) rfl ?_
  intro T1 W1
  refine s_iload W1 d15_18 rfl (pc' := 20) rfl ?_
  refine gLdJ W1 Vd (idx16 (i := (0 : Int32)) (j := 0) (by decide) (by decide)).1 (v := (.long x0)) (by rw [(idx16 (i := (0 : Int32)) (j := 0) (by decide) (by decide)).2]; exact gd) d15_20 (pc' := 21) rfl ?_
  refine s_aloadN W1 d15_21 rfl rfl (pc' := 22) rfl ?_
  refine s_iload W1 d15_22 rfl (pc' := 24) rfl ?_
  refine gPriv W1 Ea (w_99 hw) (w_100 hw) (w_101 hw) (w_74 hw) rfl (w_36 hw) (w_102 hw) (by decide) pd_5 (ct_sqa hw hEL [] a dA hA eA (0 : Int32) h0 ⟨Ea, Fd, Fh, Fe, Ft, Fs⟩) (by simp) d15_24 (pc' := 27) rfl rfl (argsL := [(.int (0 : Int32))]) rfl rfl (rest := [(.long x0), (.long (0 : Int64)), (.long x)]) rfl (wt := 6) (Nat.le_of_eq rfl) (by decide) (by decide) (by decide) (by decide) ?_
  rintro v2 T2 h2 W2 z2 ⟨rfl, rfl⟩
  show Go p e below _ T2 (mkF m 27 #[.val (.ref a), .val (.int (2 : Int32)), .val (.long x), .second, .val (.long (0 : Int64)), .second, .val (.int (0 : Int32))] [(.long (0 : Int64)), (.long x0), (.long (0 : Int64)), (.long x)])
  refine gStatic W2 (w_103 hw) (w_104 hw) (w_36 hw) (w_105 hw) (by decide) pd_7 (ct_bef hw hEL [] x x0 h0) (by simp) d15_27 (pc' := 30) rfl rfl (argsL := [(.long x), (.long (0 : Int64)), (.long x0), (.long (0 : Int64))]) rfl rfl (rest := []) rfl (wt := 0) (Nat.le_of_eq rfl) (by decide) (by decide) (by decide) (by decide) ?_
  rintro v3 T3 h3 W3 z3 ⟨rfl, rfl⟩
  show Go p e below _ T3 (mkF m 30 #[.val (.ref a), .val (.int (2 : Int32)), .val (.long x), .second, .val (.long (0 : Int64)), .second, .val (.int (0 : Int32))] [(.int (if x < x0 then 1 else 0))])
  refine s_ifne W3 d15_30 (by decide) (pc1 := 36) (by decide) (pc2 := 33) rfl ?_ ?_
  · intro q30
    have qx := one_if q30
    refine s_aloadN W3 d15_36 rfl rfl (pc' := 37) rfl ?_
    refine s_iloadN W3 d15_37 rfl (pc' := 38) rfl ?_
    refine s_iload W3 d15_38 rfl (pc' := 40) rfl ?_
    refine gPriv W3 Ea (w_106 hw) (w_107 hw) (w_108 hw) (w_74 hw) rfl (w_36 hw) (w_109 hw) (by decide) pd_8 (ct_mvt hw hEL [] a dA hA eA kd kh (2 : Int32) (0 : Int32) t0 x0 2 0 ds hs h0 ⟨Ea, Fd, Fh, Fe, Ft, Fs⟩ N n0_dA n0_hA Vd Vh (by decide) (by decide) (by decide) (by decide) gd gh ld lh) (by simp) d15_40 (pc' := 43) rfl rfl (argsL := [(.int (2 : Int32)), (.int (0 : Int32))]) rfl rfl (rest := []) rfl (wt := 0) (Nat.le_of_eq rfl) (by decide) (by decide) (by decide) (by decide) ?_
    rintro v4 T4 h4 W4 z4 ⟨rfl, Km, Wd, Wh⟩
    show Go p e below _ T4 (mkF m 43 #[.val (.ref a), .val (.int (2 : Int32)), .val (.long x), .second, .val (.long (0 : Int64)), .second, .val (.int (0 : Int32))] [])
    refine s_iload W4 d15_43 rfl (pc' := 45) rfl ?_
    refine s_istoreN W4 d15_45 (l' := #[.val (.ref a), .val (.int (0 : Int32)), .val (.long x), .second, .val (.long (0 : Int64)), .second, .val (.int (0 : Int32))]) rfl (pc' := 46) rfl ?_
    refine s_goto W4 d15_46 (by decide) (pc' := 0) (by decide) ?_
    refine s_iloadN W4 d15_0 rfl (pc' := 1) rfl ?_
    refine s_ifle W4 d15_1 (by decide) (pc1 := 49) (by decide) (pc2 := 4) rfl ?_ (fun q => absurd q (by decide))
    intro q1
    refine s_iloadN W4 d15_49 rfl (pc' := 50) rfl ?_
    exact gRetI W4 hret d15_50 (by decide) (by decide) (by unfold Q_su2; rw [if_pos qx]; exact ⟨rfl, Km, Wd, Wh⟩)
  · intro q30
    have qx := nil_if q30
    refine s_goto W3 d15_33 (by decide) (pc' := 49) (by decide) ?_
    refine s_iloadN W3 d15_49 rfl (pc' := 50) rfl ?_
    exact gRetI W3 hret d15_50 (by decide) (by decide) (by unfold Q_su2; rw [if_neg qx]; exact ⟨rfl, rfl⟩)
def Q_sd10 (Z : State) (n0 : Nat) (a dA hA eA : Addr) (kd kh : ClassId) (x : Int64) (ds hs : List Value) (h0 : Heap) (v : Option Value) (h : Heap) : Prop := v = some (.int (0 : Int32)) ∧ h0 = h
set_option maxRecDepth 65536 in
set_option maxHeartbeats 40000000 in
theorem ct_sd10 {l : Launch} {Z : State} {a0 : Array Value} (hw : ∀ d ∈ tables_1, d.before a0 Z = true) (hEL : EW Z a0 EL0) {n0 : Nat} (cds : List Jvm.Cond) (a dA hA eA : Addr) (kd kh : ClassId) (x : Int64) (ds hs : List Value) (h0 : Heap) (X : HF Z h0 a dA hA eA) (N : DN a dA hA eA) (n0_dA : n0 ≤ dA) (n0_hA : n0 ≤ hA) (Vd : Arv Z h0 dA kd .long 16 ds (.long 0)) (Vh : Arv Z h0 hA kh .int 16 hs (.int 0)) (Fz : Fld Z h0 a "com/example/ripen/ripen/DeadlineHeap" "size" "I" (.int (1 : Int32))) :
    Ct l Z a0 EL0 n0 false false (⟨"com/example/ripen/ripen/DeadlineHeap", "siftDown", "(IJJ)I"⟩ : MethodName) prog_1_method_15_code 9 (Option.some Jvm.ClassFile.FieldType.int) cds ({ frames := 0, cells := 0, slots := 0, locals := 0 } : Room) [] #[(.ref a), (.int (0 : Int32)), (.long x), (.long (0 : Int64))] h0 (Q_sd10 Z n0 a dA hA eA kd kh x ds hs h0) := by
  refine Ct.of (plainFor_of_name pn_2) hEL ?_
  intro p e s m below meth c T0 W0 hret hnm hs0
  refine Go.cast (ef_RIJJ_9 m a (0 : Int32) x (0 : Int64)) ?_
  show Go p e below _ T0 (mkF m 0 #[.val (.ref a), .val (.int (0 : Int32)), .val (.long x), .second, .val (.long (0 : Int64)), .second, .unset, .unset, .unset] [])
  obtain ⟨Ea, Fd, Fh, Fe, Ft, Fs⟩ := id X
  have lt_a := natlt Ea.lt
  obtain ⟨ad, ah, ae, dh, de, he⟩ := id N
  have lt_dA := natlt Vd.lt
  have lt_hA := natlt Vh.lt
  refine s_aloadN W0 d26_0 rfl rfl (pc' := 1) rfl ?_
  refine gGetF W0 (host := "") (Or.inl (w_76 hw)) Via.refl Fz d26_1 (pc' := 4) rfl ?_
  intro T1 W1
  refine s_iconst W1 d26_4 (v := (1 : Int32)) (by decide) (pc' := 5) rfl ?_
  refine s_iushr W1 d26_5 (pc' := 6) rfl ?_
  rw [show (((1 : Int32).toUInt32 >>> ((1 : Int32) &&& 31).toUInt32).toInt32) = (0 : Int32) from by decide]
  refine s_istore W1 d26_6 (l' := #[.val (.ref a), .val (.int (0 : Int32)), .val (.long x), .second, .val (.long (0 : Int64)), .second, .val (.int (0 : Int32)), .unset, .unset]) rfl (pc' := 8) rfl ?_
  refine s_iloadN W1 d26_8 rfl (pc' := 9) rfl ?_
  refine s_iload W1 d26_9 rfl (pc' := 11) rfl ?_
  refine s_icmpge W1 d26_11 (by decide) (pc1 := 89) (by decide) (pc2 := 14) rfl ?_ (fun q => absurd q (by decide))
  intro q11
  refine s_iloadN W1 d26_89 rfl (pc' := 90) rfl ?_
  exact gRetI W1 hret d26_90 (by decide) (by decide) ⟨rfl, rfl⟩
def Q_sd20 (Z : State) (n0 : Nat) (a dA hA eA : Addr) (kd kh : ClassId) (x x0 : Int64) (t0 : Int32) (ds hs : List Value) (h0 : Heap) (v : Option Value) (h : Heap) : Prop := if x0 < x then v = some (.int (1 : Int32)) ∧ Keep h0 h [dA, hA] ∧ Arv Z h dA kd .long 16 (ds.set 0 (.long x0)) (.long 0) ∧ Arv Z h hA kh .int 16 (hs.set 0 (.int t0)) (.int 0) else v = some (.int (0 : Int32)) ∧ h0 = h
set_option maxRecDepth 65536 in
set_option maxHeartbeats 40000000 in
theorem ct_sd20 {l : Launch} {Z : State} {a0 : Array Value} (hw : ∀ d ∈ tables_1, d.before a0 Z = true) (hEL : EW Z a0 EL0) {n0 : Nat} (cds : List Jvm.Cond) (a dA hA eA : Addr) (kd kh : ClassId) (x x0 : Int64) (t0 : Int32) (ds hs : List Value) (h0 : Heap) (X : HF Z h0 a dA hA eA) (N : DN a dA hA eA) (n0_dA : n0 ≤ dA) (n0_hA : n0 ≤ hA) (Vd : Arv Z h0 dA kd .long 16 ds (.long 0)) (Vh : Arv Z h0 hA kh .int 16 hs (.int 0)) (Fz : Fld Z h0 a "com/example/ripen/ripen/DeadlineHeap" "size" "I" (.int (2 : Int32))) (gd : ds.getD 1 (.long 0) = .long x0) (gh : hs.getD 1 (.int 0) = .int t0) (ld : ds.length = 16) (lh : hs.length = 16) :
    Ct l Z a0 EL0 n0 false false (⟨"com/example/ripen/ripen/DeadlineHeap", "siftDown", "(IJJ)I"⟩ : MethodName) prog_1_method_15_code 9 (Option.some Jvm.ClassFile.FieldType.int) cds ({ frames := 3, cells := 0, slots := 0, locals := 45 } : Room) [] #[(.ref a), (.int (0 : Int32)), (.long x), (.long (0 : Int64))] h0 (Q_sd20 Z n0 a dA hA eA kd kh x x0 t0 ds hs h0) := by
  refine Ct.of (plainFor_of_name pn_2) hEL ?_
  intro p e s m below meth c T0 W0 hret hnm hs0
  refine Go.cast (ef_RIJJ_9 m a (0 : Int32) x (0 : Int64)) ?_
  show Go p e below _ T0 (mkF m 0 #[.val (.ref a), .val (.int (0 : Int32)), .val (.long x), .second, .val (.long (0 : Int64)), .second, .unset, .unset, .unset] [])
  obtain ⟨Ea, Fd, Fh, Fe, Ft, Fs⟩ := id X
  have lt_a := natlt Ea.lt
  obtain ⟨ad, ah, ae, dh, de, he⟩ := id N
  have lt_dA := natlt Vd.lt
  have lt_hA := natlt Vh.lt
  refine s_aloadN W0 d26_0 rfl rfl (pc' := 1) rfl ?_
  refine gGetF W0 (host := "") (Or.inl (w_76 hw)) Via.refl Fz d26_1 (pc' := 4) rfl ?_
  intro T1 W1
  refine s_iconst W1 d26_4 (v := (1 : Int32)) (by decide) (pc' := 5) rfl ?_
  refine s_iushr W1 d26_5 (pc' := 6) rfl ?_
  rw [show (((2 : Int32).toUInt32 >>> ((1 : Int32) &&& 31).toUInt32).toInt32) = (1 : Int32) from by decide]
  refine s_istore W1 d26_6 (l' := #[.val (.ref a), .val (.int (0 : Int32)), .val (.long x), .second, .val (.long (0 : Int64)), .second, .val (.int (1 : Int32)), .unset, .unset]) rfl (pc' := 8) rfl ?_
  refine s_iloadN W1 d26_8 rfl (pc' := 9) rfl ?_
  refine s_iload W1 d26_9 rfl (pc' := 11) rfl ?_
  refine s_icmpge W1 d26_11 (by decide) (pc1 := 89) (by decide) (pc2 := 14) rfl (fun q => absurd q (by decide)) ?_
  intro q11
  refine s_iconst W1 d26_14 (v := (2 : Int32)) (by decide) (pc' := 15) rfl ?_
  refine s_iloadN W1 d26_15 rfl (pc' := 16) rfl ?_
  refine s_imul W1 d26_16 (pc' := 17) rfl ?_
  refine s_iconst W1 d26_17 (v := (1 : Int32)) (by decide) (pc' := 18) rfl ?_
  refine s_iadd W1 d26_18 (pc' := 19) rfl ?_
  rw [show (((2 : Int32) * (0 : Int32)) + (1 : Int32)) = (1 : Int32) from by decide]
  refine s_istore W1 d26_19 (l' := #[.val (.ref a), .val (.int (0 : Int32)), .val (.long x), .second, .val (.long (0 : Int64)), .second, .val (.int (1 : Int32)), .val (.int (1 : Int32)), .unset]) rfl (pc' := 21) rfl ?_
  refine s_iload W1 d26_21 rfl (pc' := 23) rfl ?_
  refine s_iconst W1 d26_23 (v := (1 : Int32)) (by decide) (pc' := 24) rfl ?_
  refine s_iadd W1 d26_24 (pc' := 25) rfl ?_
  rw [show ((1 : Int32) + (1 : Int32)) = (2 : Int32) from by decide]
  refine s_istore W1 d26_25 (l' := #[.val (.ref a), .val (.int (0 : Int32)), .val (.long x), .second, .val (.long (0 : Int64)), .second, .val (.int (1 : Int32)), .val (.int (1 : Int32)), .val (.int (2 : Int32))]) rfl (pc' := 27) rfl ?_
  refine s_iload W1 d26_27 rfl (pc' := 29) rfl ?_
  refine s_aloadN W1 d26_29 rfl rfl (pc' := 30) rfl ?_
  refine gGetF W1 (host := "") (Or.inl (w_76 hw)) Via.refl Fz d26_30 (pc' := 33) rfl ?_
  intro T2 W2
  refine s_icmpge W2 d26_33 (by decide) (pc1 := 51) (by decide) (pc2 := 36) rfl ?_ (fun q => absurd q (by decide))
  intro q33
  refine s_aloadN W2 d26_51 rfl rfl (pc' := 52) rfl ?_
  refine gGetF W2 (host := "") (Or.inl (w_44 hw)) Via.refl Fd d26_52 (pc' := 55) rfl ?_
  intro T3 W3
  refine s_iload W3 d26_55 rfl (pc' := 57) rfl ?_
  refine gLdJ W3 Vd (idx16 (i := (1 : Int32)) (j := 1) (by decide) (by decide)).1 (v := (.long x0)) (by rw [(idx16 (i := (1 : Int32)) (j := 1) (by decide) (by decide)).2]; exact gd) d26_57 (pc' := 58) rfl ?_
  refine s_aloadN W3 d26_58 rfl rfl (pc' := 59) rfl ?_
  refine s_iload W3 d26_59 rfl (pc' := 61) rfl ?_
  refine gPriv W3 Ea (w_99 hw) (w_100 hw) (w_101 hw) (w_74 hw) rfl (w_36 hw) (w_102 hw) (by decide) pd_5 (ct_sqa hw hEL [] a dA hA eA (1 : Int32) h0 ⟨Ea, Fd, Fh, Fe, Ft, Fs⟩) (by simp) d26_61 (pc' := 64) rfl rfl (argsL := [(.int (1 : Int32))]) rfl rfl (rest := [(.long x0)]) rfl (wt := 2) (Nat.le_of_eq rfl) (by decide) (by decide) (by decide) (by decide) ?_
  rintro v4 T4 h4 W4 z4 ⟨rfl, rfl⟩
  show Go p e below _ T4 (mkF m 64 #[.val (.ref a), .val (.int (0 : Int32)), .val (.long x), .second, .val (.long (0 : Int64)), .second, .val (.int (1 : Int32)), .val (.int (1 : Int32)), .val (.int (2 : Int32))] [(.long (0 : Int64)), (.long x0)])
  refine s_lloadN W4 d26_64 rfl (pc' := 65) rfl ?_
  refine s_lload W4 d26_65 rfl (pc' := 67) rfl ?_
  refine gStatic W4 (w_103 hw) (w_104 hw) (w_36 hw) (w_105 hw) (by decide) pd_7 (ct_bef hw hEL [] x0 x h0) (by simp) d26_67 (pc' := 70) rfl rfl (argsL := [(.long x0), (.long (0 : Int64)), (.long x), (.long (0 : Int64))]) rfl rfl (rest := []) rfl (wt := 0) (Nat.le_of_eq rfl) (by decide) (by decide) (by decide) (by decide) ?_
  rintro v5 T5 h5 W5 z5 ⟨rfl, rfl⟩
  show Go p e below _ T5 (mkF m 70 #[.val (.ref a), .val (.int (0 : Int32)), .val (.long x), .second, .val (.long (0 : Int64)), .second, .val (.int (1 : Int32)), .val (.int (1 : Int32)), .val (.int (2 : Int32))] [(.int (if x0 < x then 1 else 0))])
  refine s_ifne W5 d26_70 (by decide) (pc1 := 76) (by decide) (pc2 := 73) rfl ?_ ?_
  · intro q70
    have qx := one_if q70
    refine s_aloadN W5 d26_76 rfl rfl (pc' := 77) rfl ?_
    refine s_iloadN W5 d26_77 rfl (pc' := 78) rfl ?_
    refine s_iload W5 d26_78 rfl (pc' := 80) rfl ?_
    refine gPriv W5 Ea (w_106 hw) (w_107 hw) (w_108 hw) (w_74 hw) rfl (w_36 hw) (w_109 hw) (by decide) pd_8 (ct_mvt hw hEL [] a dA hA eA kd kh (0 : Int32) (1 : Int32) t0 x0 0 1 ds hs h0 ⟨Ea, Fd, Fh, Fe, Ft, Fs⟩ N n0_dA n0_hA Vd Vh (by decide) (by decide) (by decide) (by decide) gd gh ld lh) (by simp) d26_80 (pc' := 83) rfl rfl (argsL := [(.int (0 : Int32)), (.int (1 : Int32))]) rfl rfl (rest := []) rfl (wt := 0) (Nat.le_of_eq rfl) (by decide) (by decide) (by decide) (by decide) ?_
    rintro v6 T6 h6 W6 z6 ⟨rfl, Km, Wd, Wh⟩
    show Go p e below _ T6 (mkF m 83 #[.val (.ref a), .val (.int (0 : Int32)), .val (.long x), .second, .val (.long (0 : Int64)), .second, .val (.int (1 : Int32)), .val (.int (1 : Int32)), .val (.int (2 : Int32))] [])
    refine s_iload W6 d26_83 rfl (pc' := 85) rfl ?_
    refine s_istoreN W6 d26_85 (l' := #[.val (.ref a), .val (.int (1 : Int32)), .val (.long x), .second, .val (.long (0 : Int64)), .second, .val (.int (1 : Int32)), .val (.int (1 : Int32)), .val (.int (2 : Int32))]) rfl (pc' := 86) rfl ?_
    refine s_goto W6 d26_86 (by decide) (pc' := 8) (by decide) ?_
    refine s_iloadN W6 d26_8 rfl (pc' := 9) rfl ?_
    refine s_iload W6 d26_9 rfl (pc' := 11) rfl ?_
    refine s_icmpge W6 d26_11 (by decide) (pc1 := 89) (by decide) (pc2 := 14) rfl ?_ (fun q => absurd q (by decide))
    intro q11
    refine s_iloadN W6 d26_89 rfl (pc' := 90) rfl ?_
    exact gRetI W6 hret d26_90 (by decide) (by decide) (by unfold Q_sd20; rw [if_pos qx]; exact ⟨rfl, Km, Wd, Wh⟩)
  · intro q70
    have qx := nil_if q70
    refine s_goto W5 d26_73 (by decide) (pc' := 89) (by decide) ?_
    refine s_iloadN W5 d26_89 rfl (pc' := 90) rfl ?_
    exact gRetI W5 hret d26_90 (by decide) (by decide) (by unfold Q_sd20; rw [if_neg qx]; exact ⟨rfl, rfl⟩)
def Q_sd21 (Z : State) (n0 : Nat) (a dA hA eA : Addr) (kd kh : ClassId) (x : Int64) (ds hs : List Value) (h0 : Heap) (v : Option Value) (h : Heap) : Prop := v = some (.int (1 : Int32)) ∧ h0 = h
set_option maxRecDepth 65536 in
set_option maxHeartbeats 40000000 in
theorem ct_sd21 {l : Launch} {Z : State} {a0 : Array Value} (hw : ∀ d ∈ tables_1, d.before a0 Z = true) (hEL : EW Z a0 EL0) {n0 : Nat} (cds : List Jvm.Cond) (a dA hA eA : Addr) (kd kh : ClassId) (x : Int64) (ds hs : List Value) (h0 : Heap) (X : HF Z h0 a dA hA eA) (N : DN a dA hA eA) (n0_dA : n0 ≤ dA) (n0_hA : n0 ≤ hA) (Vd : Arv Z h0 dA kd .long 16 ds (.long 0)) (Vh : Arv Z h0 hA kh .int 16 hs (.int 0)) (Fz : Fld Z h0 a "com/example/ripen/ripen/DeadlineHeap" "size" "I" (.int (2 : Int32))) :
    Ct l Z a0 EL0 n0 false false (⟨"com/example/ripen/ripen/DeadlineHeap", "siftDown", "(IJJ)I"⟩ : MethodName) prog_1_method_15_code 9 (Option.some Jvm.ClassFile.FieldType.int) cds ({ frames := 0, cells := 0, slots := 0, locals := 0 } : Room) [] #[(.ref a), (.int (1 : Int32)), (.long x), (.long (0 : Int64))] h0 (Q_sd21 Z n0 a dA hA eA kd kh x ds hs h0) := by
  refine Ct.of (plainFor_of_name pn_2) hEL ?_
  intro p e s m below meth c T0 W0 hret hnm hs0
  refine Go.cast (ef_RIJJ_9 m a (1 : Int32) x (0 : Int64)) ?_
  show Go p e below _ T0 (mkF m 0 #[.val (.ref a), .val (.int (1 : Int32)), .val (.long x), .second, .val (.long (0 : Int64)), .second, .unset, .unset, .unset] [])
  obtain ⟨Ea, Fd, Fh, Fe, Ft, Fs⟩ := id X
  have lt_a := natlt Ea.lt
  obtain ⟨ad, ah, ae, dh, de, he⟩ := id N
  have lt_dA := natlt Vd.lt
  have lt_hA := natlt Vh.lt
  refine s_aloadN W0 d26_0 rfl rfl (pc' := 1) rfl ?_
  refine gGetF W0 (host := "") (Or.inl (w_76 hw)) Via.refl Fz d26_1 (pc' := 4) rfl ?_
  intro T1 W1
  refine s_iconst W1 d26_4 (v := (1 : Int32)) (by decide) (pc' := 5) rfl ?_
  refine s_iushr W1 d26_5 (pc' := 6) rfl ?_
  rw [show (((2 : Int32).toUInt32 >>> ((1 : Int32) &&& 31).toUInt32).toInt32) = (1 : Int32) from by decide]
  refine s_istore W1 d26_6 (l' := #[.val (.ref a), .val (.int (1 : Int32)), .val (.long x), .second, .val (.long (0 : Int64)), .second, .val (.int (1 : Int32)), .unset, .unset]) rfl (pc' := 8) rfl ?_
  refine s_iloadN W1 d26_8 rfl (pc' := 9) rfl ?_
  refine s_iload W1 d26_9 rfl (pc' := 11) rfl ?_
  refine s_icmpge W1 d26_11 (by decide) (pc1 := 89) (by decide) (pc2 := 14) rfl ?_ (fun q => absurd q (by decide))
  intro q11
  refine s_iloadN W1 d26_89 rfl (pc' := 90) rfl ?_
  exact gRetI W1 hret d26_90 (by decide) (by decide) ⟨rfl, rfl⟩
def Q_ins0 (Z : State) (n0 : Nat) (a dA hA eA : Addr) (y : Addr) (kd kh ke : ClassId) (x : Int64) (ds hs es : List Value) (h0 : Heap) (v : Option Value) (h : Heap) : Prop := ∃ r : Int32, v = some (.int r) ∧ Keep h0 h [a, dA, hA, eA] ∧ HF Z h a dA hA eA ∧ Fld Z h a "com/example/ripen/ripen/DeadlineHeap" "size" "I" (.int (1 : Int32)) ∧ Arv Z h eA ke (.object "java/lang/Object") 16 (es.set 0 (.ref y)) .null ∧ (Arv Z h dA kd .long 16 (ds.set 0 (.long x)) (.long 0) ∧ Arv Z h hA kh .int 16 (hs.set 0 (.int (0 : Int32))) (.int 0))
set_option maxRecDepth 65536 in
set_option maxHeartbeats 40000000 in
theorem ct_ins0 {l : Launch} {Z : State} {a0 : Array Value} (hw : ∀ d ∈ tables_1, d.before a0 Z = true) (hEL : EW Z a0 EL0) {n0 : Nat} (cds : List Jvm.Cond) (a dA hA eA : Addr) (y : Addr) (kd kh ke : ClassId) (x : Int64) (ds hs es : List Value) (h0 : Heap) (X : HF Z h0 a dA hA eA) (N : DN a dA hA eA) (n0_a : n0 ≤ a) (n0_dA : n0 ≤ dA) (n0_hA : n0 ≤ hA) (n0_eA : n0 ≤ eA) (Vd : Arv Z h0 dA kd .long 16 ds (.long 0)) (Vh : Arv Z h0 hA kh .int 16 hs (.int 0)) (Ve : Arv Z h0 eA ke (.object "java/lang/Object") 16 es .null) (Ov : Ovr Z ke "java/lang/Object") (Ey : Exa Z h0 y "java/lang/String") (Fz : Fld Z h0 a "com/example/ripen/ripen/DeadlineHeap" "size" "I" (.int (0 : Int32))) (ld : ds.length = 16) (lh : hs.length = 16) (le : es.length = 16) (gk : hs.getD 0 (.int 0) = .int (0 : Int32)) :
    Ct l Z a0 EL0 n0 false false (⟨"com/example/ripen/ripen/DeadlineHeap", "insert", "(Ljava/lang/Object;J)Z"⟩ : MethodName) prog_1_method_8_code 8 (Option.some Jvm.ClassFile.FieldType.boolean) cds ({ frames := 2, cells := 0, slots := 0, locals := 31 } : Room) [] #[(.ref a), (.ref y), (.long x)] h0 (Q_ins0 Z n0 a dA hA eA y kd kh ke x ds hs es h0) := by
  refine Ct.of (plainFor_of_name pn_2) hEL ?_
  intro p e s m below meth c T0 W0 hret hnm hs0
  refine Go.cast (ef_RRJ_8 m a y x) ?_
  show Go p e below _ T0 (mkF m 0 #[.val (.ref a), .val (.ref y), .val (.long x), .second, .unset, .unset, .unset, .unset] [])
  obtain ⟨Ea, Fd, Fh, Fe, Ft, Fs⟩ := id X
  have lt_a := natlt Ea.lt
  obtain ⟨ad, ah, ae, dh, de, he⟩ := id N
  have lt_dA := natlt Vd.lt
  have lt_hA := natlt Vh.lt
  have lt_eA := natlt Ve.lt
  refine s_aloadN W0 d14_0 rfl rfl (pc' := 1) rfl ?_
  refine gGetF W0 (host := "") (Or.inl (w_76 hw)) Via.refl Fz d14_1 (pc' := 4) rfl ?_
  intro T1 W1
  refine s_aloadN W1 d14_4 rfl rfl (pc' := 5) rfl ?_
  refine gGetF W1 (host := "") (Or.inl (w_44 hw)) Via.refl Fd d14_5 (pc' := 8) rfl ?_
  intro T2 W2
  refine gLen W2 Vd d14_8 (pc' := 9) rfl ?_
  refine s_icmpne W2 d14_9 (by decide) (pc1 := 16) (by decide) (pc2 := 12) rfl ?_ (fun q => absurd q (by decide))
  intro q9
  refine s_aloadN W2 d14_16 rfl rfl (pc' := 17) rfl ?_
  refine gGetF W2 (host := "") (Or.inl (w_69 hw)) Via.refl Fs d14_17 (pc' := 20) rfl ?_
  intro T3 W3
  refine s_ifnonnull W3 d14_20 rfl (by decide) (pc1 := 27) (by decide) (pc2 := 23) rfl (fun q => (q rfl).elim) ?_
  intro q20
  refine s_lconst W3 d14_23 (v := (0 : Int64)) (by decide) (pc' := 24) rfl ?_
  refine s_goto W3 d14_24 (by decide) (pc' := 38) (by decide) ?_
  refine s_lstore W3 d14_38 (l' := #[.val (.ref a), .val (.ref y), .val (.long x), .second, .val (.long (0 : Int64)), .second, .unset, .unset]) rfl (pc' := 40) rfl ?_
  refine s_aloadN W3 d14_40 rfl rfl (pc' := 41) rfl ?_
  refine gGetF W3 (host := "") (Or.inl (w_62 hw)) Via.refl Fh d14_41 (pc' := 44) rfl ?_
  intro T4 W4
  refine s_aloadN W4 d14_44 rfl rfl (pc' := 45) rfl ?_
  refine gGetF W4 (host := "") (Or.inl (w_76 hw)) Via.refl Fz d14_45 (pc' := 48) rfl ?_
  intro T5 W5
  refine gLdI W5 Vh (idx16 (i := (0 : Int32)) (j := 0) (by decide) (by decide)).1 (v := (.int (0 : Int32))) (by rw [(idx16 (i := (0 : Int32)) (j := 0) (by decide) (by decide)).2]; exact gk) d14_48 (pc' := 49) rfl ?_
  refine s_istore W5 d14_49 (l' := #[.val (.ref a), .val (.ref y), .val (.long x), .second, .val (.long (0 : Int64)), .second, .val (.int (0 : Int32)), .unset]) rfl (pc' := 51) rfl ?_
  refine s_aloadN W5 d14_51 rfl rfl (pc' := 52) rfl ?_
  refine gGetF W5 (host := "") (Or.inl (w_65 hw)) Via.refl Fe d14_52 (pc' := 55) rfl ?_
  intro T6 W6
  refine s_iload W6 d14_55 rfl (pc' := 57) rfl ?_
  refine s_aloadN W6 d14_57 rfl rfl (pc' := 58) rfl ?_
  refine gStA W6 n0_eA Ve rfl (Arv.sto Ve Ov (Ins.of_exa Ey (w_32 hw))) rfl (idx16 (i := (0 : Int32)) (j := 0) (by decide) (by decide)).1 (i := 0) (idx16 (i := (0 : Int32)) (j := 0) (by decide) (by decide)).2 (by rw [le]; decide) d14_58 (pc' := 59) rfl ?_
  intro T7 h7 W7 K7 We
  have z7 : h0.size ≤ h7.size := K7.1
  refine s_aloadN W7 d14_59 rfl rfl (pc' := 60) rfl ?_
  refine s_aloadN W7 d14_60 rfl rfl (pc' := 61) rfl ?_
  have fx8 := (Fz.keep K7 (ninS ae nin0))
  refine gGetF W7 (host := "") (Or.inl (w_76 hw)) Via.refl fx8 d14_61 (pc' := 64) rfl ?_
  intro T9 W9
  refine s_lloadN W9 d14_64 rfl (pc' := 65) rfl ?_
  refine s_lload W9 d14_65 rfl (pc' := 67) rfl ?_
  have fx10 := (Vd.keep K7 (ninS de nin0))
  have fx11 := (Vh.keep K7 (ninS he nin0))
  have fx12 := (Ea.keep K7)
  have fx13 := (Fd.keep K7 (ninS ae nin0))
  have fx14 := (Fh.keep K7 (ninS ae nin0))
  have fx15 := (Fe.keep K7 (ninS ae nin0))
  have fx16 := (Ft.keep K7 (ninS ae nin0))
  have fx17 := (Fs.keep K7 (ninS ae nin0))
  refine gPriv W9 fx12 (w_87 hw) (w_88 hw) (w_89 hw) (w_74 hw) rfl (w_36 hw) (w_90 hw) (by decide) pd_9 (ct_su0 hw hEL [] a dA hA eA kd kh x ds hs h7 ⟨fx12, fx13, fx14, fx15, fx16, fx17⟩ N n0_dA n0_hA fx10 fx11) (by simp) d14_67 (pc' := 70) rfl rfl (argsL := [(.int (0 : Int32)), (.long x), (.long (0 : Int64))]) rfl rfl (rest := []) rfl (wt := 0) (Nat.le_of_eq rfl) (by decide) (by decide) (by decide) (by decide) ?_
  rintro v18 T18 h18 W18 z18 ⟨rfl, rfl⟩
  show Go p e below _ T18 (mkF m 70 #[.val (.ref a), .val (.ref y), .val (.long x), .second, .val (.long (0 : Int64)), .second, .val (.int (0 : Int32)), .unset] [(.int (0 : Int32))])
  refine s_istore W18 d14_70 (l' := #[.val (.ref a), .val (.ref y), .val (.long x), .second, .val (.long (0 : Int64)), .second, .val (.int (0 : Int32)), .val (.int (0 : Int32))]) rfl (pc' := 72) rfl ?_
  refine s_aloadN W18 d14_72 rfl rfl (pc' := 73) rfl ?_
  refine s_iload W18 d14_73 rfl (pc' := 75) rfl ?_
  refine s_lloadN W18 d14_75 rfl (pc' := 76) rfl ?_
  refine s_lload W18 d14_76 rfl (pc' := 78) rfl ?_
  refine s_iload W18 d14_78 rfl (pc' := 80) rfl ?_
  refine gPriv W18 fx12 (w_91 hw) (w_92 hw) (w_93 hw) (w_74 hw) rfl (w_36 hw) (w_94 hw) (by decide) pd_6 (ct_plc hw hEL [] a dA hA eA kd kh (0 : Int32) (0 : Int32) x 0 ds hs h7 ⟨fx12, fx13, fx14, fx15, fx16, fx17⟩ N n0_dA n0_hA fx10 fx11 (by decide) (by decide) (by simp [ld]) (by simp [lh])) (by simp) d14_80 (pc' := 83) rfl rfl (argsL := [(.int (0 : Int32)), (.long x), (.long (0 : Int64)), (.int (0 : Int32))]) rfl rfl (rest := []) rfl (wt := 0) (Nat.le_of_eq rfl) (by decide) (by decide) (by decide) (by decide) ?_
  rintro v19 T19 h19 W19 z19 ⟨rfl, Kp, Pd, Ph⟩
  show Go p e below _ T19 (mkF m 83 #[.val (.ref a), .val (.ref y), .val (.long x), .second, .val (.long (0 : Int64)), .second, .val (.int (0 : Int32)), .val (.int (0 : Int32))] [])
  refine s_aloadN W19 d14_83 rfl rfl (pc' := 84) rfl ?_
  refine s_dup W19 d14_84 rfl (pc' := 85) rfl ?_
  have fx20 := (fx8.keep Kp (ninS ad (ninS ah nin0)))
  refine gGetF W19 (host := "") (Or.inl (w_76 hw)) Via.refl fx20 d14_85 (pc' := 88) rfl ?_
  intro T21 W21
  refine s_iconst W21 d14_88 (v := (1 : Int32)) (by decide) (pc' := 89) rfl ?_
  refine s_iadd W21 d14_89 (pc' := 90) rfl ?_
  rw [show ((0 : Int32) + (1 : Int32)) = (1 : Int32) from by decide]
  have fx23 := (fx12.keep Kp)
  refine gPutF W21 n0_a (Or.inr (Or.inl rfl)) (host := "") (Or.inl (w_76 hw)) Via.refl fx20 fx23 (Or.inl (w_77 hw)) (w_35 hw) (ty := .int) (by decide) rfl rfl d14_90 (pc' := 93) rfl ?_
  intro T22 h22 W22 Wr22
  have Fw22 := fx20.same Wr22
  have z22 : h19.size ≤ h22.size := Nat.le_of_eq Wr22.size.symm
  refine s_iload W22 d14_93 rfl (pc' := 95) rfl ?_
  refine s_ifne W22 d14_95 (by decide) (pc1 := 102) (by decide) (pc2 := 98) rfl (fun q => absurd q (by decide)) ?_
  intro q95
  refine s_iconst W22 d14_98 (v := (1 : Int32)) (by decide) (pc' := 99) rfl ?_
  refine s_goto W22 d14_99 (by decide) (pc' := 103) (by decide) ?_
  have fx24 := (Pd.other Wr22 (Ne.symm ad))
  have fx25 := (Ph.other Wr22 (Ne.symm ah))
  have fx26 := (fx23.wr Wr22)
  have fx27 := ((fx13.keep Kp (ninS ad (ninS ah nin0))).other Wr22 (Or.inr (slot_ne (Or.inl (w_45 hw)) (Or.inl (w_77 hw)) (by decide) (t := (.array .long)) (t' := .int) (by decide) (by decide))))
  have fx28 := ((fx14.keep Kp (ninS ad (ninS ah nin0))).other Wr22 (Or.inr (slot_ne (Or.inl (w_63 hw)) (Or.inl (w_77 hw)) (by decide) (t := (.array .int)) (t' := .int) (by decide) (by decide))))
  have fx29 := ((fx15.keep Kp (ninS ad (ninS ah nin0))).other Wr22 (Or.inr (slot_ne (Or.inl (w_66 hw)) (Or.inl (w_77 hw)) (by decide) (t := (.array (.object "java/lang/Object"))) (t' := .int) (by decide) (by decide))))
  have fx30 := ((fx16.keep Kp (ninS ad (ninS ah nin0))).other Wr22 (Or.inr (slot_ne (Or.inr (w_68 hw)) (Or.inl (w_77 hw)) (by decide) (t := (.object "com/example/ripen/ripen/DeadlineHeap$SlotTracker")) (t' := .int) (by decide) (by decide))))
  have fx31 := ((fx17.keep Kp (ninS ad (ninS ah nin0))).other Wr22 (Or.inr (slot_ne (Or.inl (w_70 hw)) (Or.inl (w_77 hw)) (by decide) (t := (.array .long)) (t' := .int) (by decide) (by decide))))
  have fx32 := ((We.keep Kp (ninS (Ne.symm de) (ninS (Ne.symm he) nin0))).other Wr22 (Ne.symm ae))
  exact gRetN W22 hret (by simp) d14_103 (by decide) (by decide) ⟨_, rfl, ((((Keep.refl h0 [a, dA, hA, eA]).trans K7 (allS (Or.inl (by simp)) all0)).trans Kp (allS (Or.inl (by simp)) (allS (Or.inl (by simp)) all0))).wr Wr22 (Or.inl (by simp))), ⟨fx26, fx27, fx28, fx29, fx30, fx31⟩, Fw22, fx32, ⟨fx24, fx25⟩⟩
def Q_ins1 (Z : State) (n0 : Nat) (a dA hA eA : Addr) (y : Addr) (kd kh ke : ClassId) (x x0 : Int64) (t0 : Int32) (ds hs es : List Value) (h0 : Heap) (v : Option Value) (h : Heap) : Prop := ∃ r : Int32, v = some (.int r) ∧ Keep h0 h [a, dA, hA, eA] ∧ HF Z h a dA hA eA ∧ Fld Z h a "com/example/ripen/ripen/DeadlineHeap" "size" "I" (.int (2 : Int32)) ∧ Arv Z h eA ke (.object "java/lang/Object") 16 (es.set 1 (.ref y)) .null ∧ (if x < x0 then Arv Z h dA kd .long 16 ((ds.set 1 (.long x0)).set 0 (.long x)) (.long 0) ∧ Arv Z h hA kh .int 16 ((hs.set 1 (.int t0)).set 0 (.int (1 : Int32))) (.int 0) else Arv Z h dA kd .long 16 (ds.set 1 (.long x)) (.long 0) ∧ Arv Z h hA kh .int 16 (hs.set 1 (.int (1 : Int32))) (.int 0))
set_option maxRecDepth 65536 in
set_option maxHeartbeats 40000000 in
theorem ct_ins1 {l : Launch} {Z : State} {a0 : Array Value} (hw : ∀ d ∈ tables_1, d.before a0 Z = true) (hEL : EW Z a0 EL0) {n0 : Nat} (cds : List Jvm.Cond) (a dA hA eA : Addr) (y : Addr) (kd kh ke : ClassId) (x x0 : Int64) (t0 : Int32) (ds hs es : List Value) (h0 : Heap) (X : HF Z h0 a dA hA eA) (N : DN a dA hA eA) (n0_a : n0 ≤ a) (n0_dA : n0 ≤ dA) (n0_hA : n0 ≤ hA) (n0_eA : n0 ≤ eA) (Vd : Arv Z h0 dA kd .long 16 ds (.long 0)) (Vh : Arv Z h0 hA kh .int 16 hs (.int 0)) (Ve : Arv Z h0 eA ke (.object "java/lang/Object") 16 es .null) (Ov : Ovr Z ke "java/lang/Object") (Ey : Exa Z h0 y "java/lang/String") (Fz : Fld Z h0 a "com/example/ripen/ripen/DeadlineHeap" "size" "I" (.int (1 : Int32))) (ld : ds.length = 16) (lh : hs.length = 16) (le : es.length = 16) (gk : hs.getD 1 (.int 0) = .int (1 : Int32)) (gd : ds.getD 0 (.long 0) = .long x0) (gh : hs.getD 0 (.int 0) = .int t0) :
    Ct l Z a0 EL0 n0 false false (⟨"com/example/ripen/ripen/DeadlineHeap", "insert", "(Ljava/lang/Object;J)Z"⟩ : MethodName) prog_1_method_8_code 8 (Option.some Jvm.ClassFile.FieldType.boolean) cds ({ frames := 4, cells := 0, slots := 0, locals := 63 } : Room) [] #[(.ref a), (.ref y), (.long x)] h0 (Q_ins1 Z n0 a dA hA eA y kd kh ke x x0 t0 ds hs es h0) := by
  refine Ct.of (plainFor_of_name pn_2) hEL ?_
  intro p e s m below meth c T0 W0 hret hnm hs0
  refine Go.cast (ef_RRJ_8 m a y x) ?_
  show Go p e below _ T0 (mkF m 0 #[.val (.ref a), .val (.ref y), .val (.long x), .second, .unset, .unset, .unset, .unset] [])
  obtain ⟨Ea, Fd, Fh, Fe, Ft, Fs⟩ := id X
  have lt_a := natlt Ea.lt
  obtain ⟨ad, ah, ae, dh, de, he⟩ := id N
  have lt_dA := natlt Vd.lt
  have lt_hA := natlt Vh.lt
  have lt_eA := natlt Ve.lt
  refine s_aloadN W0 d14_0 rfl rfl (pc' := 1) rfl ?_
  refine gGetF W0 (host := "") (Or.inl (w_76 hw)) Via.refl Fz d14_1 (pc' := 4) rfl ?_
  intro T1 W1
  refine s_aloadN W1 d14_4 rfl rfl (pc' := 5) rfl ?_
  refine gGetF W1 (host := "") (Or.inl (w_44 hw)) Via.refl Fd d14_5 (pc' := 8) rfl ?_
  intro T2 W2
  refine gLen W2 Vd d14_8 (pc' := 9) rfl ?_
  refine s_icmpne W2 d14_9 (by decide) (pc1 := 16) (by decide) (pc2 := 12) rfl ?_ (fun q => absurd q (by decide))
  intro q9
  refine s_aloadN W2 d14_16 rfl rfl (pc' := 17) rfl ?_
  refine gGetF W2 (host := "") (Or.inl (w_69 hw)) Via.refl Fs d14_17 (pc' := 20) rfl ?_
  intro T3 W3
  refine s_ifnonnull W3 d14_20 rfl (by decide) (pc1 := 27) (by decide) (pc2 := 23) rfl (fun q => (q rfl).elim) ?_
  intro q20
  refine s_lconst W3 d14_23 (v := (0 : Int64)) (by decide) (pc' := 24) rfl ?_
  refine s_goto W3 d14_24 (by decide) (pc' := 38) (by decide) ?_
  refine s_lstore W3 d14_38 (l' := #[.val (.ref a), .val (.ref y), .val (.long x), .second, .val (.long (0 : Int64)), .second, .unset, .unset]) rfl (pc' := 40) rfl ?_
  refine s_aloadN W3 d14_40 rfl rfl (pc' := 41) rfl ?_
  refine gGetF W3 (host := "") (Or.inl (w_62 hw)) Via.refl Fh d14_41 (pc' := 44) rfl ?_
  intro T4 W4
  refine s_aloadN W4 d14_44 rfl rfl (pc' := 45) rfl ?_
  refine gGetF W4 (host := "") (Or.inl (w_76 hw)) Via.refl Fz d14_45 (pc' := 48) rfl ?_
  intro T5 W5
  refine gLdI W5 Vh (idx16 (i := (1 : Int32)) (j := 1) (by decide) (by decide)).1 (v := (.int (1 : Int32))) (by rw [(idx16 (i := (1 : Int32)) (j := 1) (by decide) (by decide)).2]; exact gk) d14_48 (pc' := 49) rfl ?_
  refine s_istore W5 d14_49 (l' := #[.val (.ref a), .val (.ref y), .val (.long x), .second, .val (.long (0 : Int64)), .second, .val (.int (1 : Int32)), .unset]) rfl (pc' := 51) rfl ?_
  refine s_aloadN W5 d14_51 rfl rfl (pc' := 52) rfl ?_
  refine gGetF W5 (host := "") (Or.inl (w_65 hw)) Via.refl Fe d14_52 (pc' := 55) rfl ?_
  intro T6 W6
  refine s_iload W6 d14_55 rfl (pc' := 57) rfl ?_
  refine s_aloadN W6 d14_57 rfl rfl (pc' := 58) rfl ?_
  refine gStA W6 n0_eA Ve rfl (Arv.sto Ve Ov (Ins.of_exa Ey (w_32 hw))) rfl (idx16 (i := (1 : Int32)) (j := 1) (by decide) (by decide)).1 (i := 1) (idx16 (i := (1 : Int32)) (j := 1) (by decide) (by decide)).2 (by rw [le]; decide) d14_58 (pc' := 59) rfl ?_
  intro T7 h7 W7 K7 We
  have z7 : h0.size ≤ h7.size := K7.1
  refine s_aloadN W7 d14_59 rfl rfl (pc' := 60) rfl ?_
  refine s_aloadN W7 d14_60 rfl rfl (pc' := 61) rfl ?_
  have fx8 := (Fz.keep K7 (ninS ae nin0))
  refine gGetF W7 (host := "") (Or.inl (w_76 hw)) Via.refl fx8 d14_61 (pc' := 64) rfl ?_
  intro T9 W9
  refine s_lloadN W9 d14_64 rfl (pc' := 65) rfl ?_
  refine s_lload W9 d14_65 rfl (pc' := 67) rfl ?_
  have fx10 := (Vd.keep K7 (ninS de nin0))
  have fx11 := (Vh.keep K7 (ninS he nin0))
  have fx12 := (Ea.keep K7)
  have fx13 := (Fd.keep K7 (ninS ae nin0))
  have fx14 := (Fh.keep K7 (ninS ae nin0))
  have fx15 := (Fe.keep K7 (ninS ae nin0))
  have fx16 := (Ft.keep K7 (ninS ae nin0))
  have fx17 := (Fs.keep K7 (ninS ae nin0))
  refine gPriv W9 fx12 (w_87 hw) (w_88 hw) (w_89 hw) (w_74 hw) rfl (w_36 hw) (w_90 hw) (by decide) pd_9 (ct_su1 hw hEL [] a dA hA eA kd kh x x0 t0 ds hs h7 ⟨fx12, fx13, fx14, fx15, fx16, fx17⟩ N n0_dA n0_hA fx10 fx11 gd gh ld lh) (by simp) d14_67 (pc' := 70) rfl rfl (argsL := [(.int (1 : Int32)), (.long x), (.long (0 : Int64))]) rfl rfl (rest := []) rfl (wt := 0) (Nat.le_of_eq rfl) (by decide) (by decide) (by decide) (by decide) ?_
  rintro v18 T18 h18 W18 z18 Qu
  unfold Q_su1 at Qu
  by_cases qx : x < x0
  · rw [if_pos qx] at Qu
    obtain ⟨rfl, Ku, Ud, Uh⟩ := Qu
    show Go p e below _ T18 (mkF m 70 #[.val (.ref a), .val (.ref y), .val (.long x), .second, .val (.long (0 : Int64)), .second, .val (.int (1 : Int32)), .unset] [(.int (0 : Int32))])
    refine s_istore W18 d14_70 (l' := #[.val (.ref a), .val (.ref y), .val (.long x), .second, .val (.long (0 : Int64)), .second, .val (.int (1 : Int32)), .val (.int (0 : Int32))]) rfl (pc' := 72) rfl ?_
    refine s_aloadN W18 d14_72 rfl rfl (pc' := 73) rfl ?_
    refine s_iload W18 d14_73 rfl (pc' := 75) rfl ?_
    refine s_lloadN W18 d14_75 rfl (pc' := 76) rfl ?_
    refine s_lload W18 d14_76 rfl (pc' := 78) rfl ?_
    refine s_iload W18 d14_78 rfl (pc' := 80) rfl ?_
    have fx19 := (fx12.keep Ku)
    have fx20 := (fx13.keep Ku (ninS ad (ninS ah nin0)))
    have fx21 := (fx14.keep Ku (ninS ad (ninS ah nin0)))
    have fx22 := (fx15.keep Ku (ninS ad (ninS ah nin0)))
    have fx23 := (fx16.keep Ku (ninS ad (ninS ah nin0)))
    have fx24 := (fx17.keep Ku (ninS ad (ninS ah nin0)))
    refine gPriv W18 fx19 (w_91 hw) (w_92 hw) (w_93 hw) (w_74 hw) rfl (w_36 hw) (w_94 hw) (by decide) pd_6 (ct_plc hw hEL [] a dA hA eA kd kh (0 : Int32) (1 : Int32) x 0 (ds.set 1 (.long x0)) (hs.set 1 (.int t0)) h18 ⟨fx19, fx20, fx21, fx22, fx23, fx24⟩ N n0_dA n0_hA Ud Uh (by decide) (by decide) (by simp [ld]) (by simp [lh])) (by simp) d14_80 (pc' := 83) rfl rfl (argsL := [(.int (0 : Int32)), (.long x), (.long (0 : Int64)), (.int (1 : Int32))]) rfl rfl (rest := []) rfl (wt := 0) (Nat.le_of_eq rfl) (by decide) (by decide) (by decide) (by decide) ?_
    rintro v25 T25 h25 W25 z25 ⟨rfl, Kp, Pd, Ph⟩
    show Go p e below _ T25 (mkF m 83 #[.val (.ref a), .val (.ref y), .val (.long x), .second, .val (.long (0 : Int64)), .second, .val (.int (1 : Int32)), .val (.int (0 : Int32))] [])
    refine s_aloadN W25 d14_83 rfl rfl (pc' := 84) rfl ?_
    refine s_dup W25 d14_84 rfl (pc' := 85) rfl ?_
    have fx26 := ((fx8.keep Ku (ninS ad (ninS ah nin0))).keep Kp (ninS ad (ninS ah nin0)))
    refine gGetF W25 (host := "") (Or.inl (w_76 hw)) Via.refl fx26 d14_85 (pc' := 88) rfl ?_
    intro T27 W27
    refine s_iconst W27 d14_88 (v := (1 : Int32)) (by decide) (pc' := 89) rfl ?_
    refine s_iadd W27 d14_89 (pc' := 90) rfl ?_
    rw [show ((1 : Int32) + (1 : Int32)) = (2 : Int32) from by decide]
    have fx29 := (fx19.keep Kp)
    refine gPutF W27 n0_a (Or.inr (Or.inl rfl)) (host := "") (Or.inl (w_76 hw)) Via.refl fx26 fx29 (Or.inl (w_77 hw)) (w_35 hw) (ty := .int) (by decide) rfl rfl d14_90 (pc' := 93) rfl ?_
    intro T28 h28 W28 Wr28
    have Fw28 := fx26.same Wr28
    have z28 : h25.size ≤ h28.size := Nat.le_of_eq Wr28.size.symm
    refine s_iload W28 d14_93 rfl (pc' := 95) rfl ?_
    refine s_ifne W28 d14_95 (by decide) (pc1 := 102) (by decide) (pc2 := 98) rfl (fun q => absurd q (by decide)) ?_
    intro q95
    refine s_iconst W28 d14_98 (v := (1 : Int32)) (by decide) (pc' := 99) rfl ?_
    refine s_goto W28 d14_99 (by decide) (pc' := 103) (by decide) ?_
    have fx30 := (Pd.other Wr28 (Ne.symm ad))
    have fx31 := (Ph.other Wr28 (Ne.symm ah))
    have fx32 := (fx29.wr Wr28)
    have fx33 := ((fx20.keep Kp (ninS ad (ninS ah nin0))).other Wr28 (Or.inr (slot_ne (Or.inl (w_45 hw)) (Or.inl (w_77 hw)) (by decide) (t := (.array .long)) (t' := .int) (by decide) (by decide))))
    have fx34 := ((fx21.keep Kp (ninS ad (ninS ah nin0))).other Wr28 (Or.inr (slot_ne (Or.inl (w_63 hw)) (Or.inl (w_77 hw)) (by decide) (t := (.array .int)) (t' := .int) (by decide) (by decide))))
    have fx35 := ((fx22.keep Kp (ninS ad (ninS ah nin0))).other Wr28 (Or.inr (slot_ne (Or.inl (w_66 hw)) (Or.inl (w_77 hw)) (by decide) (t := (.array (.object "java/lang/Object"))) (t' := .int) (by decide) (by decide))))
    have fx36 := ((fx23.keep Kp (ninS ad (ninS ah nin0))).other Wr28 (Or.inr (slot_ne (Or.inr (w_68 hw)) (Or.inl (w_77 hw)) (by decide) (t := (.object "com/example/ripen/ripen/DeadlineHeap$SlotTracker")) (t' := .int) (by decide) (by decide))))
    have fx37 := ((fx24.keep Kp (ninS ad (ninS ah nin0))).other Wr28 (Or.inr (slot_ne (Or.inl (w_70 hw)) (Or.inl (w_77 hw)) (by decide) (t := (.array .long)) (t' := .int) (by decide) (by decide))))
    have fx38 := (((We.keep Ku (ninS (Ne.symm de) (ninS (Ne.symm he) nin0))).keep Kp (ninS (Ne.symm de) (ninS (Ne.symm he) nin0))).other Wr28 (Ne.symm ae))
    exact gRetN W28 hret (by simp) d14_103 (by decide) (by decide) ⟨_, rfl, (((((Keep.refl h0 [a, dA, hA, eA]).trans K7 (allS (Or.inl (by simp)) all0)).trans Ku (allS (Or.inl (by simp)) (allS (Or.inl (by simp)) all0))).trans Kp (allS (Or.inl (by simp)) (allS (Or.inl (by simp)) all0))).wr Wr28 (Or.inl (by simp))), ⟨fx32, fx33, fx34, fx35, fx36, fx37⟩, Fw28, fx38, (by rw [if_pos qx]; exact ⟨fx30, fx31⟩)⟩
  · rw [if_neg qx] at Qu
    obtain ⟨rfl, rfl⟩ := Qu
    show Go p e below _ T18 (mkF m 70 #[.val (.ref a), .val (.ref y), .val (.long x), .second, .val (.long (0 : Int64)), .second, .val (.int (1 : Int32)), .unset] [(.int (1 : Int32))])
    refine s_istore W18 d14_70 (l' := #[.val (.ref a), .val (.ref y), .val (.long x), .second, .val (.long (0 : Int64)), .second, .val (.int (1 : Int32)), .val (.int (1 : Int32))]) rfl (pc' := 72) rfl ?_
    refine s_aloadN W18 d14_72 rfl rfl (pc' := 73) rfl ?_
    refine s_iload W18 d14_73 rfl (pc' := 75) rfl ?_
    refine s_lloadN W18 d14_75 rfl (pc' := 76) rfl ?_
    refine s_lload W18 d14_76 rfl (pc' := 78) rfl ?_
    refine s_iload W18 d14_78 rfl (pc' := 80) rfl ?_
    refine gPriv W18 fx12 (w_91 hw) (w_92 hw) (w_93 hw) (w_74 hw) rfl (w_36 hw) (w_94 hw) (by decide) pd_6 (ct_plc hw hEL [] a dA hA eA kd kh (1 : Int32) (1 : Int32) x 1 ds hs h7 ⟨fx12, fx13, fx14, fx15, fx16, fx17⟩ N n0_dA n0_hA fx10 fx11 (by decide) (by decide) (by simp [ld]) (by simp [lh])) (by simp) d14_80 (pc' := 83) rfl rfl (argsL := [(.int (1 : Int32)), (.long x), (.long (0 : Int64)), (.int (1 : Int32))]) rfl rfl (rest := []) rfl (wt := 0) (Nat.le_of_eq rfl) (by decide) (by decide) (by decide) (by decide) ?_
    rintro v39 T39 h39 W39 z39 ⟨rfl, Kp, Pd, Ph⟩
    show Go p e below _ T39 (mkF m 83 #[.val (.ref a), .val (.ref y), .val (.long x), .second, .val (.long (0 : Int64)), .second, .val (.int (1 : Int32)), .val (.int (1 : Int32))] [])
    refine s_aloadN W39 d14_83 rfl rfl (pc' := 84) rfl ?_
    refine s_dup W39 d14_84 rfl (pc' := 85) rfl ?_
    have fx40 := (fx8.keep Kp (ninS ad (ninS ah nin0)))
    refine gGetF W39 (host := "") (Or.inl (w_76 hw)) Via.refl fx40 d14_85 (pc' := 88) rfl ?_
    intro T41 W41
    refine s_iconst W41 d14_88 (v := (1 : Int32)) (by decide) (pc' := 89) rfl ?_
    refine s_iadd W41 d14_89 (pc' := 90) rfl ?_
    rw [show ((1 : Int32) + (1 : Int32)) = (2 : Int32) from by decide]
    have fx43 := (fx12.keep Kp)
    refine gPutF W41 n0_a (Or.inr (Or.inl rfl)) (host := "") (Or.inl (w_76 hw)) Via.refl fx40 fx43 (Or.inl (w_77 hw)) (w_35 hw) (ty := .int) (by decide) rfl rfl d14_90 (pc' := 93) rfl ?_
    intro T42 h42 W42 Wr42
    have Fw42 := fx40.same Wr42
    have z42 : h39.size ≤ h42.size := Nat.le_of_eq Wr42.size.symm
    refine s_iload W42 d14_93 rfl (pc' := 95) rfl ?_
    refine s_ifne W42 d14_95 (by decide) (pc1 := 102) (by decide) (pc2 := 98) rfl ?_ (fun q => absurd q (by decide))
    intro q95
    refine s_iconst W42 d14_102 (v := (0 : Int32)) (by decide) (pc' := 103) rfl ?_
    have fx44 := (Pd.other Wr42 (Ne.symm ad))
    have fx45 := (Ph.other Wr42 (Ne.symm ah))
    have fx46 := (fx43.wr Wr42)
    have fx47 := ((fx13.keep Kp (ninS ad (ninS ah nin0))).other Wr42 (Or.inr (slot_ne (Or.inl (w_45 hw)) (Or.inl (w_77 hw)) (by decide) (t := (.array .long)) (t' := .int) (by decide) (by decide))))
    have fx48 := ((fx14.keep Kp (ninS ad (ninS ah nin0))).other Wr42 (Or.inr (slot_ne (Or.inl (w_63 hw)) (Or.inl (w_77 hw)) (by decide) (t := (.array .int)) (t' := .int) (by decide) (by decide))))
    have fx49 := ((fx15.keep Kp (ninS ad (ninS ah nin0))).other Wr42 (Or.inr (slot_ne (Or.inl (w_66 hw)) (Or.inl (w_77 hw)) (by decide) (t := (.array (.object "java/lang/Object"))) (t' := .int) (by decide) (by decide))))
    have fx50 := ((fx16.keep Kp (ninS ad (ninS ah nin0))).other Wr42 (Or.inr (slot_ne (Or.inr (w_68 hw)) (Or.inl (w_77 hw)) (by decide) (t := (.object "com/example/ripen/ripen/DeadlineHeap$SlotTracker")) (t' := .int) (by decide) (by decide))))
    have fx51 := ((fx17.keep Kp (ninS ad (ninS ah nin0))).other Wr42 (Or.inr (slot_ne (Or.inl (w_70 hw)) (Or.inl (w_77 hw)) (by decide) (t := (.array .long)) (t' := .int) (by decide) (by decide))))
    have fx52 := ((We.keep Kp (ninS (Ne.symm de) (ninS (Ne.symm he) nin0))).other Wr42 (Ne.symm ae))
    exact gRetN W42 hret (by simp) d14_103 (by decide) (by decide) ⟨_, rfl, ((((Keep.refl h0 [a, dA, hA, eA]).trans K7 (allS (Or.inl (by simp)) all0)).trans Kp (allS (Or.inl (by simp)) (allS (Or.inl (by simp)) all0))).wr Wr42 (Or.inl (by simp))), ⟨fx46, fx47, fx48, fx49, fx50, fx51⟩, Fw42, fx52, (by rw [if_neg qx]; exact ⟨fx44, fx45⟩)⟩
def Q_ins2 (Z : State) (n0 : Nat) (a dA hA eA : Addr) (y : Addr) (kd kh ke : ClassId) (x x0 : Int64) (t0 : Int32) (ds hs es : List Value) (h0 : Heap) (v : Option Value) (h : Heap) : Prop := ∃ r : Int32, v = some (.int r) ∧ Keep h0 h [a, dA, hA, eA] ∧ HF Z h a dA hA eA ∧ Fld Z h a "com/example/ripen/ripen/DeadlineHeap" "size" "I" (.int (3 : Int32)) ∧ Arv Z h eA ke (.object "java/lang/Object") 16 (es.set 2 (.ref y)) .null ∧ (if x < x0 then Arv Z h dA kd .long 16 ((ds.set 2 (.long x0)).set 0 (.long x)) (.long 0) ∧ Arv Z h hA kh .int 16 ((hs.set 2 (.int t0)).set 0 (.int (2 : Int32))) (.int 0) else Arv Z h dA kd .long 16 (ds.set 2 (.long x)) (.long 0) ∧ Arv Z h hA kh .int 16 (hs.set 2 (.int (2 : Int32))) (.int 0))
set_option maxRecDepth 65536 in
set_option maxHeartbeats 40000000 in
theorem ct_ins2 {l : Launch} {Z : State} {a0 : Array Value} (hw : ∀ d ∈ tables_1, d.before a0 Z = true) (hEL : EW Z a0 EL0) {n0 : Nat} (cds : List Jvm.Cond) (a dA hA eA : Addr) (y : Addr) (kd kh ke : ClassId) (x x0 : Int64) (t0 : Int32) (ds hs es : List Value) (h0 : Heap) (X : HF Z h0 a dA hA eA) (N : DN a dA hA eA) (n0_a : n0 ≤ a) (n0_dA : n0 ≤ dA) (n0_hA : n0 ≤ hA) (n0_eA : n0 ≤ eA) (Vd : Arv Z h0 dA kd .long 16 ds (.long 0)) (Vh : Arv Z h0 hA kh .int 16 hs (.int 0)) (Ve : Arv Z h0 eA ke (.object "java/lang/Object") 16 es .null) (Ov : Ovr Z ke "java/lang/Object") (Ey : Exa Z h0 y "java/lang/String") (Fz : Fld Z h0 a "com/example/ripen/ripen/DeadlineHeap" "size" "I" (.int (2 : Int32))) (ld : ds.length = 16) (lh : hs.length = 16) (le : es.length = 16) (gk : hs.getD 2 (.int 0) = .int (2 : Int32)) (gd : ds.getD 0 (.long 0) = .long x0) (gh : hs.getD 0 (.int 0) = .int t0) :
    Ct l Z a0 EL0 n0 false false (⟨"com/example/ripen/ripen/DeadlineHeap", "insert", "(Ljava/lang/Object;J)Z"⟩ : MethodName) prog_1_method_8_code 8 (Option.some Jvm.ClassFile.FieldType.boolean) cds ({ frames := 4, cells := 0, slots := 0, locals := 63 } : Room) [] #[(.ref a), (.ref y), (.long x)] h0 (Q_ins2 Z n0 a dA hA eA y kd kh ke x x0 t0 ds hs es h0) := by
  refine Ct.of (plainFor_of_name pn_2) hEL ?_
  intro p e s m below meth c T0 W0 hret hnm hs0
  refine Go.cast (ef_RRJ_8 m a y x) ?_
  show Go p e below _ T0 (mkF m 0 #[.val (.ref a), .val (.ref y), .val (.long x), .second, .unset, .unset, .unset, .unset] [])
  obtain ⟨Ea, Fd, Fh, Fe, Ft, Fs⟩ := id X
  have lt_a := natlt Ea.lt
  obtain ⟨ad, ah, ae, dh, de, he⟩ := id N
  have lt_dA := natlt Vd.lt
  have lt_hA := natlt Vh.lt
  have lt_eA := natlt Ve.lt
  refine s_aloadN W0 d14_0 rfl rfl (pc' := 1) rfl ?_
  refine gGetF W0 (host := "") (Or.inl (w_76 hw)) Via.refl Fz d14_1 (pc' := 4) rfl ?_
  intro T1 W1
  refine s_aloadN W1 d14_4 rfl rfl (pc' := 5) rfl ?_
  refine gGetF W1 (host := "") (Or.inl (w_44 hw)) Via.refl Fd d14_5 (pc' := 8) rfl ?_
  intro T2 W2
  refine gLen W2 Vd d14_8 (pc' := 9) rfl ?_
  refine s_icmpne W2 d14_9 (by decide) (pc1 := 16) (by decide) (pc2 := 12) rfl ?_ (fun q => absurd q (by decide))
  intro q9
  refine s_aloadN W2 d14_16 rfl rfl (pc' := 17) rfl ?_
  refine gGetF W2 (host := "") (Or.inl (w_69 hw)) Via.refl Fs d14_17 (pc' := 20) rfl ?_
  intro T3 W3
  refine s_ifnonnull W3 d14_20 rfl (by decide) (pc1 := 27) (by decide) (pc2 := 23) rfl (fun q => (q rfl).elim) ?_
  intro q20
  refine s_lconst W3 d14_23 (v := (0 : Int64)) (by decide) (pc' := 24) rfl ?_
  refine s_goto W3 d14_24 (by decide) (pc' := 38) (by decide) ?_
  refine s_lstore W3 d14_38 (l' := #[.val (.ref a), .val (.ref y), .val (.long x), .second, .val (.long (0 : Int64)), .second, .unset, .unset]) rfl (pc' := 40) rfl ?_
  refine s_aloadN W3 d14_40 rfl rfl (pc' := 41) rfl ?_
  refine gGetF W3 (host := "") (Or.inl (w_62 hw)) Via.refl Fh d14_41 (pc' := 44) rfl ?_
  intro T4 W4
  refine s_aloadN W4 d14_44 rfl rfl (pc' := 45) rfl ?_
  refine gGetF W4 (host := "") (Or.inl (w_76 hw)) Via.refl Fz d14_45 (pc' := 48) rfl ?_
  intro T5 W5
  refine gLdI W5 Vh (idx16 (i := (2 : Int32)) (j := 2) (by decide) (by decide)).1 (v := (.int (2 : Int32))) (by rw [(idx16 (i := (2 : Int32)) (j := 2) (by decide) (by decide)).2]; exact gk) d14_48 (pc' := 49) rfl ?_
  refine s_istore W5 d14_49 (l' := #[.val (.ref a), .val (.ref y), .val (.long x), .second, .val (.long (0 : Int64)), .second, .val (.int (2 : Int32)), .unset]) rfl (pc' := 51) rfl ?_
  refine s_aloadN W5 d14_51 rfl rfl (pc' := 52) rfl ?_
  refine gGetF W5 (host := "") (Or.inl (w_65 hw)) Via.refl Fe d14_52 (pc' := 55) rfl ?_
  intro T6 W6
  refine s_iload W6 d14_55 rfl (pc' := 57) rfl ?_
  refine s_aloadN W6 d14_57 rfl rfl (pc' := 58) rfl ?_
  refine gStA W6 n0_eA Ve rfl (Arv.sto Ve Ov (Ins.of_exa Ey (w_32 hw))) rfl (idx16 (i := (2 : Int32)) (j := 2) (by decide) (by decide)).1 (i := 2) (idx16 (i := (2 : Int32)) (j := 2) (by decide) (by decide)).2 (by rw [le]; decide) d14_58 (pc' := 59) rfl ?_
  intro T7 h7 W7 K7 We
  have z7 : h0.size ≤ h7.size := K7.1
  refine s_aloadN W7 d14_59 rfl rfl (pc' := 60) rfl ?_
  refine s_aloadN W7 d14_60 rfl rfl (pc' := 61) rfl ?_
  have fx8 := (Fz.keep K7 (ninS ae nin0))
  refine gGetF W7 (host := "") (Or.inl (w_76 hw)) Via.refl fx8 d14_61 (pc' := 64) rfl ?_
  intro T9 W9
  refine s_lloadN W9 d14_64 rfl (pc' := 65) rfl ?_
  refine s_lload W9 d14_65 rfl (pc' := 67) rfl ?_
  have fx10 := (Vd.keep K7 (ninS de nin0))
  have fx11 := (Vh.keep K7 (ninS he nin0))
  have fx12 := (Ea.keep K7)
  have fx13 := (Fd.keep K7 (ninS ae nin0))
  have fx14 := (Fh.keep K7 (ninS ae nin0))
  have fx15 := (Fe.keep K7 (ninS ae nin0))
  have fx16 := (Ft.keep K7 (ninS ae nin0))
  have fx17 := (Fs.keep K7 (ninS ae nin0))
  refine gPriv W9 fx12 (w_87 hw) (w_88 hw) (w_89 hw) (w_74 hw) rfl (w_36 hw) (w_90 hw) (by decide) pd_9 (ct_su2 hw hEL [] a dA hA eA kd kh x x0 t0 ds hs h7 ⟨fx12, fx13, fx14, fx15, fx16, fx17⟩ N n0_dA n0_hA fx10 fx11 gd gh ld lh) (by simp) d14_67 (pc' := 70) rfl rfl (argsL := [(.int (2 : Int32)), (.long x), (.long (0 : Int64))]) rfl rfl (rest := []) rfl (wt := 0) (Nat.le_of_eq rfl) (by decide) (by decide) (by decide) (by decide) ?_
  rintro v18 T18 h18 W18 z18 Qu
  unfold Q_su2 at Qu
  by_cases qx : x < x0
  · rw [if_pos qx] at Qu
    obtain ⟨rfl, Ku, Ud, Uh⟩ := Qu
    show Go p e below _ T18 (mkF m 70 #[.val (.ref a), .val (.ref y), .val (.long x), .second, .val (.long (0 : Int64)), .second, .val (.int (2 : Int32)), .unset] [(.int (0 : Int32))])
    refine s_istore W18 d14_70 (l' := #[.val (.ref a), .val (.ref y), .val (.long x), .second, .val (.long (0 : Int64)), .second, .val (.int (2 : Int32)), .val (.int (0 : Int32))]) rfl (pc' := 72) rfl ?_
    refine s_aloadN W18 d14_72 rfl rfl (pc' := 73) rfl ?_
    refine s_iload W18 d14_73 rfl (pc' := 75) rfl ?_
    refine s_lloadN W18 d14_75 rfl (pc' := 76) rfl ?_
    refine s_lload W18 d14_76 rfl (pc' := 78) rfl ?_
    refine s_iload W18 d14_78 rfl (pc' := 80) rfl ?_
    have fx19 := (fx12.keep Ku)
    have fx20 := (fx13.keep Ku (ninS ad (ninS ah nin0)))
    have fx21 := (fx14.keep Ku (ninS ad (ninS ah nin0)))
    have fx22 := (fx15.keep Ku (ninS ad (ninS ah nin0)))
    have fx23 := (fx16.keep Ku (ninS ad (ninS ah nin0)))
    have fx24 := (fx17.keep Ku (ninS ad (ninS ah nin0)))
    refine gPriv W18 fx19 (w_91 hw) (w_92 hw) (w_93 hw) (w_74 hw) rfl (w_36 hw) (w_94 hw) (by decide) pd_6 (ct_plc hw hEL [] a dA hA eA kd kh (0 : Int32) (2 : Int32) x 0 (ds.set 2 (.long x0)) (hs.set 2 (.int t0)) h18 ⟨fx19, fx20, fx21, fx22, fx23, fx24⟩ N n0_dA n0_hA Ud Uh (by decide) (by decide) (by simp [ld]) (by simp [lh])) (by simp) d14_80 (pc' := 83) rfl rfl (argsL := [(.int (0 : Int32)), (.long x), (.long (0 : Int64)), (.int (2 : Int32))]) rfl rfl (rest := []) rfl (wt := 0) (Nat.le_of_eq rfl) (by decide) (by decide) (by decide) (by decide) ?_
    rintro v25 T25 h25 W25 z25 ⟨rfl, Kp, Pd, Ph⟩
    show Go p e below _ T25 (mkF m 83 #[.val (.ref a), .val (.ref y), .val (.long x), .second, .val (.long (0 : Int64)), .second, .val (.int (2 : Int32)), .val (.int (0 : Int32))] [])
    refine s_aloadN W25 d14_83 rfl rfl (pc' := 84) rfl ?_
    refine s_dup W25 d14_84 rfl (pc' := 85) rfl ?_
    have fx26 := ((fx8.keep Ku (ninS ad (ninS ah nin0))).keep Kp (ninS ad (ninS ah nin0)))
    refine gGetF W25 (host := "") (Or.inl (w_76 hw)) Via.refl fx26 d14_85 (pc' := 88) rfl ?_
    intro T27 W27
    refine s_iconst W27 d14_88 (v := (1 : Int32)) (by decide) (pc' := 89) rfl ?_
    refine s_iadd W27 d14_89 (pc' := 90) rfl ?_
    rw [show ((2 : Int32) + (1 : Int32)) = (3 : Int32) from by decide]
    have fx29 := (fx19.keep Kp)
    refine gPutF W27 n0_a (Or.inr (Or.inl rfl)) (host := "") (Or.inl (w_76 hw)) Via.refl fx26 fx29 (Or.inl (w_77 hw)) (w_35 hw) (ty := .int) (by decide) rfl rfl d14_90 (pc' := 93) rfl ?_
    intro T28 h28 W28 Wr28
    have Fw28 := fx26.same Wr28
    have z28 : h25.size ≤ h28.size := Nat.le_of_eq Wr28.size.symm
    refine s_iload W28 d14_93 rfl (pc' := 95) rfl ?_
    refine s_ifne W28 d14_95 (by decide) (pc1 := 102) (by decide) (pc2 := 98) rfl (fun q => absurd q (by decide)) ?_
    intro q95
    refine s_iconst W28 d14_98 (v := (1 : Int32)) (by decide) (pc' := 99) rfl ?_
    refine s_goto W28 d14_99 (by decide) (pc' := 103) (by decide) ?_
    have fx30 := (Pd.other Wr28 (Ne.symm ad))
    have fx31 := (Ph.other Wr28 (Ne.symm ah))
    have fx32 := (fx29.wr Wr28)
    have fx33 := ((fx20.keep Kp (ninS ad (ninS ah nin0))).other Wr28 (Or.inr (slot_ne (Or.inl (w_45 hw)) (Or.inl (w_77 hw)) (by decide) (t := (.array .long)) (t' := .int) (by decide) (by decide))))
    have fx34 := ((fx21.keep Kp (ninS ad (ninS ah nin0))).other Wr28 (Or.inr (slot_ne (Or.inl (w_63 hw)) (Or.inl (w_77 hw)) (by decide) (t := (.array .int)) (t' := .int) (by decide) (by decide))))
    have fx35 := ((fx22.keep Kp (ninS ad (ninS ah nin0))).other Wr28 (Or.inr (slot_ne (Or.inl (w_66 hw)) (Or.inl (w_77 hw)) (by decide) (t := (.array (.object "java/lang/Object"))) (t' := .int) (by decide) (by decide))))
    have fx36 := ((fx23.keep Kp (ninS ad (ninS ah nin0))).other Wr28 (Or.inr (slot_ne (Or.inr (w_68 hw)) (Or.inl (w_77 hw)) (by decide) (t := (.object "com/example/ripen/ripen/DeadlineHeap$SlotTracker")) (t' := .int) (by decide) (by decide))))
    have fx37 := ((fx24.keep Kp (ninS ad (ninS ah nin0))).other Wr28 (Or.inr (slot_ne (Or.inl (w_70 hw)) (Or.inl (w_77 hw)) (by decide) (t := (.array .long)) (t' := .int) (by decide) (by decide))))
    have fx38 := (((We.keep Ku (ninS (Ne.symm de) (ninS (Ne.symm he) nin0))).keep Kp (ninS (Ne.symm de) (ninS (Ne.symm he) nin0))).other Wr28 (Ne.symm ae))
    exact gRetN W28 hret (by simp) d14_103 (by decide) (by decide) ⟨_, rfl, (((((Keep.refl h0 [a, dA, hA, eA]).trans K7 (allS (Or.inl (by simp)) all0)).trans Ku (allS (Or.inl (by simp)) (allS (Or.inl (by simp)) all0))).trans Kp (allS (Or.inl (by simp)) (allS (Or.inl (by simp)) all0))).wr Wr28 (Or.inl (by simp))), ⟨fx32, fx33, fx34, fx35, fx36, fx37⟩, Fw28, fx38, (by rw [if_pos qx]; exact ⟨fx30, fx31⟩)⟩
  · rw [if_neg qx] at Qu
    obtain ⟨rfl, rfl⟩ := Qu
    show Go p e below _ T18 (mkF m 70 #[.val (.ref a), .val (.ref y), .val (.long x), .second, .val (.long (0 : Int64)), .second, .val (.int (2 : Int32)), .unset] [(.int (2 : Int32))])
    refine s_istore W18 d14_70 (l' := #[.val (.ref a), .val (.ref y), .val (.long x), .second, .val (.long (0 : Int64)), .second, .val (.int (2 : Int32)), .val (.int (2 : Int32))]) rfl (pc' := 72) rfl ?_
    refine s_aloadN W18 d14_72 rfl rfl (pc' := 73) rfl ?_
    refine s_iload W18 d14_73 rfl (pc' := 75) rfl ?_
    refine s_lloadN W18 d14_75 rfl (pc' := 76) rfl ?_
    refine s_lload W18 d14_76 rfl (pc' := 78) rfl ?_
    refine s_iload W18 d14_78 rfl (pc' := 80) rfl ?_
    refine gPriv W18 fx12 (w_91 hw) (w_92 hw) (w_93 hw) (w_74 hw) rfl (w_36 hw) (w_94 hw) (by decide) pd_6 (ct_plc hw hEL [] a dA hA eA kd kh (2 : Int32) (2 : Int32) x 2 ds hs h7 ⟨fx12, fx13, fx14, fx15, fx16, fx17⟩ N n0_dA n0_hA fx10 fx11 (by decide) (by decide) (by simp [ld]) (by simp [lh])) (by simp) d14_80 (pc' := 83) rfl rfl (argsL := [(.int (2 : Int32)), (.long x), (.long (0 : Int64)), (.int (2 : Int32))]) rfl rfl (rest := []) rfl (wt := 0) (Nat.le_of_eq rfl) (by decide) (by decide) (by decide) (by decide) ?_
    rintro v39 T39 h39 W39 z39 ⟨rfl, Kp, Pd, Ph⟩
    show Go p e below _ T39 (mkF m 83 #[.val (.ref a), .val (.ref y), .val (.long x), .second, .val (.long (0 : Int64)), .second, .val (.int (2 : Int32)), .val (.int (2 : Int32))] [])
    refine s_aloadN W39 d14_83 rfl rfl (pc' := 84) rfl ?_
    refine s_dup W39 d14_84 rfl (pc' := 85) rfl ?_
    have fx40 := (fx8.keep Kp (ninS ad (ninS ah nin0)))
    refine gGetF W39 (host := "") (Or.inl (w_76 hw)) Via.refl fx40 d14_85 (pc' := 88) rfl ?_
    intro T41 W41
    refine s_iconst W41 d14_88 (v := (1 : Int32)) (by decide) (pc' := 89) rfl ?_
    refine s_iadd W41 d14_89 (pc' := 90) rfl ?_
    rw [show ((2 : Int32) + (1 : Int32)) = (3 : Int32) from by decide]
    have fx43 := (fx12.keep Kp)
    refine gPutF W41 n0_a (Or.inr (Or.inl rfl)) (host := "") (Or.inl (w_76 hw)) Via.refl fx40 fx43 (Or.inl (w_77 hw)) (w_35 hw) (ty := .int) (by decide) rfl rfl d14_90 (pc' := 93) rfl ?_
    intro T42 h42 W42 Wr42
    have Fw42 := fx40.same Wr42
    have z42 : h39.size ≤ h42.size := Nat.le_of_eq Wr42.size.symm
    refine s_iload W42 d14_93 rfl (pc' := 95) rfl ?_
    refine s_ifne W42 d14_95 (by decide) (pc1 := 102) (by decide) (pc2 := 98) rfl ?_ (fun q => absurd q (by decide))
    intro q95
    refine s_iconst W42 d14_102 (v := (0 : Int32)) (by decide) (pc' := 103) rfl ?_
    have fx44 := (Pd.other Wr42 (Ne.symm ad))
    have fx45 := (Ph.other Wr42 (Ne.symm ah))
    have fx46 := (fx43.wr Wr42)
    have fx47 := ((fx13.keep Kp (ninS ad (ninS ah nin0))).other Wr42 (Or.inr (slot_ne (Or.inl (w_45 hw)) (Or.inl (w_77 hw)) (by decide) (t := (.array .long)) (t' := .int) (by decide) (by decide))))
    have fx48 := ((fx14.keep Kp (ninS ad (ninS ah nin0))).other Wr42 (Or.inr (slot_ne (Or.inl (w_63 hw)) (Or.inl (w_77 hw)) (by decide) (t := (.array .int)) (t' := .int) (by decide) (by decide))))
    have fx49 := ((fx15.keep Kp (ninS ad (ninS ah nin0))).other Wr42 (Or.inr (slot_ne (Or.inl (w_66 hw)) (Or.inl (w_77 hw)) (by decide) (t := (.array (.object "java/lang/Object"))) (t' := .int) (by decide) (by decide))))
    have fx50 := ((fx16.keep Kp (ninS ad (ninS ah nin0))).other Wr42 (Or.inr (slot_ne (Or.inr (w_68 hw)) (Or.inl (w_77 hw)) (by decide) (t := (.object "com/example/ripen/ripen/DeadlineHeap$SlotTracker")) (t' := .int) (by decide) (by decide))))
    have fx51 := ((fx17.keep Kp (ninS ad (ninS ah nin0))).other Wr42 (Or.inr (slot_ne (Or.inl (w_70 hw)) (Or.inl (w_77 hw)) (by decide) (t := (.array .long)) (t' := .int) (by decide) (by decide))))
    have fx52 := ((We.keep Kp (ninS (Ne.symm de) (ninS (Ne.symm he) nin0))).other Wr42 (Ne.symm ae))
    exact gRetN W42 hret (by simp) d14_103 (by decide) (by decide) ⟨_, rfl, ((((Keep.refl h0 [a, dA, hA, eA]).trans K7 (allS (Or.inl (by simp)) all0)).trans Kp (allS (Or.inl (by simp)) (allS (Or.inl (by simp)) all0))).wr Wr42 (Or.inl (by simp))), ⟨fx46, fx47, fx48, fx49, fx50, fx51⟩, Fw42, fx52, (by rw [if_neg qx]; exact ⟨fx44, fx45⟩)⟩
def Q_rem10 (Z : State) (n0 : Nat) (a dA hA eA : Addr) (y : Addr) (kd kh ke : ClassId) (xl : Int64) (tr tl : Int32) (t : Nat) (ds hs es : List Value) (h0 : Heap) (v : Option Value) (h : Heap) : Prop := v = some (.ref y) ∧ Keep h0 h [a, dA, hA, eA] ∧ HF Z h a dA hA eA ∧ Fld Z h a "com/example/ripen/ripen/DeadlineHeap" "size" "I" (.int (0 : Int32)) ∧ Arv Z h eA ke (.object "java/lang/Object") 16 (es.set t .null) .null ∧ (Arv Z h dA kd .long 16 ds (.long 0) ∧ Arv Z h hA kh .int 16 (hs.set 0 (.int tr)) (.int 0))
set_option maxRecDepth 65536 in
set_option maxHeartbeats 40000000 in
theorem ct_rem10 {l : Launch} {Z : State} {a0 : Array Value} (hw : ∀ d ∈ tables_1, d.before a0 Z = true) (hEL : EW Z a0 EL0) {n0 : Nat} (cds : List Jvm.Cond) (a dA hA eA : Addr) (y : Addr) (kd kh ke : ClassId) (xl : Int64) (tr tl : Int32) (t : Nat) (ds hs es : List Value) (h0 : Heap) (X : HF Z h0 a dA hA eA) (N : DN a dA hA eA) (n0_a : n0 ≤ a) (n0_dA : n0 ≤ dA) (n0_hA : n0 ≤ hA) (n0_eA : n0 ≤ eA) (Vd : Arv Z h0 dA kd .long 16 ds (.long 0)) (Vh : Arv Z h0 hA kh .int 16 hs (.int 0)) (Ve : Arv Z h0 eA ke (.object "java/lang/Object") 16 es .null) (Fz : Fld Z h0 a "com/example/ripen/ripen/DeadlineHeap" "size" "I" (.int (1 : Int32))) (ld : ds.length = 16) (lh : hs.length = 16) (le : es.length = 16) (gr : hs.getD 0 (.int 0) = .int tr) (ht : tr.toInt = t) (ht2 : t < 16) (ge : es.getD t .null = .ref y) (gl : ds.getD 0 (.long 0) = .long xl) (gm : hs.getD 0 (.int 0) = .int tl) :
    Ct l Z a0 EL0 n0 false false (⟨"com/example/ripen/ripen/DeadlineHeap", "removeAt", "(I)Ljava/lang/Object;"⟩ : MethodName) prog_1_method_9_code 11 (Option.some (Jvm.ClassFile.FieldType.object "java/lang/Object")) cds ({ frames := 1, cells := 0, slots := 0, locals := 13 } : Room) [] #[(.ref a), (.int (0 : Int32))] h0 (Q_rem10 Z n0 a dA hA eA y kd kh ke xl tr tl t ds hs es h0) := by
  refine Ct.of (plainFor_of_name pn_2) hEL ?_
  intro p e s m below meth c T0 W0 hret hnm hs0
  refine Go.cast (ef_RI_11 m a (0 : Int32)) ?_
  show Go p e below _ T0 (mkF m 0 #[.val (.ref a), .val (.int (0 : Int32)), .unset, .unset, .unset, .unset, .unset, .unset, .unset, .unset, .unset] [])
  obtain ⟨Ea, Fd, Fh, Fe, Ft, Fs⟩ := id X
  have lt_a := natlt Ea.lt
  obtain ⟨ad, ah, ae, dh, de, he⟩ := id N
  have lt_dA := natlt Vd.lt
  have lt_hA := natlt Vh.lt
  have lt_eA := natlt Ve.lt
  refine s_aloadN W0 d21_0 rfl rfl (pc' := 1) rfl ?_
  refine gGetF W0 (host := "") (Or.inl (w_62 hw)) Via.refl Fh d21_1 (pc' := 4) rfl ?_
  intro T1 W1
  refine s_iloadN W1 d21_4 rfl (pc' := 5) rfl ?_
  refine gLdI W1 Vh (idx16 (i := (0 : Int32)) (j := 0) (by decide) (by decide)).1 (v := (.int tr)) (by rw [(idx16 (i := (0 : Int32)) (j := 0) (by decide) (by decide)).2]; exact gr) d21_5 (pc' := 6) rfl ?_
  refine s_istoreN W1 d21_6 (l' := #[.val (.ref a), .val (.int (0 : Int32)), .val (.int tr), .unset, .unset, .unset, .unset, .unset, .unset, .unset, .unset]) rfl (pc' := 7) rfl ?_
  refine s_aloadN W1 d21_7 rfl rfl (pc' := 8) rfl ?_
  refine s_iloadN W1 d21_8 rfl (pc' := 9) rfl ?_
  refine gVirtual W1 Ea (w_116 hw) (w_117 hw) (fun s hZ => notFace_of_selects (args := #[]) (mv hZ (w_119 hw))) (w_119 hw) (w_118 hw) (w_36 hw) (w_120 hw) (by decide) pd_10 (ct_ela hw hEL [] a dA hA eA kh ke (0 : Int32) tr 0 t hs es (.ref y) h0 ⟨Ea, Fd, Fh, Fe, Ft, Fs⟩ Vh Ve (by decide) (by decide) gr ht ht2 ge rfl) (by simp) d21_9 (pc' := 12) rfl rfl (argsL := [(.int (0 : Int32))]) rfl rfl (rest := []) rfl (wt := 0) (Nat.le_of_eq rfl) (by decide) (by decide) (by decide) (by decide) ?_
  rintro v2 T2 h2 W2 z2 ⟨rfl, rfl⟩
  show Go p e below _ T2 (mkF m 12 #[.val (.ref a), .val (.int (0 : Int32)), .val (.int tr), .unset, .unset, .unset, .unset, .unset, .unset, .unset, .unset] [(.ref y)])
  refine s_astoreN W2 d21_12 rfl (l' := #[.val (.ref a), .val (.int (0 : Int32)), .val (.int tr), .val (.ref y), .unset, .unset, .unset, .unset, .unset, .unset, .unset]) rfl (pc' := 13) rfl ?_
  refine s_aloadN W2 d21_13 rfl rfl (pc' := 14) rfl ?_
  refine gGetF W2 (host := "") (Or.inl (w_65 hw)) Via.refl Fe d21_14 (pc' := 17) rfl ?_
  intro T3 W3
  refine s_iloadN W3 d21_17 rfl (pc' := 18) rfl ?_
  refine s_aconst_null W3 d21_18 (pc' := 19) rfl ?_
  refine gStA W3 n0_eA Ve rfl (Or.inl rfl) rfl (idx16 ht ht2).1 (i := t) (idx16 ht ht2).2 (by rw [le]; exact ht2) d21_19 (pc' := 20) rfl ?_
  intro T4 h4 W4 K4 We
  have z4 : h0.size ≤ h4.size := K4.1
  refine s_aloadN W4 d21_20 rfl rfl (pc' := 21) rfl ?_
  refine s_dup W4 d21_21 rfl (pc' := 22) rfl ?_
  have fx5 := (Fz.keep K4 (ninS ae nin0))
  refine gGetF W4 (host := "") (Or.inl (w_76 hw)) Via.refl fx5 d21_22 (pc' := 25) rfl ?_
  intro T6 W6
  refine s_iconst W6 d21_25 (v := (1 : Int32)) (by decide) (pc' := 26) rfl ?_
  refine s_isub W6 d21_26 (pc' := 27) rfl ?_
  rw [show ((1 : Int32) - (1 : Int32)) = (0 : Int32) from by decide]
  refine s_dup_x1 W6 d21_27 rfl rfl (pc' := 28) rfl ?_
  have fx8 := (Ea.keep K4)
  refine gPutF W6 n0_a (Or.inr (Or.inl rfl)) (host := "") (Or.inl (w_76 hw)) Via.refl fx5 fx8 (Or.inl (w_77 hw)) (w_35 hw) (ty := .int) (by decide) rfl rfl d21_28 (pc' := 31) rfl ?_
  intro T7 h7 W7 Wr7
  have Fw7 := fx5.same Wr7
  have z7 : h4.size ≤ h7.size := Nat.le_of_eq Wr7.size.symm
  refine s_istore W7 d21_31 (l' := #[.val (.ref a), .val (.int (0 : Int32)), .val (.int tr), .val (.ref y), .val (.int (0 : Int32)), .unset, .unset, .unset, .unset, .unset, .unset]) rfl (pc' := 33) rfl ?_
  refine s_aloadN W7 d21_33 rfl rfl (pc' := 34) rfl ?_
  have fx9 := ((Fd.keep K4 (ninS ae nin0)).other Wr7 (Or.inr (slot_ne (Or.inl (w_45 hw)) (Or.inl (w_77 hw)) (by decide) (t := (.array .long)) (t' := .int) (by decide) (by decide))))
  refine gGetF W7 (host := "") (Or.inl (w_44 hw)) Via.refl fx9 d21_34 (pc' := 37) rfl ?_
  intro T10 W10
  refine s_iload W10 d21_37 rfl (pc' := 39) rfl ?_
  have fx11 := ((Vd.keep K4 (ninS de nin0)).other Wr7 (Ne.symm ad))
  refine gLdJ W10 fx11 (idx16 (i := (0 : Int32)) (j := 0) (by decide) (by decide)).1 (v := (.long xl)) (by rw [(idx16 (i := (0 : Int32)) (j := 0) (by decide) (by decide)).2]; exact gl) d21_39 (pc' := 40) rfl ?_
  refine s_lstore W10 d21_40 (l' := #[.val (.ref a), .val (.int (0 : Int32)), .val (.int tr), .val (.ref y), .val (.int (0 : Int32)), .val (.long xl), .second, .unset, .unset, .unset, .unset]) rfl (pc' := 42) rfl ?_
  refine s_aloadN W10 d21_42 rfl rfl (pc' := 43) rfl ?_
  refine s_iload W10 d21_43 rfl (pc' := 45) rfl ?_
  have fx12 := (fx8.wr Wr7)
  have fx13 := ((Fh.keep K4 (ninS ae nin0)).other Wr7 (Or.inr (slot_ne (Or.inl (w_63 hw)) (Or.inl (w_77 hw)) (by decide) (t := (.array .int)) (t' := .int) (by decide) (by decide))))
  have fx14 := ((Fe.keep K4 (ninS ae nin0)).other Wr7 (Or.inr (slot_ne (Or.inl (w_66 hw)) (Or.inl (w_77 hw)) (by decide) (t := (.array (.object "java/lang/Object"))) (t' := .int) (by decide) (by decide))))
  have fx15 := ((Ft.keep K4 (ninS ae nin0)).other Wr7 (Or.inr (slot_ne (Or.inr (w_68 hw)) (Or.inl (w_77 hw)) (by decide) (t := (.object "com/example/ripen/ripen/DeadlineHeap$SlotTracker")) (t' := .int) (by decide) (by decide))))
  have fx16 := ((Fs.keep K4 (ninS ae nin0)).other Wr7 (Or.inr (slot_ne (Or.inl (w_70 hw)) (Or.inl (w_77 hw)) (by decide) (t := (.array .long)) (t' := .int) (by decide) (by decide))))
  refine gPriv W10 fx12 (w_99 hw) (w_100 hw) (w_101 hw) (w_74 hw) rfl (w_36 hw) (w_102 hw) (by decide) pd_5 (ct_sqa hw hEL [] a dA hA eA (0 : Int32) h7 ⟨fx12, fx9, fx13, fx14, fx15, fx16⟩) (by simp) d21_45 (pc' := 48) rfl rfl (argsL := [(.int (0 : Int32))]) rfl rfl (rest := []) rfl (wt := 0) (Nat.le_of_eq rfl) (by decide) (by decide) (by decide) (by decide) ?_
  rintro v17 T17 h17 W17 z17 ⟨rfl, rfl⟩
  show Go p e below _ T17 (mkF m 48 #[.val (.ref a), .val (.int (0 : Int32)), .val (.int tr), .val (.ref y), .val (.int (0 : Int32)), .val (.long xl), .second, .unset, .unset, .unset, .unset] [(.long (0 : Int64))])
  refine s_lstore W17 d21_48 (l' := #[.val (.ref a), .val (.int (0 : Int32)), .val (.int tr), .val (.ref y), .val (.int (0 : Int32)), .val (.long xl), .second, .val (.long (0 : Int64)), .second, .unset, .unset]) rfl (pc' := 50) rfl ?_
  refine s_aloadN W17 d21_50 rfl rfl (pc' := 51) rfl ?_
  refine gGetF W17 (host := "") (Or.inl (w_62 hw)) Via.refl fx13 d21_51 (pc' := 54) rfl ?_
  intro T18 W18
  refine s_iload W18 d21_54 rfl (pc' := 56) rfl ?_
  have fx19 := ((Vh.keep K4 (ninS he nin0)).other Wr7 (Ne.symm ah))
  refine gLdI W18 fx19 (idx16 (i := (0 : Int32)) (j := 0) (by decide) (by decide)).1 (v := (.int tl)) (by rw [(idx16 (i := (0 : Int32)) (j := 0) (by decide) (by decide)).2]; exact gm) d21_56 (pc' := 57) rfl ?_
  refine s_istore W18 d21_57 (l' := #[.val (.ref a), .val (.int (0 : Int32)), .val (.int tr), .val (.ref y), .val (.int (0 : Int32)), .val (.long xl), .second, .val (.long (0 : Int64)), .second, .val (.int tl), .unset]) rfl (pc' := 59) rfl ?_
  refine s_iloadN W18 d21_59 rfl (pc' := 60) rfl ?_
  refine s_iload W18 d21_60 rfl (pc' := 62) rfl ?_
  refine s_icmpge W18 d21_62 (by decide) (pc1 := 105) (by decide) (pc2 := 65) rfl ?_ (fun q => absurd q (by decide))
  intro q62
  refine s_aloadN W18 d21_105 rfl rfl (pc' := 106) rfl ?_
  refine gGetF W18 (host := "") (Or.inl (w_62 hw)) Via.refl fx13 d21_106 (pc' := 109) rfl ?_
  intro T20 W20
  refine s_iload W20 d21_109 rfl (pc' := 111) rfl ?_
  refine s_iloadN W20 d21_111 rfl (pc' := 112) rfl ?_
  refine gStI W20 n0_hA fx19 (idx16 (i := (0 : Int32)) (j := 0) (by decide) (by decide)).1 (i := 0) (idx16 (i := (0 : Int32)) (j := 0) (by decide) (by decide)).2 (by simp [lh]) d21_112 (pc' := 113) rfl ?_
  intro T21 h21 W21 K21 Wl
  have z21 : h7.size ≤ h21.size := K21.1
  refine s_aloadN W21 d21_113 rfl rfl (pc' := 114) rfl ?_
  refine s_aloadN W21 d21_114 rfl rfl (pc' := 115) rfl ?_
  have fx22 := (fx12.keep K21)
  have fx23 := (fx9.keep K21 (ninS ah nin0))
  have fx24 := (fx13.keep K21 (ninS ah nin0))
  have fx25 := (fx14.keep K21 (ninS ah nin0))
  have fx26 := (fx15.keep K21 (ninS ah nin0))
  have fx27 := (fx16.keep K21 (ninS ah nin0))
  refine gPriv W21 fx22 (w_121 hw) (w_122 hw) (w_123 hw) (w_74 hw) rfl (w_36 hw) (w_124 hw) (by decide) pd_11 (ct_rlf hw hEL [] a dA hA eA y h21 ⟨fx22, fx23, fx24, fx25, fx26, fx27⟩) (by simp) d21_115 (pc' := 118) rfl rfl (argsL := [(.ref y)]) rfl rfl (rest := []) rfl (wt := 0) (Nat.le_of_eq rfl) (by decide) (by decide) (by decide) (by decide) ?_
  rintro v28 T28 h28 W28 z28 ⟨rfl, rfl⟩
  show Go p e below _ T28 (mkF m 118 #[.val (.ref a), .val (.int (0 : Int32)), .val (.int tr), .val (.ref y), .val (.int (0 : Int32)), .val (.long xl), .second, .val (.long (0 : Int64)), .second, .val (.int tl), .unset] [])
  refine s_aloadN W28 d21_118 rfl rfl (pc' := 119) rfl ?_
  have fx29 := (fx11.keep K21 (ninS dh nin0))
  have fx30 := (Fw7.keep K21 (ninS ah nin0))
  have fx31 := ((We.other Wr7 (Ne.symm ae)).keep K21 (ninS (Ne.symm he) nin0))
  exact gRetA W28 hret rfl rfl d21_119 (by decide) (by decide) ⟨rfl, ((((Keep.refl h0 [a, dA, hA, eA]).trans K4 (allS (Or.inl (by simp)) all0)).wr Wr7 (Or.inl (by simp))).trans K21 (allS (Or.inl (by simp)) all0)), ⟨fx22, fx23, fx24, fx25, fx26, fx27⟩, fx30, fx31, ⟨fx29, Wl⟩⟩
def Q_rem20 (Z : State) (n0 : Nat) (a dA hA eA : Addr) (y : Addr) (kd kh ke : ClassId) (xl : Int64) (tr tl : Int32) (t : Nat) (ds hs es : List Value) (h0 : Heap) (v : Option Value) (h : Heap) : Prop := v = some (.ref y) ∧ Keep h0 h [a, dA, hA, eA] ∧ HF Z h a dA hA eA ∧ Fld Z h a "com/example/ripen/ripen/DeadlineHeap" "size" "I" (.int (1 : Int32)) ∧ Arv Z h eA ke (.object "java/lang/Object") 16 (es.set t .null) .null ∧ (Arv Z h dA kd .long 16 (ds.set 0 (.long xl)) (.long 0) ∧ Arv Z h hA kh .int 16 ((hs.set 0 (.int tl)).set 1 (.int tr)) (.int 0))
set_option maxRecDepth 65536 in
set_option maxHeartbeats 40000000 in
theorem ct_rem20 {l : Launch} {Z : State} {a0 : Array Value} (hw : ∀ d ∈ tables_1, d.before a0 Z = true) (hEL : EW Z a0 EL0) {n0 : Nat} (cds : List Jvm.Cond) (a dA hA eA : Addr) (y : Addr) (kd kh ke : ClassId) (xl : Int64) (tr tl : Int32) (t : Nat) (ds hs es : List Value) (h0 : Heap) (X : HF Z h0 a dA hA eA) (N : DN a dA hA eA) (n0_a : n0 ≤ a) (n0_dA : n0 ≤ dA) (n0_hA : n0 ≤ hA) (n0_eA : n0 ≤ eA) (Vd : Arv Z h0 dA kd .long 16 ds (.long 0)) (Vh : Arv Z h0 hA kh .int 16 hs (.int 0)) (Ve : Arv Z h0 eA ke (.object "java/lang/Object") 16 es .null) (Fz : Fld Z h0 a "com/example/ripen/ripen/DeadlineHeap" "size" "I" (.int (2 : Int32))) (ld : ds.length = 16) (lh : hs.length = 16) (le : es.length = 16) (gr : hs.getD 0 (.int 0) = .int tr) (ht : tr.toInt = t) (ht2 : t < 16) (ge : es.getD t .null = .ref y) (gl : ds.getD 1 (.long 0) = .long xl) (gm : hs.getD 1 (.int 0) = .int tl) :
    Ct l Z a0 EL0 n0 false false (⟨"com/example/ripen/ripen/DeadlineHeap", "removeAt", "(I)Ljava/lang/Object;"⟩ : MethodName) prog_1_method_9_code 11 (Option.some (Jvm.ClassFile.FieldType.object "java/lang/Object")) cds ({ frames := 2, cells := 0, slots := 0, locals := 31 } : Room) [] #[(.ref a), (.int (0 : Int32))] h0 (Q_rem20 Z n0 a dA hA eA y kd kh ke xl tr tl t ds hs es h0) := by
  refine Ct.of (plainFor_of_name pn_2) hEL ?_
  intro p e s m below meth c T0 W0 hret hnm hs0
  refine Go.cast (ef_RI_11 m a (0 : Int32)) ?_
  show Go p e below _ T0 (mkF m 0 #[.val (.ref a), .val (.int (0 : Int32)), .unset, .unset, .unset, .unset, .unset, .unset, .unset, .unset, .unset] [])
  obtain ⟨Ea, Fd, Fh, Fe, Ft, Fs⟩ := id X
  have lt_a := natlt Ea.lt
  obtain ⟨ad, ah, ae, dh, de, he⟩ := id N
  have lt_dA := natlt Vd.lt
  have lt_hA := natlt Vh.lt
  have lt_eA := natlt Ve.lt
  refine s_aloadN W0 d21_0 rfl rfl (pc' := 1) rfl ?_
  refine gGetF W0 (host := "") (Or.inl (w_62 hw)) Via.refl Fh d21_1 (pc' := 4) rfl ?_
  intro T1 W1
  refine s_iloadN W1 d21_4 rfl (pc' := 5) rfl ?_
  refine gLdI W1 Vh (idx16 (i := (0 : Int32)) (j := 0) (by decide) (by decide)).1 (v := (.int tr)) (by rw [(idx16 (i := (0 : Int32)) (j := 0) (by decide) (by decide)).2]; exact gr) d21_5 (pc' := 6) rfl ?_
  refine s_istoreN W1 d21_6 (l' := #[.val (.ref a), .val (.int (0 : Int32)), .val (.int tr), .unset, .unset, .unset, .unset, .unset, .unset, .unset, .unset]) rfl (pc' := 7) rfl ?_
  refine s_aloadN W1 d21_7 rfl rfl (pc' := 8) rfl ?_
  refine s_iloadN W1 d21_8 rfl (pc' := 9) rfl ?_
  refine gVirtual W1 Ea (w_116 hw) (w_117 hw) (fun s hZ => notFace_of_selects (args := #[]) (mv hZ (w_119 hw))) (w_119 hw) (w_118 hw) (w_36 hw) (w_120 hw) (by decide) pd_10 (ct_ela hw hEL [] a dA hA eA kh ke (0 : Int32) tr 0 t hs es (.ref y) h0 ⟨Ea, Fd, Fh, Fe, Ft, Fs⟩ Vh Ve (by decide) (by decide) gr ht ht2 ge rfl) (by simp) d21_9 (pc' := 12) rfl rfl (argsL := [(.int (0 : Int32))]) rfl rfl (rest := []) rfl (wt := 0) (Nat.le_of_eq rfl) (by decide) (by decide) (by decide) (by decide) ?_
  rintro v2 T2 h2 W2 z2 ⟨rfl, rfl⟩
  show Go p e below _ T2 (mkF m 12 #[.val (.ref a), .val (.int (0 : Int32)), .val (.int tr), .unset, .unset, .unset, .unset, .unset, .unset, .unset, .unset] [(.ref y)])
  refine s_astoreN W2 d21_12 rfl (l' := #[.val (.ref a), .val (.int (0 : Int32)), .val (.int tr), .val (.ref y), .unset, .unset, .unset, .unset, .unset, .unset, .unset]) rfl (pc' := 13) rfl ?_
  refine s_aloadN W2 d21_13 rfl rfl (pc' := 14) rfl ?_
  refine gGetF W2 (host := "") (Or.inl (w_65 hw)) Via.refl Fe d21_14 (pc' := 17) rfl ?_
  intro T3 W3
  refine s_iloadN W3 d21_17 rfl (pc' := 18) rfl ?_
  refine s_aconst_null W3 d21_18 (pc' := 19) rfl ?_
  refine gStA W3 n0_eA Ve rfl (Or.inl rfl) rfl (idx16 ht ht2).1 (i := t) (idx16 ht ht2).2 (by rw [le]; exact ht2) d21_19 (pc' := 20) rfl ?_
  intro T4 h4 W4 K4 We
  have z4 : h0.size ≤ h4.size := K4.1
  refine s_aloadN W4 d21_20 rfl rfl (pc' := 21) rfl ?_
  refine s_dup W4 d21_21 rfl (pc' := 22) rfl ?_
  have fx5 := (Fz.keep K4 (ninS ae nin0))
  refine gGetF W4 (host := "") (Or.inl (w_76 hw)) Via.refl fx5 d21_22 (pc' := 25) rfl ?_
  intro T6 W6
  refine s_iconst W6 d21_25 (v := (1 : Int32)) (by decide) (pc' := 26) rfl ?_
  refine s_isub W6 d21_26 (pc' := 27) rfl ?_
  rw [show ((2 : Int32) - (1 : Int32)) = (1 : Int32) from by decide]
  refine s_dup_x1 W6 d21_27 rfl rfl (pc' := 28) rfl ?_
  have fx8 := (Ea.keep K4)
  refine gPutF W6 n0_a (Or.inr (Or.inl rfl)) (host := "") (Or.inl (w_76 hw)) Via.refl fx5 fx8 (Or.inl (w_77 hw)) (w_35 hw) (ty := .int) (by decide) rfl rfl d21_28 (pc' := 31) rfl ?_
  intro T7 h7 W7 Wr7
  have Fw7 := fx5.same Wr7
  have z7 : h4.size ≤ h7.size := Nat.le_of_eq Wr7.size.symm
  refine s_istore W7 d21_31 (l' := #[.val (.ref a), .val (.int (0 : Int32)), .val (.int tr), .val (.ref y), .val (.int (1 : Int32)), .unset, .unset, .unset, .unset, .unset, .unset]) rfl (pc' := 33) rfl ?_
  refine s_aloadN W7 d21_33 rfl rfl (pc' := 34) rfl ?_
  have fx9 := ((Fd.keep K4 (ninS ae nin0)).other Wr7 (Or.inr (slot_ne (Or.inl (w_45 hw)) (Or.inl (w_77 hw)) (by decide) (t := (.array .long)) (t' := .int) (by decide) (by decide))))
  refine gGetF W7 (host := "") (Or.inl (w_44 hw)) Via.refl fx9 d21_34 (pc' := 37) rfl ?_
  intro T10 W10
  refine s_iload W10 d21_37 rfl (pc' := 39) rfl ?_
  have fx11 := ((Vd.keep K4 (ninS de nin0)).other Wr7 (Ne.symm ad))
  refine gLdJ W10 fx11 (idx16 (i := (1 : Int32)) (j := 1) (by decide) (by decide)).1 (v := (.long xl)) (by rw [(idx16 (i := (1 : Int32)) (j := 1) (by decide) (by decide)).2]; exact gl) d21_39 (pc' := 40) rfl ?_
  refine s_lstore W10 d21_40 (l' := #[.val (.ref a), .val (.int (0 : Int32)), .val (.int tr), .val (.ref y), .val (.int (1 : Int32)), .val (.long xl), .second, .unset, .unset, .unset, .unset]) rfl (pc' := 42) rfl ?_
  refine s_aloadN W10 d21_42 rfl rfl (pc' := 43) rfl ?_
  refine s_iload W10 d21_43 rfl (pc' := 45) rfl ?_
  have fx12 := (fx8.wr Wr7)
  have fx13 := ((Fh.keep K4 (ninS ae nin0)).other Wr7 (Or.inr (slot_ne (Or.inl (w_63 hw)) (Or.inl (w_77 hw)) (by decide) (t := (.array .int)) (t' := .int) (by decide) (by decide))))
  have fx14 := ((Fe.keep K4 (ninS ae nin0)).other Wr7 (Or.inr (slot_ne (Or.inl (w_66 hw)) (Or.inl (w_77 hw)) (by decide) (t := (.array (.object "java/lang/Object"))) (t' := .int) (by decide) (by decide))))
  have fx15 := ((Ft.keep K4 (ninS ae nin0)).other Wr7 (Or.inr (slot_ne (Or.inr (w_68 hw)) (Or.inl (w_77 hw)) (by decide) (t := (.object "com/example/ripen/ripen/DeadlineHeap$SlotTracker")) (t' := .int) (by decide) (by decide))))
  have fx16 := ((Fs.keep K4 (ninS ae nin0)).other Wr7 (Or.inr (slot_ne (Or.inl (w_70 hw)) (Or.inl (w_77 hw)) (by decide) (t := (.array .long)) (t' := .int) (by decide) (by decide))))
  refine gPriv W10 fx12 (w_99 hw) (w_100 hw) (w_101 hw) (w_74 hw) rfl (w_36 hw) (w_102 hw) (by decide) pd_5 (ct_sqa hw hEL [] a dA hA eA (1 : Int32) h7 ⟨fx12, fx9, fx13, fx14, fx15, fx16⟩) (by simp) d21_45 (pc' := 48) rfl rfl (argsL := [(.int (1 : Int32))]) rfl rfl (rest := []) rfl (wt := 0) (Nat.le_of_eq rfl) (by decide) (by decide) (by decide) (by decide) ?_
  rintro v17 T17 h17 W17 z17 ⟨rfl, rfl⟩
  show Go p e below _ T17 (mkF m 48 #[.val (.ref a), .val (.int (0 : Int32)), .val (.int tr), .val (.ref y), .val (.int (1 : Int32)), .val (.long xl), .second, .unset, .unset, .unset, .unset] [(.long (0 : Int64))])
  refine s_lstore W17 d21_48 (l' := #[.val (.ref a), .val (.int (0 : Int32)), .val (.int tr), .val (.ref y), .val (.int (1 : Int32)), .val (.long xl), .second, .val (.long (0 : Int64)), .second, .unset, .unset]) rfl (pc' := 50) rfl ?_
  refine s_aloadN W17 d21_50 rfl rfl (pc' := 51) rfl ?_
  refine gGetF W17 (host := "") (Or.inl (w_62 hw)) Via.refl fx13 d21_51 (pc' := 54) rfl ?_
  intro T18 W18
  refine s_iload W18 d21_54 rfl (pc' := 56) rfl ?_
  have fx19 := ((Vh.keep K4 (ninS he nin0)).other Wr7 (Ne.symm ah))
  refine gLdI W18 fx19 (idx16 (i := (1 : Int32)) (j := 1) (by decide) (by decide)).1 (v := (.int tl)) (by rw [(idx16 (i := (1 : Int32)) (j := 1) (by decide) (by decide)).2]; exact gm) d21_56 (pc' := 57) rfl ?_
  refine s_istore W18 d21_57 (l' := #[.val (.ref a), .val (.int (0 : Int32)), .val (.int tr), .val (.ref y), .val (.int (1 : Int32)), .val (.long xl), .second, .val (.long (0 : Int64)), .second, .val (.int tl), .unset]) rfl (pc' := 59) rfl ?_
  refine s_iloadN W18 d21_59 rfl (pc' := 60) rfl ?_
  refine s_iload W18 d21_60 rfl (pc' := 62) rfl ?_
  refine s_icmpge W18 d21_62 (by decide) (pc1 := 105) (by decide) (pc2 := 65) rfl (fun q => absurd q (by decide)) ?_
  intro q62
  refine s_aloadN W18 d21_65 rfl rfl (pc' := 66) rfl ?_
  refine s_iloadN W18 d21_66 rfl (pc' := 67) rfl ?_
  refine s_lload W18 d21_67 rfl (pc' := 69) rfl ?_
  refine s_lload W18 d21_69 rfl (pc' := 71) rfl ?_
  refine gPriv W18 fx12 (w_132 hw) (w_133 hw) (w_134 hw) (w_74 hw) rfl (w_36 hw) (w_135 hw) (by decide) pd_9 (ct_sd10 hw hEL [] a dA hA eA kd kh xl ds hs h7 ⟨fx12, fx9, fx13, fx14, fx15, fx16⟩ N n0_dA n0_hA fx11 fx19 Fw7) (by simp) d21_71 (pc' := 74) rfl rfl (argsL := [(.int (0 : Int32)), (.long xl), (.long (0 : Int64))]) rfl rfl (rest := []) rfl (wt := 0) (Nat.le_of_eq rfl) (by decide) (by decide) (by decide) (by decide) ?_
  rintro v20 T20 h20 W20 z20 ⟨rfl, rfl⟩
  show Go p e below _ T20 (mkF m 74 #[.val (.ref a), .val (.int (0 : Int32)), .val (.int tr), .val (.ref y), .val (.int (1 : Int32)), .val (.long xl), .second, .val (.long (0 : Int64)), .second, .val (.int tl), .unset] [(.int (0 : Int32))])
  refine s_istore W20 d21_74 (l' := #[.val (.ref a), .val (.int (0 : Int32)), .val (.int tr), .val (.ref y), .val (.int (1 : Int32)), .val (.long xl), .second, .val (.long (0 : Int64)), .second, .val (.int tl), .val (.int (0 : Int32))]) rfl (pc' := 76) rfl ?_
  refine s_iload W20 d21_76 rfl (pc' := 78) rfl ?_
  refine s_iloadN W20 d21_78 rfl (pc' := 79) rfl ?_
  refine s_icmpne W20 d21_79 (by decide) (pc1 := 93) (by decide) (pc2 := 82) rfl (fun q => absurd q (by decide)) ?_
  intro q79
  refine s_aloadN W20 d21_82 rfl rfl (pc' := 83) rfl ?_
  refine s_iloadN W20 d21_83 rfl (pc' := 84) rfl ?_
  refine s_lload W20 d21_84 rfl (pc' := 86) rfl ?_
  refine s_lload W20 d21_86 rfl (pc' := 88) rfl ?_
  refine gPriv W20 fx12 (w_87 hw) (w_88 hw) (w_89 hw) (w_74 hw) rfl (w_36 hw) (w_90 hw) (by decide) pd_9 (ct_su0 hw hEL [] a dA hA eA kd kh xl ds hs h7 ⟨fx12, fx9, fx13, fx14, fx15, fx16⟩ N n0_dA n0_hA fx11 fx19) (by simp) d21_88 (pc' := 91) rfl rfl (argsL := [(.int (0 : Int32)), (.long xl), (.long (0 : Int64))]) rfl rfl (rest := []) rfl (wt := 0) (Nat.le_of_eq rfl) (by decide) (by decide) (by decide) (by decide) ?_
  rintro v21 T21 h21 W21 z21 ⟨rfl, rfl⟩
  show Go p e below _ T21 (mkF m 91 #[.val (.ref a), .val (.int (0 : Int32)), .val (.int tr), .val (.ref y), .val (.int (1 : Int32)), .val (.long xl), .second, .val (.long (0 : Int64)), .second, .val (.int tl), .val (.int (0 : Int32))] [(.int (0 : Int32))])
  refine s_istore W21 d21_91 (l' := #[.val (.ref a), .val (.int (0 : Int32)), .val (.int tr), .val (.ref y), .val (.int (1 : Int32)), .val (.long xl), .second, .val (.long (0 : Int64)), .second, .val (.int tl), .val (.int (0 : Int32))]) rfl (pc' := 93) rfl ?_
  refine s_aloadN W21 d21_93 rfl rfl (pc' := 94) rfl ?_
  refine s_iload W21 d21_94 rfl (pc' := 96) rfl ?_
  refine s_lload W21 d21_96 rfl (pc' := 98) rfl ?_
  refine s_lload W21 d21_98 rfl (pc' := 100) rfl ?_
  refine s_iload W21 d21_100 rfl (pc' := 102) rfl ?_
  refine gPriv W21 fx12 (w_91 hw) (w_92 hw) (w_93 hw) (w_74 hw) rfl (w_36 hw) (w_94 hw) (by decide) pd_6 (ct_plc hw hEL [] a dA hA eA kd kh (0 : Int32) tl xl 0 ds hs h7 ⟨fx12, fx9, fx13, fx14, fx15, fx16⟩ N n0_dA n0_hA fx11 fx19 (by decide) (by decide) (by simp [ld]) (by simp [lh])) (by simp) d21_102 (pc' := 105) rfl rfl (argsL := [(.int (0 : Int32)), (.long xl), (.long (0 : Int64)), (.int tl)]) rfl rfl (rest := []) rfl (wt := 0) (Nat.le_of_eq rfl) (by decide) (by decide) (by decide) (by decide) ?_
  rintro v22 T22 h22 W22 z22 ⟨rfl, Kp, Pd, Ph⟩
  show Go p e below _ T22 (mkF m 105 #[.val (.ref a), .val (.int (0 : Int32)), .val (.int tr), .val (.ref y), .val (.int (1 : Int32)), .val (.long xl), .second, .val (.long (0 : Int64)), .second, .val (.int tl), .val (.int (0 : Int32))] [])
  refine s_aloadN W22 d21_105 rfl rfl (pc' := 106) rfl ?_
  have fx23 := (fx13.keep Kp (ninS ad (ninS ah nin0)))
  refine gGetF W22 (host := "") (Or.inl (w_62 hw)) Via.refl fx23 d21_106 (pc' := 109) rfl ?_
  intro T24 W24
  refine s_iload W24 d21_109 rfl (pc' := 111) rfl ?_
  refine s_iloadN W24 d21_111 rfl (pc' := 112) rfl ?_
  refine gStI W24 n0_hA Ph (idx16 (i := (1 : Int32)) (j := 1) (by decide) (by decide)).1 (i := 1) (idx16 (i := (1 : Int32)) (j := 1) (by decide) (by decide)).2 (by simp [lh]) d21_112 (pc' := 113) rfl ?_
  intro T25 h25 W25 K25 Wl
  have z25 : h22.size ≤ h25.size := K25.1
  refine s_aloadN W25 d21_113 rfl rfl (pc' := 114) rfl ?_
  refine s_aloadN W25 d21_114 rfl rfl (pc' := 115) rfl ?_
  have fx26 := ((fx12.keep Kp).keep K25)
  have fx27 := ((fx9.keep Kp (ninS ad (ninS ah nin0))).keep K25 (ninS ah nin0))
  have fx28 := (fx23.keep K25 (ninS ah nin0))
  have fx29 := ((fx14.keep Kp (ninS ad (ninS ah nin0))).keep K25 (ninS ah nin0))
  have fx30 := ((fx15.keep Kp (ninS ad (ninS ah nin0))).keep K25 (ninS ah nin0))
  have fx31 := ((fx16.keep Kp (ninS ad (ninS ah nin0))).keep K25 (ninS ah nin0))
  refine gPriv W25 fx26 (w_121 hw) (w_122 hw) (w_123 hw) (w_74 hw) rfl (w_36 hw) (w_124 hw) (by decide) pd_11 (ct_rlf hw hEL [] a dA hA eA y h25 ⟨fx26, fx27, fx28, fx29, fx30, fx31⟩) (by simp) d21_115 (pc' := 118) rfl rfl (argsL := [(.ref y)]) rfl rfl (rest := []) rfl (wt := 0) (Nat.le_of_eq rfl) (by decide) (by decide) (by decide) (by decide) ?_
  rintro v32 T32 h32 W32 z32 ⟨rfl, rfl⟩
  show Go p e below _ T32 (mkF m 118 #[.val (.ref a), .val (.int (0 : Int32)), .val (.int tr), .val (.ref y), .val (.int (1 : Int32)), .val (.long xl), .second, .val (.long (0 : Int64)), .second, .val (.int tl), .val (.int (0 : Int32))] [])
  refine s_aloadN W32 d21_118 rfl rfl (pc' := 119) rfl ?_
  have fx33 := (Pd.keep K25 (ninS dh nin0))
  have fx34 := ((Fw7.keep Kp (ninS ad (ninS ah nin0))).keep K25 (ninS ah nin0))
  have fx35 := (((We.other Wr7 (Ne.symm ae)).keep Kp (ninS (Ne.symm de) (ninS (Ne.symm he) nin0))).keep K25 (ninS (Ne.symm he) nin0))
  exact gRetA W32 hret rfl rfl d21_119 (by decide) (by decide) ⟨rfl, (((((Keep.refl h0 [a, dA, hA, eA]).trans K4 (allS (Or.inl (by simp)) all0)).wr Wr7 (Or.inl (by simp))).trans Kp (allS (Or.inl (by simp)) (allS (Or.inl (by simp)) all0))).trans K25 (allS (Or.inl (by simp)) all0)), ⟨fx26, fx27, fx28, fx29, fx30, fx31⟩, fx34, fx35, ⟨fx33, Wl⟩⟩
def Q_rem21 (Z : State) (n0 : Nat) (a dA hA eA : Addr) (y : Addr) (kd kh ke : ClassId) (xl : Int64) (tr tl : Int32) (t : Nat) (ds hs es : List Value) (h0 : Heap) (v : Option Value) (h : Heap) : Prop := v = some (.ref y) ∧ Keep h0 h [a, dA, hA, eA] ∧ HF Z h a dA hA eA ∧ Fld Z h a "com/example/ripen/ripen/DeadlineHeap" "size" "I" (.int (1 : Int32)) ∧ Arv Z h eA ke (.object "java/lang/Object") 16 (es.set t .null) .null ∧ (Arv Z h dA kd .long 16 ds (.long 0) ∧ Arv Z h hA kh .int 16 (hs.set 1 (.int tr)) (.int 0))
set_option maxRecDepth 65536 in
set_option maxHeartbeats 40000000 in
theorem ct_rem21 {l : Launch} {Z : State} {a0 : Array Value} (hw : ∀ d ∈ tables_1, d.before a0 Z = true) (hEL : EW Z a0 EL0) {n0 : Nat} (cds : List Jvm.Cond) (a dA hA eA : Addr) (y : Addr) (kd kh ke : ClassId) (xl : Int64) (tr tl : Int32) (t : Nat) (ds hs es : List Value) (h0 : Heap) (X : HF Z h0 a dA hA eA) (N : DN a dA hA eA) (n0_a : n0 ≤ a) (n0_dA : n0 ≤ dA) (n0_hA : n0 ≤ hA) (n0_eA : n0 ≤ eA) (Vd : Arv Z h0 dA kd .long 16 ds (.long 0)) (Vh : Arv Z h0 hA kh .int 16 hs (.int 0)) (Ve : Arv Z h0 eA ke (.object "java/lang/Object") 16 es .null) (Fz : Fld Z h0 a "com/example/ripen/ripen/DeadlineHeap" "size" "I" (.int (2 : Int32))) (ld : ds.length = 16) (lh : hs.length = 16) (le : es.length = 16) (gr : hs.getD 1 (.int 0) = .int tr) (ht : tr.toInt = t) (ht2 : t < 16) (ge : es.getD t .null = .ref y) (gl : ds.getD 1 (.long 0) = .long xl) (gm : hs.getD 1 (.int 0) = .int tl) :
    Ct l Z a0 EL0 n0 false false (⟨"com/example/ripen/ripen/DeadlineHeap", "removeAt", "(I)Ljava/lang/Object;"⟩ : MethodName) prog_1_method_9_code 11 (Option.some (Jvm.ClassFile.FieldType.object "java/lang/Object")) cds ({ frames := 1, cells := 0, slots := 0, locals := 13 } : Room) [] #[(.ref a), (.int (1 : Int32))] h0 (Q_rem21 Z n0 a dA hA eA y kd kh ke xl tr tl t ds hs es h0) := by
  refine Ct.of (plainFor_of_name pn_2) hEL ?_
  intro p e s m below meth c T0 W0 hret hnm hs0
  refine Go.cast (ef_RI_11 m a (1 : Int32)) ?_
  show Go p e below _ T0 (mkF m 0 #[.val (.ref a), .val (.int (1 : Int32)), .unset, .unset, .unset, .unset, .unset, .unset, .unset, .unset, .unset] [])
  obtain ⟨Ea, Fd, Fh, Fe, Ft, Fs⟩ := id X
  have lt_a := natlt Ea.lt
  obtain ⟨ad, ah, ae, dh, de, he⟩ := id N
  have lt_dA := natlt Vd.lt
  have lt_hA := natlt Vh.lt
  have lt_eA := natlt Ve.lt
  refine s_aloadN W0 d21_0 rfl rfl (pc' := 1) rfl ?_
  refine gGetF W0 (host := "") (Or.inl (w_62 hw)) Via.refl Fh d21_1 (pc' := 4) rfl ?_
  intro T1 W1
  refine s_iloadN W1 d21_4 rfl (pc' := 5) rfl ?_
  refine gLdI W1 Vh (idx16 (i := (1 : Int32)) (j := 1) (by decide) (by decide)).1 (v := (.int tr)) (by rw [(idx16 (i := (1 : Int32)) (j := 1) (by decide) (by decide)).2]; exact gr) d21_5 (pc' := 6) rfl ?_
  refine s_istoreN W1 d21_6 (l' := #[.val (.ref a), .val (.int (1 : Int32)), .val (.int tr), .unset, .unset, .unset, .unset, .unset, .unset, .unset, .unset]) rfl (pc' := 7) rfl ?_
  refine s_aloadN W1 d21_7 rfl rfl (pc' := 8) rfl ?_
  refine s_iloadN W1 d21_8 rfl (pc' := 9) rfl ?_
  refine gVirtual W1 Ea (w_116 hw) (w_117 hw) (fun s hZ => notFace_of_selects (args := #[]) (mv hZ (w_119 hw))) (w_119 hw) (w_118 hw) (w_36 hw) (w_120 hw) (by decide) pd_10 (ct_ela hw hEL [] a dA hA eA kh ke (1 : Int32) tr 1 t hs es (.ref y) h0 ⟨Ea, Fd, Fh, Fe, Ft, Fs⟩ Vh Ve (by decide) (by decide) gr ht ht2 ge rfl) (by simp) d21_9 (pc' := 12) rfl rfl (argsL := [(.int (1 : Int32))]) rfl rfl (rest := []) rfl (wt := 0) (Nat.le_of_eq rfl) (by decide) (by decide) (by decide) (by decide) ?_
  rintro v2 T2 h2 W2 z2 ⟨rfl, rfl⟩
  show Go p e below _ T2 (mkF m 12 #[.val (.ref a), .val (.int (1 : Int32)), .val (.int tr), .unset, .unset, .unset, .unset, .unset, .unset, .unset, .unset] [(.ref y)])
  refine s_astoreN W2 d21_12 rfl (l' := #[.val (.ref a), .val (.int (1 : Int32)), .val (.int tr), .val (.ref y), .unset, .unset, .unset, .unset, .unset, .unset, .unset]) rfl (pc' := 13) rfl ?_
  refine s_aloadN W2 d21_13 rfl rfl (pc' := 14) rfl ?_
  refine gGetF W2 (host := "") (Or.inl (w_65 hw)) Via.refl Fe d21_14 (pc' := 17) rfl ?_
  intro T3 W3
  refine s_iloadN W3 d21_17 rfl (pc' := 18) rfl ?_
  refine s_aconst_null W3 d21_18 (pc' := 19) rfl ?_
  refine gStA W3 n0_eA Ve rfl (Or.inl rfl) rfl (idx16 ht ht2).1 (i := t) (idx16 ht ht2).2 (by rw [le]; exact ht2) d21_19 (pc' := 20) rfl ?_
  intro T4 h4 W4 K4 We
  have z4 : h0.size ≤ h4.size := K4.1
  refine s_aloadN W4 d21_20 rfl rfl (pc' := 21) rfl ?_
  refine s_dup W4 d21_21 rfl (pc' := 22) rfl ?_
  have fx5 := (Fz.keep K4 (ninS ae nin0))
  refine gGetF W4 (host := "") (Or.inl (w_76 hw)) Via.refl fx5 d21_22 (pc' := 25) rfl ?_
  intro T6 W6
  refine s_iconst W6 d21_25 (v := (1 : Int32)) (by decide) (pc' := 26) rfl ?_
  refine s_isub W6 d21_26 (pc' := 27) rfl ?_
  rw [show ((2 : Int32) - (1 : Int32)) = (1 : Int32) from by decide]
  refine s_dup_x1 W6 d21_27 rfl rfl (pc' := 28) rfl ?_
  have fx8 := (Ea.keep K4)
  refine gPutF W6 n0_a (Or.inr (Or.inl rfl)) (host := "") (Or.inl (w_76 hw)) Via.refl fx5 fx8 (Or.inl (w_77 hw)) (w_35 hw) (ty := .int) (by decide) rfl rfl d21_28 (pc' := 31) rfl ?_
  intro T7 h7 W7 Wr7
  have Fw7 := fx5.same Wr7
  have z7 : h4.size ≤ h7.size := Nat.le_of_eq Wr7.size.symm
  refine s_istore W7 d21_31 (l' := #[.val (.ref a), .val (.int (1 : Int32)), .val (.int tr), .val (.ref y), .val (.int (1 : Int32)), .unset, .unset, .unset, .unset, .unset, .unset]) rfl (pc' := 33) rfl ?_
  refine s_aloadN W7 d21_33 rfl rfl (pc' := 34) rfl ?_
  have fx9 := ((Fd.keep K4 (ninS ae nin0)).other Wr7 (Or.inr (slot_ne (Or.inl (w_45 hw)) (Or.inl (w_77 hw)) (by decide) (t := (.array .long)) (t' := .int) (by decide) (by decide))))
  refine gGetF W7 (host := "") (Or.inl (w_44 hw)) Via.refl fx9 d21_34 (pc' := 37) rfl ?_
  intro T10 W10
  refine s_iload W10 d21_37 rfl (pc' := 39) rfl ?_
  have fx11 := ((Vd.keep K4 (ninS de nin0)).other Wr7 (Ne.symm ad))
  refine gLdJ W10 fx11 (idx16 (i := (1 : Int32)) (j := 1) (by decide) (by decide)).1 (v := (.long xl)) (by rw [(idx16 (i := (1 : Int32)) (j := 1) (by decide) (by decide)).2]; exact gl) d21_39 (pc' := 40) rfl ?_
  refine s_lstore W10 d21_40 (l' := #[.val (.ref a), .val (.int (1 : Int32)), .val (.int tr), .val (.ref y), .val (.int (1 : Int32)), .val (.long xl), .second, .unset, .unset, .unset, .unset]) rfl (pc' := 42) rfl ?_
  refine s_aloadN W10 d21_42 rfl rfl (pc' := 43) rfl ?_
  refine s_iload W10 d21_43 rfl (pc' := 45) rfl ?_
  have fx12 := (fx8.wr Wr7)
  have fx13 := ((Fh.keep K4 (ninS ae nin0)).other Wr7 (Or.inr (slot_ne (Or.inl (w_63 hw)) (Or.inl (w_77 hw)) (by decide) (t := (.array .int)) (t' := .int) (by decide) (by decide))))
  have fx14 := ((Fe.keep K4 (ninS ae nin0)).other Wr7 (Or.inr (slot_ne (Or.inl (w_66 hw)) (Or.inl (w_77 hw)) (by decide) (t := (.array (.object "java/lang/Object"))) (t' := .int) (by decide) (by decide))))
  have fx15 := ((Ft.keep K4 (ninS ae nin0)).other Wr7 (Or.inr (slot_ne (Or.inr (w_68 hw)) (Or.inl (w_77 hw)) (by decide) (t := (.object "com/example/ripen/ripen/DeadlineHeap$SlotTracker")) (t' := .int) (by decide) (by decide))))
  have fx16 := ((Fs.keep K4 (ninS ae nin0)).other Wr7 (Or.inr (slot_ne (Or.inl (w_70 hw)) (Or.inl (w_77 hw)) (by decide) (t := (.array .long)) (t' := .int) (by decide) (by decide))))
  refine gPriv W10 fx12 (w_99 hw) (w_100 hw) (w_101 hw) (w_74 hw) rfl (w_36 hw) (w_102 hw) (by decide) pd_5 (ct_sqa hw hEL [] a dA hA eA (1 : Int32) h7 ⟨fx12, fx9, fx13, fx14, fx15, fx16⟩) (by simp) d21_45 (pc' := 48) rfl rfl (argsL := [(.int (1 : Int32))]) rfl rfl (rest := []) rfl (wt := 0) (Nat.le_of_eq rfl) (by decide) (by decide) (by decide) (by decide) ?_
  rintro v17 T17 h17 W17 z17 ⟨rfl, rfl⟩
  show Go p e below _ T17 (mkF m 48 #[.val (.ref a), .val (.int (1 : Int32)), .val (.int tr), .val (.ref y), .val (.int (1 : Int32)), .val (.long xl), .second, .unset, .unset, .unset, .unset] [(.long (0 : Int64))])
  refine s_lstore W17 d21_48 (l' := #[.val (.ref a), .val (.int (1 : Int32)), .val (.int tr), .val (.ref y), .val (.int (1 : Int32)), .val (.long xl), .second, .val (.long (0 : Int64)), .second, .unset, .unset]) rfl (pc' := 50) rfl ?_
  refine s_aloadN W17 d21_50 rfl rfl (pc' := 51) rfl ?_
  refine gGetF W17 (host := "") (Or.inl (w_62 hw)) Via.refl fx13 d21_51 (pc' := 54) rfl ?_
  intro T18 W18
  refine s_iload W18 d21_54 rfl (pc' := 56) rfl ?_
  have fx19 := ((Vh.keep K4 (ninS he nin0)).other Wr7 (Ne.symm ah))
  refine gLdI W18 fx19 (idx16 (i := (1 : Int32)) (j := 1) (by decide) (by decide)).1 (v := (.int tl)) (by rw [(idx16 (i := (1 : Int32)) (j := 1) (by decide) (by decide)).2]; exact gm) d21_56 (pc' := 57) rfl ?_
  refine s_istore W18 d21_57 (l' := #[.val (.ref a), .val (.int (1 : Int32)), .val (.int tr), .val (.ref y), .val (.int (1 : Int32)), .val (.long xl), .second, .val (.long (0 : Int64)), .second, .val (.int tl), .unset]) rfl (pc' := 59) rfl ?_
  refine s_iloadN W18 d21_59 rfl (pc' := 60) rfl ?_
  refine s_iload W18 d21_60 rfl (pc' := 62) rfl ?_
  refine s_icmpge W18 d21_62 (by decide) (pc1 := 105) (by decide) (pc2 := 65) rfl ?_ (fun q => absurd q (by decide))
  intro q62
  refine s_aloadN W18 d21_105 rfl rfl (pc' := 106) rfl ?_
  refine gGetF W18 (host := "") (Or.inl (w_62 hw)) Via.refl fx13 d21_106 (pc' := 109) rfl ?_
  intro T20 W20
  refine s_iload W20 d21_109 rfl (pc' := 111) rfl ?_
  refine s_iloadN W20 d21_111 rfl (pc' := 112) rfl ?_
  refine gStI W20 n0_hA fx19 (idx16 (i := (1 : Int32)) (j := 1) (by decide) (by decide)).1 (i := 1) (idx16 (i := (1 : Int32)) (j := 1) (by decide) (by decide)).2 (by simp [lh]) d21_112 (pc' := 113) rfl ?_
  intro T21 h21 W21 K21 Wl
  have z21 : h7.size ≤ h21.size := K21.1
  refine s_aloadN W21 d21_113 rfl rfl (pc' := 114) rfl ?_
  refine s_aloadN W21 d21_114 rfl rfl (pc' := 115) rfl ?_
  have fx22 := (fx12.keep K21)
  have fx23 := (fx9.keep K21 (ninS ah nin0))
  have fx24 := (fx13.keep K21 (ninS ah nin0))
  have fx25 := (fx14.keep K21 (ninS ah nin0))
  have fx26 := (fx15.keep K21 (ninS ah nin0))
  have fx27 := (fx16.keep K21 (ninS ah nin0))
  refine gPriv W21 fx22 (w_121 hw) (w_122 hw) (w_123 hw) (w_74 hw) rfl (w_36 hw) (w_124 hw) (by decide) pd_11 (ct_rlf hw hEL [] a dA hA eA y h21 ⟨fx22, fx23, fx24, fx25, fx26, fx27⟩) (by simp) d21_115 (pc' := 118) rfl rfl (argsL := [(.ref y)]) rfl rfl (rest := []) rfl (wt := 0) (Nat.le_of_eq rfl) (by decide) (by decide) (by decide) (by decide) ?_
  rintro v28 T28 h28 W28 z28 ⟨rfl, rfl⟩
  show Go p e below _ T28 (mkF m 118 #[.val (.ref a), .val (.int (1 : Int32)), .val (.int tr), .val (.ref y), .val (.int (1 : Int32)), .val (.long xl), .second, .val (.long (0 : Int64)), .second, .val (.int tl), .unset] [])
  refine s_aloadN W28 d21_118 rfl rfl (pc' := 119) rfl ?_
  have fx29 := (fx11.keep K21 (ninS dh nin0))
  have fx30 := (Fw7.keep K21 (ninS ah nin0))
  have fx31 := ((We.other Wr7 (Ne.symm ae)).keep K21 (ninS (Ne.symm he) nin0))
  exact gRetA W28 hret rfl rfl d21_119 (by decide) (by decide) ⟨rfl, ((((Keep.refl h0 [a, dA, hA, eA]).trans K4 (allS (Or.inl (by simp)) all0)).wr Wr7 (Or.inl (by simp))).trans K21 (allS (Or.inl (by simp)) all0)), ⟨fx22, fx23, fx24, fx25, fx26, fx27⟩, fx30, fx31, ⟨fx29, Wl⟩⟩
def Q_rem30 (Z : State) (n0 : Nat) (a dA hA eA : Addr) (y : Addr) (kd kh ke : ClassId) (xl x1 : Int64) (tr tl t1 : Int32) (t : Nat) (ds hs es : List Value) (h0 : Heap) (v : Option Value) (h : Heap) : Prop := v = some (.ref y) ∧ Keep h0 h [a, dA, hA, eA] ∧ HF Z h a dA hA eA ∧ Fld Z h a "com/example/ripen/ripen/DeadlineHeap" "size" "I" (.int (2 : Int32)) ∧ Arv Z h eA ke (.object "java/lang/Object") 16 (es.set t .null) .null ∧ (if x1 < xl then Arv Z h dA kd .long 16 ((ds.set 0 (.long x1)).set 1 (.long xl)) (.long 0) ∧ Arv Z h hA kh .int 16 (((hs.set 0 (.int t1)).set 1 (.int tl)).set 2 (.int tr)) (.int 0) else Arv Z h dA kd .long 16 (ds.set 0 (.long xl)) (.long 0) ∧ Arv Z h hA kh .int 16 ((hs.set 0 (.int tl)).set 2 (.int tr)) (.int 0))
set_option maxRecDepth 65536 in
set_option maxHeartbeats 40000000 in
theorem ct_rem30 {l : Launch} {Z : State} {a0 : Array Value} (hw : ∀ d ∈ tables_1, d.before a0 Z = true) (hEL : EW Z a0 EL0) {n0 : Nat} (cds : List Jvm.Cond) (a dA hA eA : Addr) (y : Addr) (kd kh ke : ClassId) (xl x1 : Int64) (tr tl t1 : Int32) (t : Nat) (ds hs es : List Value) (h0 : Heap) (X : HF Z h0 a dA hA eA) (N : DN a dA hA eA) (n0_a : n0 ≤ a) (n0_dA : n0 ≤ dA) (n0_hA : n0 ≤ hA) (n0_eA : n0 ≤ eA) (Vd : Arv Z h0 dA kd .long 16 ds (.long 0)) (Vh : Arv Z h0 hA kh .int 16 hs (.int 0)) (Ve : Arv Z h0 eA ke (.object "java/lang/Object") 16 es .null) (Fz : Fld Z h0 a "com/example/ripen/ripen/DeadlineHeap" "size" "I" (.int (3 : Int32))) (ld : ds.length = 16) (lh : hs.length = 16) (le : es.length = 16) (gr : hs.getD 0 (.int 0) = .int tr) (ht : tr.toInt = t) (ht2 : t < 16) (ge : es.getD t .null = .ref y) (gl : ds.getD 2 (.long 0) = .long xl) (gm : hs.getD 2 (.int 0) = .int tl) (gd : ds.getD 1 (.long 0) = .long x1) (gh : hs.getD 1 (.int 0) = .int t1) :
    Ct l Z a0 EL0 n0 false false (⟨"com/example/ripen/ripen/DeadlineHeap", "removeAt", "(I)Ljava/lang/Object;"⟩ : MethodName) prog_1_method_9_code 11 (Option.some (Jvm.ClassFile.FieldType.object "java/lang/Object")) cds ({ frames := 4, cells := 0, slots := 0, locals := 65 } : Room) [] #[(.ref a), (.int (0 : Int32))] h0 (Q_rem30 Z n0 a dA hA eA y kd kh ke xl x1 tr tl t1 t ds hs es h0) := by
  refine Ct.of (plainFor_of_name pn_2) hEL ?_
  intro p e s m below meth c T0 W0 hret hnm hs0
  refine Go.cast (ef_RI_11 m a (0 : Int32)) ?_
  show Go p e below _ T0 (mkF m 0 #[.val (.ref a), .val (.int (0 : Int32)), .unset, .unset, .unset, .unset, .unset, .unset, .unset, .unset, .unset] [])
  obtain ⟨Ea, Fd, Fh, Fe, Ft, Fs⟩ := id X
  have lt_a := natlt Ea.lt
  obtain ⟨ad, ah, ae, dh, de, he⟩ := id N
  have lt_dA := natlt Vd.lt
  have lt_hA := natlt Vh.lt
  have lt_eA := natlt Ve.lt
  refine s_aloadN W0 d21_0 rfl rfl (pc' := 1) rfl ?_
  refine gGetF W0 (host := "") (Or.inl (w_62 hw)) Via.refl Fh d21_1 (pc' := 4) rfl ?_
  intro T1 W1
  refine s_iloadN W1 d21_4 rfl (pc' := 5) rfl ?_
  refine gLdI W1 Vh (idx16 (i := (0 : Int32)) (j := 0) (by decide) (by decide)).1 (v := (.int tr)) (by rw [(idx16 (i := (0 : Int32)) (j := 0) (by decide) (by decide)).2]; exact gr) d21_5 (pc' := 6) rfl ?_
  refine s_istoreN W1 d21_6 (l' := #[.val (.ref a), .val (.int (0 : Int32)), .val (.int tr), .unset, .unset, .unset, .unset, .unset, .unset, .unset, .unset]) rfl (pc' := 7) rfl ?_
  refine s_aloadN W1 d21_7 rfl rfl (pc' := 8) rfl ?_
  refine s_iloadN W1 d21_8 rfl (pc' := 9) rfl ?_
  refine gVirtual W1 Ea (w_116 hw) (w_117 hw) (fun s hZ => notFace_of_selects (args := #[]) (mv hZ (w_119 hw))) (w_119 hw) (w_118 hw) (w_36 hw) (w_120 hw) (by decide) pd_10 (ct_ela hw hEL [] a dA hA eA kh ke (0 : Int32) tr 0 t hs es (.ref y) h0 ⟨Ea, Fd, Fh, Fe, Ft, Fs⟩ Vh Ve (by decide) (by decide) gr ht ht2 ge rfl) (by simp) d21_9 (pc' := 12) rfl rfl (argsL := [(.int (0 : Int32))]) rfl rfl (rest := []) rfl (wt := 0) (Nat.le_of_eq rfl) (by decide) (by decide) (by decide) (by decide) ?_
  rintro v2 T2 h2 W2 z2 ⟨rfl, rfl⟩
  show Go p e below _ T2 (mkF m 12 #[.val (.ref a), .val (.int (0 : Int32)), .val (.int tr), .unset, .unset, .unset, .unset, .unset, .unset, .unset, .unset] [(.ref y)])
  refine s_astoreN W2 d21_12 rfl (l' := #[.val (.ref a), .val (.int (0 : Int32)), .val (.int tr), .val (.ref y), .unset, .unset, .unset, .unset, .unset, .unset, .unset]) rfl (pc' := 13) rfl ?_
  refine s_aloadN W2 d21_13 rfl rfl (pc' := 14) rfl ?_
  refine gGetF W2 (host := "") (Or.inl (w_65 hw)) Via.refl Fe d21_14 (pc' := 17) rfl ?_
  intro T3 W3
  refine s_iloadN W3 d21_17 rfl (pc' := 18) rfl ?_
  refine s_aconst_null W3 d21_18 (pc' := 19) rfl ?_
  refine gStA W3 n0_eA Ve rfl (Or.inl rfl) rfl (idx16 ht ht2).1 (i := t) (idx16 ht ht2).2 (by rw [le]; exact ht2) d21_19 (pc' := 20) rfl ?_
  intro T4 h4 W4 K4 We
  have z4 : h0.size ≤ h4.size := K4.1
  refine s_aloadN W4 d21_20 rfl rfl (pc' := 21) rfl ?_
  refine s_dup W4 d21_21 rfl (pc' := 22) rfl ?_
  have fx5 := (Fz.keep K4 (ninS ae nin0))
  refine gGetF W4 (host := "") (Or.inl (w_76 hw)) Via.refl fx5 d21_22 (pc' := 25) rfl ?_
  intro T6 W6
  refine s_iconst W6 d21_25 (v := (1 : Int32)) (by decide) (pc' := 26) rfl ?_
  refine s_isub W6 d21_26 (pc' := 27) rfl ?_
  rw [show ((3 : Int32) - (1 : Int32)) = (2 : Int32) from by decide]
  refine s_dup_x1 W6 d21_27 rfl rfl (pc' := 28) rfl ?_
  have fx8 := (Ea.keep K4)
  refine gPutF W6 n0_a (Or.inr (Or.inl rfl)) (host := "") (Or.inl (w_76 hw)) Via.refl fx5 fx8 (Or.inl (w_77 hw)) (w_35 hw) (ty := .int) (by decide) rfl rfl d21_28 (pc' := 31) rfl ?_
  intro T7 h7 W7 Wr7
  have Fw7 := fx5.same Wr7
  have z7 : h4.size ≤ h7.size := Nat.le_of_eq Wr7.size.symm
  refine s_istore W7 d21_31 (l' := #[.val (.ref a), .val (.int (0 : Int32)), .val (.int tr), .val (.ref y), .val (.int (2 : Int32)), .unset, .unset, .unset, .unset, .unset, .unset]) rfl (pc' := 33) rfl ?_
  refine s_aloadN W7 d21_33 rfl rfl (pc' := 34) rfl ?_
  have fx9 := ((Fd.keep K4 (ninS ae nin0)).other Wr7 (Or.inr (slot_ne (Or.inl (w_45 hw)) (Or.inl (w_77 hw)) (by decide) (t := (.array .long)) (t' := .int) (by decide) (by decide))))
  refine gGetF W7 (host := "") (Or.inl (w_44 hw)) Via.refl fx9 d21_34 (pc' := 37) rfl ?_
  intro T10 W10
  refine s_iload W10 d21_37 rfl (pc' := 39) rfl ?_
  have fx11 := ((Vd.keep K4 (ninS de nin0)).other Wr7 (Ne.symm ad))
  refine gLdJ W10 fx11 (idx16 (i := (2 : Int32)) (j := 2) (by decide) (by decide)).1 (v := (.long xl)) (by rw [(idx16 (i := (2 : Int32)) (j := 2) (by decide) (by decide)).2]; exact gl) d21_39 (pc' := 40) rfl ?_
  refine s_lstore W10 d21_40 (l' := #[.val (.ref a), .val (.int (0 : Int32)), .val (.int tr), .val (.ref y), .val (.int (2 : Int32)), .val (.long xl), .second, .unset, .unset, .unset, .unset]) rfl (pc' := 42) rfl ?_
  refine s_aloadN W10 d21_42 rfl rfl (pc' := 43) rfl ?_
  refine s_iload W10 d21_43 rfl (pc' := 45) rfl ?_
  have fx12 := (fx8.wr Wr7)
  have fx13 := ((Fh.keep K4 (ninS ae nin0)).other Wr7 (Or.inr (slot_ne (Or.inl (w_63 hw)) (Or.inl (w_77 hw)) (by decide) (t := (.array .int)) (t' := .int) (by decide) (by decide))))
  have fx14 := ((Fe.keep K4 (ninS ae nin0)).other Wr7 (Or.inr (slot_ne (Or.inl (w_66 hw)) (Or.inl (w_77 hw)) (by decide) (t := (.array (.object "java/lang/Object"))) (t' := .int) (by decide) (by decide))))
  have fx15 := ((Ft.keep K4 (ninS ae nin0)).other Wr7 (Or.inr (slot_ne (Or.inr (w_68 hw)) (Or.inl (w_77 hw)) (by decide) (t := (.object "com/example/ripen/ripen/DeadlineHeap$SlotTracker")) (t' := .int) (by decide) (by decide))))
  have fx16 := ((Fs.keep K4 (ninS ae nin0)).other Wr7 (Or.inr (slot_ne (Or.inl (w_70 hw)) (Or.inl (w_77 hw)) (by decide) (t := (.array .long)) (t' := .int) (by decide) (by decide))))
  refine gPriv W10 fx12 (w_99 hw) (w_100 hw) (w_101 hw) (w_74 hw) rfl (w_36 hw) (w_102 hw) (by decide) pd_5 (ct_sqa hw hEL [] a dA hA eA (2 : Int32) h7 ⟨fx12, fx9, fx13, fx14, fx15, fx16⟩) (by simp) d21_45 (pc' := 48) rfl rfl (argsL := [(.int (2 : Int32))]) rfl rfl (rest := []) rfl (wt := 0) (Nat.le_of_eq rfl) (by decide) (by decide) (by decide) (by decide) ?_
  rintro v17 T17 h17 W17 z17 ⟨rfl, rfl⟩
  show Go p e below _ T17 (mkF m 48 #[.val (.ref a), .val (.int (0 : Int32)), .val (.int tr), .val (.ref y), .val (.int (2 : Int32)), .val (.long xl), .second, .unset, .unset, .unset, .unset] [(.long (0 : Int64))])
  refine s_lstore W17 d21_48 (l' := #[.val (.ref a), .val (.int (0 : Int32)), .val (.int tr), .val (.ref y), .val (.int (2 : Int32)), .val (.long xl), .second, .val (.long (0 : Int64)), .second, .unset, .unset]) rfl (pc' := 50) rfl ?_
  refine s_aloadN W17 d21_50 rfl rfl (pc' := 51) rfl ?_
  refine gGetF W17 (host := "") (Or.inl (w_62 hw)) Via.refl fx13 d21_51 (pc' := 54) rfl ?_
  intro T18 W18
  refine s_iload W18 d21_54 rfl (pc' := 56) rfl ?_
  have fx19 := ((Vh.keep K4 (ninS he nin0)).other Wr7 (Ne.symm ah))
  refine gLdI W18 fx19 (idx16 (i := (2 : Int32)) (j := 2) (by decide) (by decide)).1 (v := (.int tl)) (by rw [(idx16 (i := (2 : Int32)) (j := 2) (by decide) (by decide)).2]; exact gm) d21_56 (pc' := 57) rfl ?_
  refine s_istore W18 d21_57 (l' := #[.val (.ref a), .val (.int (0 : Int32)), .val (.int tr), .val (.ref y), .val (.int (2 : Int32)), .val (.long xl), .second, .val (.long (0 : Int64)), .second, .val (.int tl), .unset]) rfl (pc' := 59) rfl ?_
  refine s_iloadN W18 d21_59 rfl (pc' := 60) rfl ?_
  refine s_iload W18 d21_60 rfl (pc' := 62) rfl ?_
  refine s_icmpge W18 d21_62 (by decide) (pc1 := 105) (by decide) (pc2 := 65) rfl (fun q => absurd q (by decide)) ?_
  intro q62
  refine s_aloadN W18 d21_65 rfl rfl (pc' := 66) rfl ?_
  refine s_iloadN W18 d21_66 rfl (pc' := 67) rfl ?_
  refine s_lload W18 d21_67 rfl (pc' := 69) rfl ?_
  refine s_lload W18 d21_69 rfl (pc' := 71) rfl ?_
  refine gPriv W18 fx12 (w_132 hw) (w_133 hw) (w_134 hw) (w_74 hw) rfl (w_36 hw) (w_135 hw) (by decide) pd_9 (ct_sd20 hw hEL [] a dA hA eA kd kh xl x1 t1 ds hs h7 ⟨fx12, fx9, fx13, fx14, fx15, fx16⟩ N n0_dA n0_hA fx11 fx19 Fw7 gd gh ld lh) (by simp) d21_71 (pc' := 74) rfl rfl (argsL := [(.int (0 : Int32)), (.long xl), (.long (0 : Int64))]) rfl rfl (rest := []) rfl (wt := 0) (Nat.le_of_eq rfl) (by decide) (by decide) (by decide) (by decide) ?_
  rintro v20 T20 h20 W20 z20 Qu
  unfold Q_sd20 at Qu
  by_cases qx : x1 < xl
  · rw [if_pos qx] at Qu
    obtain ⟨rfl, Ku, Ud, Uh⟩ := Qu
    show Go p e below _ T20 (mkF m 74 #[.val (.ref a), .val (.int (0 : Int32)), .val (.int tr), .val (.ref y), .val (.int (2 : Int32)), .val (.long xl), .second, .val (.long (0 : Int64)), .second, .val (.int tl), .unset] [(.int (1 : Int32))])
    refine s_istore W20 d21_74 (l' := #[.val (.ref a), .val (.int (0 : Int32)), .val (.int tr), .val (.ref y), .val (.int (2 : Int32)), .val (.long xl), .second, .val (.long (0 : Int64)), .second, .val (.int tl), .val (.int (1 : Int32))]) rfl (pc' := 76) rfl ?_
    refine s_iload W20 d21_76 rfl (pc' := 78) rfl ?_
    refine s_iloadN W20 d21_78 rfl (pc' := 79) rfl ?_
    refine s_icmpne W20 d21_79 (by decide) (pc1 := 93) (by decide) (pc2 := 82) rfl ?_ (fun q => absurd q (by decide))
    intro q79
    refine s_aloadN W20 d21_93 rfl rfl (pc' := 94) rfl ?_
    refine s_iload W20 d21_94 rfl (pc' := 96) rfl ?_
    refine s_lload W20 d21_96 rfl (pc' := 98) rfl ?_
    refine s_lload W20 d21_98 rfl (pc' := 100) rfl ?_
    refine s_iload W20 d21_100 rfl (pc' := 102) rfl ?_
    have fx21 := (fx12.keep Ku)
    have fx22 := (fx9.keep Ku (ninS ad (ninS ah nin0)))
    have fx23 := (fx13.keep Ku (ninS ad (ninS ah nin0)))
    have fx24 := (fx14.keep Ku (ninS ad (ninS ah nin0)))
    have fx25 := (fx15.keep Ku (ninS ad (ninS ah nin0)))
    have fx26 := (fx16.keep Ku (ninS ad (ninS ah nin0)))
    refine gPriv W20 fx21 (w_91 hw) (w_92 hw) (w_93 hw) (w_74 hw) rfl (w_36 hw) (w_94 hw) (by decide) pd_6 (ct_plc hw hEL [] a dA hA eA kd kh (1 : Int32) tl xl 1 (ds.set 0 (.long x1)) (hs.set 0 (.int t1)) h20 ⟨fx21, fx22, fx23, fx24, fx25, fx26⟩ N n0_dA n0_hA Ud Uh (by decide) (by decide) (by simp [ld]) (by simp [lh])) (by simp) d21_102 (pc' := 105) rfl rfl (argsL := [(.int (1 : Int32)), (.long xl), (.long (0 : Int64)), (.int tl)]) rfl rfl (rest := []) rfl (wt := 0) (Nat.le_of_eq rfl) (by decide) (by decide) (by decide) (by decide) ?_
    rintro v27 T27 h27 W27 z27 ⟨rfl, Kp, Pd, Ph⟩
    show Go p e below _ T27 (mkF m 105 #[.val (.ref a), .val (.int (0 : Int32)), .val (.int tr), .val (.ref y), .val (.int (2 : Int32)), .val (.long xl), .second, .val (.long (0 : Int64)), .second, .val (.int tl), .val (.int (1 : Int32))] [])
    refine s_aloadN W27 d21_105 rfl rfl (pc' := 106) rfl ?_
    have fx28 := (fx23.keep Kp (ninS ad (ninS ah nin0)))
    refine gGetF W27 (host := "") (Or.inl (w_62 hw)) Via.refl fx28 d21_106 (pc' := 109) rfl ?_
    intro T29 W29
    refine s_iload W29 d21_109 rfl (pc' := 111) rfl ?_
    refine s_iloadN W29 d21_111 rfl (pc' := 112) rfl ?_
    refine gStI W29 n0_hA Ph (idx16 (i := (2 : Int32)) (j := 2) (by decide) (by decide)).1 (i := 2) (idx16 (i := (2 : Int32)) (j := 2) (by decide) (by decide)).2 (by simp [lh]) d21_112 (pc' := 113) rfl ?_
    intro T30 h30 W30 K30 Wl
    have z30 : h27.size ≤ h30.size := K30.1
    refine s_aloadN W30 d21_113 rfl rfl (pc' := 114) rfl ?_
    refine s_aloadN W30 d21_114 rfl rfl (pc' := 115) rfl ?_
    have fx31 := ((fx21.keep Kp).keep K30)
    have fx32 := ((fx22.keep Kp (ninS ad (ninS ah nin0))).keep K30 (ninS ah nin0))
    have fx33 := (fx28.keep K30 (ninS ah nin0))
    have fx34 := ((fx24.keep Kp (ninS ad (ninS ah nin0))).keep K30 (ninS ah nin0))
    have fx35 := ((fx25.keep Kp (ninS ad (ninS ah nin0))).keep K30 (ninS ah nin0))
    have fx36 := ((fx26.keep Kp (ninS ad (ninS ah nin0))).keep K30 (ninS ah nin0))
    refine gPriv W30 fx31 (w_121 hw) (w_122 hw) (w_123 hw) (w_74 hw) rfl (w_36 hw) (w_124 hw) (by decide) pd_11 (ct_rlf hw hEL [] a dA hA eA y h30 ⟨fx31, fx32, fx33, fx34, fx35, fx36⟩) (by simp) d21_115 (pc' := 118) rfl rfl (argsL := [(.ref y)]) rfl rfl (rest := []) rfl (wt := 0) (Nat.le_of_eq rfl) (by decide) (by decide) (by decide) (by decide) ?_
    rintro v37 T37 h37 W37 z37 ⟨rfl, rfl⟩
    show Go p e below _ T37 (mkF m 118 #[.val (.ref a), .val (.int (0 : Int32)), .val (.int tr), .val (.ref y), .val (.int (2 : Int32)), .val (.long xl), .second, .val (.long (0 : Int64)), .second, .val (.int tl), .val (.int (1 : Int32))] [])
    refine s_aloadN W37 d21_118 rfl rfl (pc' := 119) rfl ?_
    have fx38 := (Pd.keep K30 (ninS dh nin0))
    have fx39 := (((Fw7.keep Ku (ninS ad (ninS ah nin0))).keep Kp (ninS ad (ninS ah nin0))).keep K30 (ninS ah nin0))
    have fx40 := ((((We.other Wr7 (Ne.symm ae)).keep Ku (ninS (Ne.symm de) (ninS (Ne.symm he) nin0))).keep Kp (ninS (Ne.symm de) (ninS (Ne.symm he) nin0))).keep K30 (ninS (Ne.symm he) nin0))
    exact gRetA W37 hret rfl rfl d21_119 (by decide) (by decide) ⟨rfl, ((((((Keep.refl h0 [a, dA, hA, eA]).trans K4 (allS (Or.inl (by simp)) all0)).wr Wr7 (Or.inl (by simp))).trans Ku (allS (Or.inl (by simp)) (allS (Or.inl (by simp)) all0))).trans Kp (allS (Or.inl (by simp)) (allS (Or.inl (by simp)) all0))).trans K30 (allS (Or.inl (by simp)) all0)), ⟨fx31, fx32, fx33, fx34, fx35, fx36⟩, fx39, fx40, (by rw [if_pos qx]; exact ⟨fx38, Wl⟩)⟩
  · rw [if_neg qx] at Qu
    obtain ⟨rfl, rfl⟩ := Qu
    show Go p e below _ T20 (mkF m 74 #[.val (.ref a), .val (.int (0 : Int32)), .val (.int tr), .val (.ref y), .val (.int (2 : Int32)), .val (.long xl), .second, .val (.long (0 : Int64)), .second, .val (.int tl), .unset] [(.int (0 : Int32))])
    refine s_istore W20 d21_74 (l' := #[.val (.ref a), .val (.int (0 : Int32)), .val (.int tr), .val (.ref y), .val (.int (2 : Int32)), .val (.long xl), .second, .val (.long (0 : Int64)), .second, .val (.int tl), .val (.int (0 : Int32))]) rfl (pc' := 76) rfl ?_
    refine s_iload W20 d21_76 rfl (pc' := 78) rfl ?_
    refine s_iloadN W20 d21_78 rfl (pc' := 79) rfl ?_
    refine s_icmpne W20 d21_79 (by decide) (pc1 := 93) (by decide) (pc2 := 82) rfl (fun q => absurd q (by decide)) ?_
    intro q79
    refine s_aloadN W20 d21_82 rfl rfl (pc' := 83) rfl ?_
    refine s_iloadN W20 d21_83 rfl (pc' := 84) rfl ?_
    refine s_lload W20 d21_84 rfl (pc' := 86) rfl ?_
    refine s_lload W20 d21_86 rfl (pc' := 88) rfl ?_
    refine gPriv W20 fx12 (w_87 hw) (w_88 hw) (w_89 hw) (w_74 hw) rfl (w_36 hw) (w_90 hw) (by decide) pd_9 (ct_su0 hw hEL [] a dA hA eA kd kh xl ds hs h7 ⟨fx12, fx9, fx13, fx14, fx15, fx16⟩ N n0_dA n0_hA fx11 fx19) (by simp) d21_88 (pc' := 91) rfl rfl (argsL := [(.int (0 : Int32)), (.long xl), (.long (0 : Int64))]) rfl rfl (rest := []) rfl (wt := 0) (Nat.le_of_eq rfl) (by decide) (by decide) (by decide) (by decide) ?_
    rintro v41 T41 h41 W41 z41 ⟨rfl, rfl⟩
    show Go p e below _ T41 (mkF m 91 #[.val (.ref a), .val (.int (0 : Int32)), .val (.int tr), .val (.ref y), .val (.int (2 : Int32)), .val (.long xl), .second, .val (.long (0 : Int64)), .second, .val (.int tl), .val (.int (0 : Int32))] [(.int (0 : Int32))])
    refine s_istore W41 d21_91 (l' := #[.val (.ref a), .val (.int (0 : Int32)), .val (.int tr), .val (.ref y), .val (.int (2 : Int32)), .val (.long xl), .second, .val (.long (0 : Int64)), .second, .val (.int tl), .val (.int (0 : Int32))]) rfl (pc' := 93) rfl ?_
    refine s_aloadN W41 d21_93 rfl rfl (pc' := 94) rfl ?_
    refine s_iload W41 d21_94 rfl (pc' := 96) rfl ?_
    refine s_lload W41 d21_96 rfl (pc' := 98) rfl ?_
    refine s_lload W41 d21_98 rfl (pc' := 100) rfl ?_
    refine s_iload W41 d21_100 rfl (pc' := 102) rfl ?_
    refine gPriv W41 fx12 (w_91 hw) (w_92 hw) (w_93 hw) (w_74 hw) rfl (w_36 hw) (w_94 hw) (by decide) pd_6 (ct_plc hw hEL [] a dA hA eA kd kh (0 : Int32) tl xl 0 ds hs h7 ⟨fx12, fx9, fx13, fx14, fx15, fx16⟩ N n0_dA n0_hA fx11 fx19 (by decide) (by decide) (by simp [ld]) (by simp [lh])) (by simp) d21_102 (pc' := 105) rfl rfl (argsL := [(.int (0 : Int32)), (.long xl), (.long (0 : Int64)), (.int tl)]) rfl rfl (rest := []) rfl (wt := 0) (Nat.le_of_eq rfl) (by decide) (by decide) (by decide) (by decide) ?_
    rintro v42 T42 h42 W42 z42 ⟨rfl, Kp, Pd, Ph⟩
    show Go p e below _ T42 (mkF m 105 #[.val (.ref a), .val (.int (0 : Int32)), .val (.int tr), .val (.ref y), .val (.int (2 : Int32)), .val (.long xl), .second, .val (.long (0 : Int64)), .second, .val (.int tl), .val (.int (0 : Int32))] [])
    refine s_aloadN W42 d21_105 rfl rfl (pc' := 106) rfl ?_
    have fx43 := (fx13.keep Kp (ninS ad (ninS ah nin0)))
    refine gGetF W42 (host := "") (Or.inl (w_62 hw)) Via.refl fx43 d21_106 (pc' := 109) rfl ?_
    intro T44 W44
    refine s_iload W44 d21_109 rfl (pc' := 111) rfl ?_
    refine s_iloadN W44 d21_111 rfl (pc' := 112) rfl ?_
    refine gStI W44 n0_hA Ph (idx16 (i := (2 : Int32)) (j := 2) (by decide) (by decide)).1 (i := 2) (idx16 (i := (2 : Int32)) (j := 2) (by decide) (by decide)).2 (by simp [lh]) d21_112 (pc' := 113) rfl ?_
    intro T45 h45 W45 K45 Wl
    have z45 : h42.size ≤ h45.size := K45.1
    refine s_aloadN W45 d21_113 rfl rfl (pc' := 114) rfl ?_
    refine s_aloadN W45 d21_114 rfl rfl (pc' := 115) rfl ?_
    have fx46 := ((fx12.keep Kp).keep K45)
    have fx47 := ((fx9.keep Kp (ninS ad (ninS ah nin0))).keep K45 (ninS ah nin0))
    have fx48 := (fx43.keep K45 (ninS ah nin0))
    have fx49 := ((fx14.keep Kp (ninS ad (ninS ah nin0))).keep K45 (ninS ah nin0))
    have fx50 := ((fx15.keep Kp (ninS ad (ninS ah nin0))).keep K45 (ninS ah nin0))
    have fx51 := ((fx16.keep Kp (ninS ad (ninS ah nin0))).keep K45 (ninS ah nin0))
    refine gPriv W45 fx46 (w_121 hw) (w_122 hw) (w_123 hw) (w_74 hw) rfl (w_36 hw) (w_124 hw) (by decide) pd_11 (ct_rlf hw hEL [] a dA hA eA y h45 ⟨fx46, fx47, fx48, fx49, fx50, fx51⟩) (by simp) d21_115 (pc' := 118) rfl rfl (argsL := [(.ref y)]) rfl rfl (rest := []) rfl (wt := 0) (Nat.le_of_eq rfl) (by decide) (by decide) (by decide) (by decide) ?_
    rintro v52 T52 h52 W52 z52 ⟨rfl, rfl⟩
    show Go p e below _ T52 (mkF m 118 #[.val (.ref a), .val (.int (0 : Int32)), .val (.int tr), .val (.ref y), .val (.int (2 : Int32)), .val (.long xl), .second, .val (.long (0 : Int64)), .second, .val (.int tl), .val (.int (0 : Int32))] [])
    refine s_aloadN W52 d21_118 rfl rfl (pc' := 119) rfl ?_
    have fx53 := (Pd.keep K45 (ninS dh nin0))
    have fx54 := ((Fw7.keep Kp (ninS ad (ninS ah nin0))).keep K45 (ninS ah nin0))
    have fx55 := (((We.other Wr7 (Ne.symm ae)).keep Kp (ninS (Ne.symm de) (ninS (Ne.symm he) nin0))).keep K45 (ninS (Ne.symm he) nin0))
    exact gRetA W52 hret rfl rfl d21_119 (by decide) (by decide) ⟨rfl, (((((Keep.refl h0 [a, dA, hA, eA]).trans K4 (allS (Or.inl (by simp)) all0)).wr Wr7 (Or.inl (by simp))).trans Kp (allS (Or.inl (by simp)) (allS (Or.inl (by simp)) all0))).trans K45 (allS (Or.inl (by simp)) all0)), ⟨fx46, fx47, fx48, fx49, fx50, fx51⟩, fx54, fx55, (by rw [if_neg qx]; exact ⟨fx53, Wl⟩)⟩
def Q_rem31 (Z : State) (n0 : Nat) (a dA hA eA : Addr) (y : Addr) (kd kh ke : ClassId) (xl x0 : Int64) (tr tl t0 : Int32) (t : Nat) (ds hs es : List Value) (h0 : Heap) (v : Option Value) (h : Heap) : Prop := v = some (.ref y) ∧ Keep h0 h [a, dA, hA, eA] ∧ HF Z h a dA hA eA ∧ Fld Z h a "com/example/ripen/ripen/DeadlineHeap" "size" "I" (.int (2 : Int32)) ∧ Arv Z h eA ke (.object "java/lang/Object") 16 (es.set t .null) .null ∧ (Arv Z h dA kd .long 16 (ds.set 1 (.long xl)) (.long 0) ∧ Arv Z h hA kh .int 16 ((hs.set 1 (.int tl)).set 2 (.int tr)) (.int 0))
set_option maxRecDepth 65536 in
set_option maxHeartbeats 40000000 in
theorem ct_rem31 {l : Launch} {Z : State} {a0 : Array Value} (hw : ∀ d ∈ tables_1, d.before a0 Z = true) (hEL : EW Z a0 EL0) {n0 : Nat} (cds : List Jvm.Cond) (a dA hA eA : Addr) (y : Addr) (kd kh ke : ClassId) (xl x0 : Int64) (tr tl t0 : Int32) (t : Nat) (ds hs es : List Value) (h0 : Heap) (X : HF Z h0 a dA hA eA) (N : DN a dA hA eA) (n0_a : n0 ≤ a) (n0_dA : n0 ≤ dA) (n0_hA : n0 ≤ hA) (n0_eA : n0 ≤ eA) (Vd : Arv Z h0 dA kd .long 16 ds (.long 0)) (Vh : Arv Z h0 hA kh .int 16 hs (.int 0)) (Ve : Arv Z h0 eA ke (.object "java/lang/Object") 16 es .null) (Fz : Fld Z h0 a "com/example/ripen/ripen/DeadlineHeap" "size" "I" (.int (3 : Int32))) (ld : ds.length = 16) (lh : hs.length = 16) (le : es.length = 16) (gr : hs.getD 1 (.int 0) = .int tr) (ht : tr.toInt = t) (ht2 : t < 16) (ge : es.getD t .null = .ref y) (gl : ds.getD 2 (.long 0) = .long xl) (gm : hs.getD 2 (.int 0) = .int tl) (gd : ds.getD 0 (.long 0) = .long x0) (gh : hs.getD 0 (.int 0) = .int t0) (hmin : ¬ xl < x0) :
    Ct l Z a0 EL0 n0 false false (⟨"com/example/ripen/ripen/DeadlineHeap", "removeAt", "(I)Ljava/lang/Object;"⟩ : MethodName) prog_1_method_9_code 11 (Option.some (Jvm.ClassFile.FieldType.object "java/lang/Object")) cds ({ frames := 4, cells := 0, slots := 0, locals := 63 } : Room) [] #[(.ref a), (.int (1 : Int32))] h0 (Q_rem31 Z n0 a dA hA eA y kd kh ke xl x0 tr tl t0 t ds hs es h0) := by
  refine Ct.of (plainFor_of_name pn_2) hEL ?_
  intro p e s m below meth c T0 W0 hret hnm hs0
  refine Go.cast (ef_RI_11 m a (1 : Int32)) ?_
  show Go p e below _ T0 (mkF m 0 #[.val (.ref a), .val (.int (1 : Int32)), .unset, .unset, .unset, .unset, .unset, .unset, .unset, .unset, .unset] [])
  obtain ⟨Ea, Fd, Fh, Fe, Ft, Fs⟩ := id X
  have lt_a := natlt Ea.lt
  obtain ⟨ad, ah, ae, dh, de, he⟩ := id N
  have lt_dA := natlt Vd.lt
  have lt_hA := natlt Vh.lt
  have lt_eA := natlt Ve.lt
  refine s_aloadN W0 d21_0 rfl rfl (pc' := 1) rfl ?_
  refine gGetF W0 (host := "") (Or.inl (w_62 hw)) Via.refl Fh d21_1 (pc' := 4) rfl ?_
  intro T1 W1
  refine s_iloadN W1 d21_4 rfl (pc' := 5) rfl ?_
  refine gLdI W1 Vh (idx16 (i := (1 : Int32)) (j := 1) (by decide) (by decide)).1 (v := (.int tr)) (by rw [(idx16 (i := (1 : Int32)) (j := 1) (by decide) (by decide)).2]; exact gr) d21_5 (pc' := 6) rfl ?_
  refine s_istoreN W1 d21_6 (l' := #[.val (.ref a), .val (.int (1 : Int32)), .val (.int tr), .unset, .unset, .unset, .unset, .unset, .unset, .unset, .unset]) rfl (pc' := 7) rfl ?_
  refine s_aloadN W1 d21_7 rfl rfl (pc' := 8) rfl ?_
  refine s_iloadN W1 d21_8 rfl (pc' := 9) rfl ?_
  refine gVirtual W1 Ea (w_116 hw) (w_117 hw) (fun s hZ => notFace_of_selects (args := #[]) (mv hZ (w_119 hw))) (w_119 hw) (w_118 hw) (w_36 hw) (w_120 hw) (by decide) pd_10 (ct_ela hw hEL [] a dA hA eA kh ke (1 : Int32) tr 1 t hs es (.ref y) h0 ⟨Ea, Fd, Fh, Fe, Ft, Fs⟩ Vh Ve (by decide) (by decide) gr ht ht2 ge rfl) (by simp) d21_9 (pc' := 12) rfl rfl (argsL := [(.int (1 : Int32))]) rfl rfl (rest := []) rfl (wt := 0) (Nat.le_of_eq rfl) (by decide) (by decide) (by decide) (by decide) ?_
  rintro v2 T2 h2 W2 z2 ⟨rfl, rfl⟩
  show Go p e below _ T2 (mkF m 12 #[.val (.ref a), .val (.int (1 : Int32)), .val (.int tr), .unset, .unset, .unset, .unset, .unset, .unset, .unset, .unset] [(.ref y)])
  refine s_astoreN W2 d21_12 rfl (l' := #[.val (.ref a), .val (.int (1 : Int32)), .val (.int tr), .val (.ref y), .unset, .unset, .unset, .unset, .unset, .unset, .unset]) rfl (pc' := 13) rfl ?_
  refine s_aloadN W2 d21_13 rfl rfl (pc' := 14) rfl ?_
  refine gGetF W2 (host := "") (Or.inl (w_65 hw)) Via.refl Fe d21_14 (pc' := 17) rfl ?_
  intro T3 W3
  refine s_iloadN W3 d21_17 rfl (pc' := 18) rfl ?_
  refine s_aconst_null W3 d21_18 (pc' := 19) rfl ?_
  refine gStA W3 n0_eA Ve rfl (Or.inl rfl) rfl (idx16 ht ht2).1 (i := t) (idx16 ht ht2).2 (by rw [le]; exact ht2) d21_19 (pc' := 20) rfl ?_
  intro T4 h4 W4 K4 We
  have z4 : h0.size ≤ h4.size := K4.1
  refine s_aloadN W4 d21_20 rfl rfl (pc' := 21) rfl ?_
  refine s_dup W4 d21_21 rfl (pc' := 22) rfl ?_
  have fx5 := (Fz.keep K4 (ninS ae nin0))
  refine gGetF W4 (host := "") (Or.inl (w_76 hw)) Via.refl fx5 d21_22 (pc' := 25) rfl ?_
  intro T6 W6
  refine s_iconst W6 d21_25 (v := (1 : Int32)) (by decide) (pc' := 26) rfl ?_
  refine s_isub W6 d21_26 (pc' := 27) rfl ?_
  rw [show ((3 : Int32) - (1 : Int32)) = (2 : Int32) from by decide]
  refine s_dup_x1 W6 d21_27 rfl rfl (pc' := 28) rfl ?_
  have fx8 := (Ea.keep K4)
  refine gPutF W6 n0_a (Or.inr (Or.inl rfl)) (host := "") (Or.inl (w_76 hw)) Via.refl fx5 fx8 (Or.inl (w_77 hw)) (w_35 hw) (ty := .int) (by decide) rfl rfl d21_28 (pc' := 31) rfl ?_
  intro T7 h7 W7 Wr7
  have Fw7 := fx5.same Wr7
  have z7 : h4.size ≤ h7.size := Nat.le_of_eq Wr7.size.symm
  refine s_istore W7 d21_31 (l' := #[.val (.ref a), .val (.int (1 : Int32)), .val (.int tr), .val (.ref y), .val (.int (2 : Int32)), .unset, .unset, .unset, .unset, .unset, .unset]) rfl (pc' := 33) rfl ?_
  refine s_aloadN W7 d21_33 rfl rfl (pc' := 34) rfl ?_
  have fx9 := ((Fd.keep K4 (ninS ae nin0)).other Wr7 (Or.inr (slot_ne (Or.inl (w_45 hw)) (Or.inl (w_77 hw)) (by decide) (t := (.array .long)) (t' := .int) (by decide) (by decide))))
  refine gGetF W7 (host := "") (Or.inl (w_44 hw)) Via.refl fx9 d21_34 (pc' := 37) rfl ?_
  intro T10 W10
  refine s_iload W10 d21_37 rfl (pc' := 39) rfl ?_
  have fx11 := ((Vd.keep K4 (ninS de nin0)).other Wr7 (Ne.symm ad))
  refine gLdJ W10 fx11 (idx16 (i := (2 : Int32)) (j := 2) (by decide) (by decide)).1 (v := (.long xl)) (by rw [(idx16 (i := (2 : Int32)) (j := 2) (by decide) (by decide)).2]; exact gl) d21_39 (pc' := 40) rfl ?_
  refine s_lstore W10 d21_40 (l' := #[.val (.ref a), .val (.int (1 : Int32)), .val (.int tr), .val (.ref y), .val (.int (2 : Int32)), .val (.long xl), .second, .unset, .unset, .unset, .unset]) rfl (pc' := 42) rfl ?_
  refine s_aloadN W10 d21_42 rfl rfl (pc' := 43) rfl ?_
  refine s_iload W10 d21_43 rfl (pc' := 45) rfl ?_
  have fx12 := (fx8.wr Wr7)
  have fx13 := ((Fh.keep K4 (ninS ae nin0)).other Wr7 (Or.inr (slot_ne (Or.inl (w_63 hw)) (Or.inl (w_77 hw)) (by decide) (t := (.array .int)) (t' := .int) (by decide) (by decide))))
  have fx14 := ((Fe.keep K4 (ninS ae nin0)).other Wr7 (Or.inr (slot_ne (Or.inl (w_66 hw)) (Or.inl (w_77 hw)) (by decide) (t := (.array (.object "java/lang/Object"))) (t' := .int) (by decide) (by decide))))
  have fx15 := ((Ft.keep K4 (ninS ae nin0)).other Wr7 (Or.inr (slot_ne (Or.inr (w_68 hw)) (Or.inl (w_77 hw)) (by decide) (t := (.object "com/example/ripen/ripen/DeadlineHeap$SlotTracker")) (t' := .int) (by decide) (by decide))))
  have fx16 := ((Fs.keep K4 (ninS ae nin0)).other Wr7 (Or.inr (slot_ne (Or.inl (w_70 hw)) (Or.inl (w_77 hw)) (by decide) (t := (.array .long)) (t' := .int) (by decide) (by decide))))
  refine gPriv W10 fx12 (w_99 hw) (w_100 hw) (w_101 hw) (w_74 hw) rfl (w_36 hw) (w_102 hw) (by decide) pd_5 (ct_sqa hw hEL [] a dA hA eA (2 : Int32) h7 ⟨fx12, fx9, fx13, fx14, fx15, fx16⟩) (by simp) d21_45 (pc' := 48) rfl rfl (argsL := [(.int (2 : Int32))]) rfl rfl (rest := []) rfl (wt := 0) (Nat.le_of_eq rfl) (by decide) (by decide) (by decide) (by decide) ?_
  rintro v17 T17 h17 W17 z17 ⟨rfl, rfl⟩
  show Go p e below _ T17 (mkF m 48 #[.val (.ref a), .val (.int (1 : Int32)), .val (.int tr), .val (.ref y), .val (.int (2 : Int32)), .val (.long xl), .second, .unset, .unset, .unset, .unset] [(.long (0 : Int64))])
  refine s_lstore W17 d21_48 (l' := #[.val (.ref a), .val (.int (1 : Int32)), .val (.int tr), .val (.ref y), .val (.int (2 : Int32)), .val (.long xl), .second, .val (.long (0 : Int64)), .second, .unset, .unset]) rfl (pc' := 50) rfl ?_
  refine s_aloadN W17 d21_50 rfl rfl (pc' := 51) rfl ?_
  refine gGetF W17 (host := "") (Or.inl (w_62 hw)) Via.refl fx13 d21_51 (pc' := 54) rfl ?_
  intro T18 W18
  refine s_iload W18 d21_54 rfl (pc' := 56) rfl ?_
  have fx19 := ((Vh.keep K4 (ninS he nin0)).other Wr7 (Ne.symm ah))
  refine gLdI W18 fx19 (idx16 (i := (2 : Int32)) (j := 2) (by decide) (by decide)).1 (v := (.int tl)) (by rw [(idx16 (i := (2 : Int32)) (j := 2) (by decide) (by decide)).2]; exact gm) d21_56 (pc' := 57) rfl ?_
  refine s_istore W18 d21_57 (l' := #[.val (.ref a), .val (.int (1 : Int32)), .val (.int tr), .val (.ref y), .val (.int (2 : Int32)), .val (.long xl), .second, .val (.long (0 : Int64)), .second, .val (.int tl), .unset]) rfl (pc' := 59) rfl ?_
  refine s_iloadN W18 d21_59 rfl (pc' := 60) rfl ?_
  refine s_iload W18 d21_60 rfl (pc' := 62) rfl ?_
  refine s_icmpge W18 d21_62 (by decide) (pc1 := 105) (by decide) (pc2 := 65) rfl (fun q => absurd q (by decide)) ?_
  intro q62
  refine s_aloadN W18 d21_65 rfl rfl (pc' := 66) rfl ?_
  refine s_iloadN W18 d21_66 rfl (pc' := 67) rfl ?_
  refine s_lload W18 d21_67 rfl (pc' := 69) rfl ?_
  refine s_lload W18 d21_69 rfl (pc' := 71) rfl ?_
  refine gPriv W18 fx12 (w_132 hw) (w_133 hw) (w_134 hw) (w_74 hw) rfl (w_36 hw) (w_135 hw) (by decide) pd_9 (ct_sd21 hw hEL [] a dA hA eA kd kh xl ds hs h7 ⟨fx12, fx9, fx13, fx14, fx15, fx16⟩ N n0_dA n0_hA fx11 fx19 Fw7) (by simp) d21_71 (pc' := 74) rfl rfl (argsL := [(.int (1 : Int32)), (.long xl), (.long (0 : Int64))]) rfl rfl (rest := []) rfl (wt := 0) (Nat.le_of_eq rfl) (by decide) (by decide) (by decide) (by decide) ?_
  rintro v20 T20 h20 W20 z20 ⟨rfl, rfl⟩
  show Go p e below _ T20 (mkF m 74 #[.val (.ref a), .val (.int (1 : Int32)), .val (.int tr), .val (.ref y), .val (.int (2 : Int32)), .val (.long xl), .second, .val (.long (0 : Int64)), .second, .val (.int tl), .unset] [(.int (1 : Int32))])
  refine s_istore W20 d21_74 (l' := #[.val (.ref a), .val (.int (1 : Int32)), .val (.int tr), .val (.ref y), .val (.int (2 : Int32)), .val (.long xl), .second, .val (.long (0 : Int64)), .second, .val (.int tl), .val (.int (1 : Int32))]) rfl (pc' := 76) rfl ?_
  refine s_iload W20 d21_76 rfl (pc' := 78) rfl ?_
  refine s_iloadN W20 d21_78 rfl (pc' := 79) rfl ?_
  refine s_icmpne W20 d21_79 (by decide) (pc1 := 93) (by decide) (pc2 := 82) rfl (fun q => absurd q (by decide)) ?_
  intro q79
  refine s_aloadN W20 d21_82 rfl rfl (pc' := 83) rfl ?_
  refine s_iloadN W20 d21_83 rfl (pc' := 84) rfl ?_
  refine s_lload W20 d21_84 rfl (pc' := 86) rfl ?_
  refine s_lload W20 d21_86 rfl (pc' := 88) rfl ?_
  refine gPriv W20 fx12 (w_87 hw) (w_88 hw) (w_89 hw) (w_74 hw) rfl (w_36 hw) (w_90 hw) (by decide) pd_9 (ct_su1 hw hEL [] a dA hA eA kd kh xl x0 t0 ds hs h7 ⟨fx12, fx9, fx13, fx14, fx15, fx16⟩ N n0_dA n0_hA fx11 fx19 gd gh ld lh) (by simp) d21_88 (pc' := 91) rfl rfl (argsL := [(.int (1 : Int32)), (.long xl), (.long (0 : Int64))]) rfl rfl (rest := []) rfl (wt := 0) (Nat.le_of_eq rfl) (by decide) (by decide) (by decide) (by decide) ?_
  rintro v21 T21 h21 W21 z21 Qu
  unfold Q_su1 at Qu
  rw [if_neg hmin] at Qu
  obtain ⟨rfl, rfl⟩ := Qu
  show Go p e below _ T21 (mkF m 91 #[.val (.ref a), .val (.int (1 : Int32)), .val (.int tr), .val (.ref y), .val (.int (2 : Int32)), .val (.long xl), .second, .val (.long (0 : Int64)), .second, .val (.int tl), .val (.int (1 : Int32))] [(.int (1 : Int32))])
  refine s_istore W21 d21_91 (l' := #[.val (.ref a), .val (.int (1 : Int32)), .val (.int tr), .val (.ref y), .val (.int (2 : Int32)), .val (.long xl), .second, .val (.long (0 : Int64)), .second, .val (.int tl), .val (.int (1 : Int32))]) rfl (pc' := 93) rfl ?_
  refine s_aloadN W21 d21_93 rfl rfl (pc' := 94) rfl ?_
  refine s_iload W21 d21_94 rfl (pc' := 96) rfl ?_
  refine s_lload W21 d21_96 rfl (pc' := 98) rfl ?_
  refine s_lload W21 d21_98 rfl (pc' := 100) rfl ?_
  refine s_iload W21 d21_100 rfl (pc' := 102) rfl ?_
  refine gPriv W21 fx12 (w_91 hw) (w_92 hw) (w_93 hw) (w_74 hw) rfl (w_36 hw) (w_94 hw) (by decide) pd_6 (ct_plc hw hEL [] a dA hA eA kd kh (1 : Int32) tl xl 1 ds hs h7 ⟨fx12, fx9, fx13, fx14, fx15, fx16⟩ N n0_dA n0_hA fx11 fx19 (by decide) (by decide) (by simp [ld]) (by simp [lh])) (by simp) d21_102 (pc' := 105) rfl rfl (argsL := [(.int (1 : Int32)), (.long xl), (.long (0 : Int64)), (.int tl)]) rfl rfl (rest := []) rfl (wt := 0) (Nat.le_of_eq rfl) (by decide) (by decide) (by decide) (by decide) ?_
  rintro v22 T22 h22 W22 z22 ⟨rfl, Kp, Pd, Ph⟩
  show Go p e below _ T22 (mkF m 105 #[.val (.ref a), .val (.int (1 : Int32)), .val (.int tr), .val (.ref y), .val (.int (2 : Int32)), .val (.long xl), .second, .val (.long (0 : Int64)), .second, .val (.int tl), .val (.int (1 : Int32))] [])
  refine s_aloadN W22 d21_105 rfl rfl (pc' := 106) rfl ?_
  have fx23 := (fx13.keep Kp (ninS ad (ninS ah nin0)))
  refine gGetF W22 (host := "") (Or.inl (w_62 hw)) Via.refl fx23 d21_106 (pc' := 109) rfl ?_
  intro T24 W24
  refine s_iload W24 d21_109 rfl (pc' := 111) rfl ?_
  refine s_iloadN W24 d21_111 rfl (pc' := 112) rfl ?_
  refine gStI W24 n0_hA Ph (idx16 (i := (2 : Int32)) (j := 2) (by decide) (by decide)).1 (i := 2) (idx16 (i := (2 : Int32)) (j := 2) (by decide) (by decide)).2 (by simp [lh]) d21_112 (pc' := 113) rfl ?_
  intro T25 h25 W25 K25 Wl
  have z25 : h22.size ≤ h25.size := K25.1
  refine s_aloadN W25 d21_113 rfl rfl (pc' := 114) rfl ?_
  refine s_aloadN W25 d21_114 rfl rfl (pc' := 115) rfl ?_
  have fx26 := ((fx12.keep Kp).keep K25)
  have fx27 := ((fx9.keep Kp (ninS ad (ninS ah nin0))).keep K25 (ninS ah nin0))
  have fx28 := (fx23.keep K25 (ninS ah nin0))
  have fx29 := ((fx14.keep Kp (ninS ad (ninS ah nin0))).keep K25 (ninS ah nin0))
  have fx30 := ((fx15.keep Kp (ninS ad (ninS ah nin0))).keep K25 (ninS ah nin0))
  have fx31 := ((fx16.keep Kp (ninS ad (ninS ah nin0))).keep K25 (ninS ah nin0))
  refine gPriv W25 fx26 (w_121 hw) (w_122 hw) (w_123 hw) (w_74 hw) rfl (w_36 hw) (w_124 hw) (by decide) pd_11 (ct_rlf hw hEL [] a dA hA eA y h25 ⟨fx26, fx27, fx28, fx29, fx30, fx31⟩) (by simp) d21_115 (pc' := 118) rfl rfl (argsL := [(.ref y)]) rfl rfl (rest := []) rfl (wt := 0) (Nat.le_of_eq rfl) (by decide) (by decide) (by decide) (by decide) ?_
  rintro v32 T32 h32 W32 z32 ⟨rfl, rfl⟩
  show Go p e below _ T32 (mkF m 118 #[.val (.ref a), .val (.int (1 : Int32)), .val (.int tr), .val (.ref y), .val (.int (2 : Int32)), .val (.long xl), .second, .val (.long (0 : Int64)), .second, .val (.int tl), .val (.int (1 : Int32))] [])
  refine s_aloadN W32 d21_118 rfl rfl (pc' := 119) rfl ?_
  have fx33 := (Pd.keep K25 (ninS dh nin0))
  have fx34 := ((Fw7.keep Kp (ninS ad (ninS ah nin0))).keep K25 (ninS ah nin0))
  have fx35 := (((We.other Wr7 (Ne.symm ae)).keep Kp (ninS (Ne.symm de) (ninS (Ne.symm he) nin0))).keep K25 (ninS (Ne.symm he) nin0))
  exact gRetA W32 hret rfl rfl d21_119 (by decide) (by decide) ⟨rfl, (((((Keep.refl h0 [a, dA, hA, eA]).trans K4 (allS (Or.inl (by simp)) all0)).wr Wr7 (Or.inl (by simp))).trans Kp (allS (Or.inl (by simp)) (allS (Or.inl (by simp)) all0))).trans K25 (allS (Or.inl (by simp)) all0)), ⟨fx26, fx27, fx28, fx29, fx30, fx31⟩, fx34, fx35, ⟨fx33, Wl⟩⟩
def Q_rem32 (Z : State) (n0 : Nat) (a dA hA eA : Addr) (y : Addr) (kd kh ke : ClassId) (xl : Int64) (tr tl : Int32) (t : Nat) (ds hs es : List Value) (h0 : Heap) (v : Option Value) (h : Heap) : Prop := v = some (.ref y) ∧ Keep h0 h [a, dA, hA, eA] ∧ HF Z h a dA hA eA ∧ Fld Z h a "com/example/ripen/ripen/DeadlineHeap" "size" "I" (.int (2 : Int32)) ∧ Arv Z h eA ke (.object "java/lang/Object") 16 (es.set t .null) .null ∧ (Arv Z h dA kd .long 16 ds (.long 0) ∧ Arv Z h hA kh .int 16 (hs.set 2 (.int tr)) (.int 0))
set_option maxRecDepth 65536 in
set_option maxHeartbeats 40000000 in
theorem ct_rem32 {l : Launch} {Z : State} {a0 : Array Value} (hw : ∀ d ∈ tables_1, d.before a0 Z = true) (hEL : EW Z a0 EL0) {n0 : Nat} (cds : List Jvm.Cond) (a dA hA eA : Addr) (y : Addr) (kd kh ke : ClassId) (xl : Int64) (tr tl : Int32) (t : Nat) (ds hs es : List Value) (h0 : Heap) (X : HF Z h0 a dA hA eA) (N : DN a dA hA eA) (n0_a : n0 ≤ a) (n0_dA : n0 ≤ dA) (n0_hA : n0 ≤ hA) (n0_eA : n0 ≤ eA) (Vd : Arv Z h0 dA kd .long 16 ds (.long 0)) (Vh : Arv Z h0 hA kh .int 16 hs (.int 0)) (Ve : Arv Z h0 eA ke (.object "java/lang/Object") 16 es .null) (Fz : Fld Z h0 a "com/example/ripen/ripen/DeadlineHeap" "size" "I" (.int (3 : Int32))) (ld : ds.length = 16) (lh : hs.length = 16) (le : es.length = 16) (gr : hs.getD 2 (.int 0) = .int tr) (ht : tr.toInt = t) (ht2 : t < 16) (ge : es.getD t .null = .ref y) (gl : ds.getD 2 (.long 0) = .long xl) (gm : hs.getD 2 (.int 0) = .int tl) :
    Ct l Z a0 EL0 n0 false false (⟨"com/example/ripen/ripen/DeadlineHeap", "removeAt", "(I)Ljava/lang/Object;"⟩ : MethodName) prog_1_method_9_code 11 (Option.some (Jvm.ClassFile.FieldType.object "java/lang/Object")) cds ({ frames := 1, cells := 0, slots := 0, locals := 13 } : Room) [] #[(.ref a), (.int (2 : Int32))] h0 (Q_rem32 Z n0 a dA hA eA y kd kh ke xl tr tl t ds hs es h0) := by
  refine Ct.of (plainFor_of_name pn_2) hEL ?_
  intro p e s m below meth c T0 W0 hret hnm hs0
  refine Go.cast (ef_RI_11 m a (2 : Int32)) ?_
  show Go p e below _ T0 (mkF m 0 #[.val (.ref a), .val (.int (2 : Int32)), .unset, .unset, .unset, .unset, .unset, .unset, .unset, .unset, .unset] [])
  obtain ⟨Ea, Fd, Fh, Fe, Ft, Fs⟩ := id X
  have lt_a := natlt Ea.lt
  obtain ⟨ad, ah, ae, dh, de, he⟩ := id N
  have lt_dA := natlt Vd.lt
  have lt_hA := natlt Vh.lt
  have lt_eA := natlt Ve.lt
  refine s_aloadN W0 d21_0 rfl rfl (pc' := 1) rfl ?_
  refine gGetF W0 (host := "") (Or.inl (w_62 hw)) Via.refl Fh d21_1 (pc' := 4) rfl ?_
  intro T1 W1
  refine s_iloadN W1 d21_4 rfl (pc' := 5) rfl ?_
  refine gLdI W1 Vh (idx16 (i := (2 : Int32)) (j := 2) (by decide) (by decide)).1 (v := (.int tr)) (by rw [(idx16 (i := (2 : Int32)) (j := 2) (by decide) (by decide)).2]; exact gr) d21_5 (pc' := 6) rfl ?_
  refine s_istoreN W1 d21_6 (l' := #[.val (.ref a), .val (.int (2 : Int32)), .val (.int tr), .unset, .unset, .unset, .unset, .unset, .unset, .unset, .unset]) rfl (pc' := 7) rfl ?_
  refine s_aloadN W1 d21_7 rfl rfl (pc' := 8) rfl ?_
  refine s_iloadN W1 d21_8 rfl (pc' := 9) rfl ?_
  refine gVirtual W1 Ea (w_116 hw) (w_117 hw) (fun s hZ => notFace_of_selects (args := #[]) (mv hZ (w_119 hw))) (w_119 hw) (w_118 hw) (w_36 hw) (w_120 hw) (by decide) pd_10 (ct_ela hw hEL [] a dA hA eA kh ke (2 : Int32) tr 2 t hs es (.ref y) h0 ⟨Ea, Fd, Fh, Fe, Ft, Fs⟩ Vh Ve (by decide) (by decide) gr ht ht2 ge rfl) (by simp) d21_9 (pc' := 12) rfl rfl (argsL := [(.int (2 : Int32))]) rfl rfl (rest := []) rfl (wt := 0) (Nat.le_of_eq rfl) (by decide) (by decide) (by decide) (by decide) ?_
  rintro v2 T2 h2 W2 z2 ⟨rfl, rfl⟩
  show Go p e below _ T2 (mkF m 12 #[.val (.ref a), .val (.int (2 : Int32)), .val (.int tr), .unset, .unset, .unset, .unset, .unset, .unset, .unset, .unset] [(.ref y)])
  refine s_astoreN W2 d21_12 rfl (l' := #[.val (.ref a), .val (.int (2 : Int32)), .val (.int tr), .val (.ref y), .unset, .unset, .unset, .unset, .unset, .unset, .unset]) rfl (pc' := 13) rfl ?_
  refine s_aloadN W2 d21_13 rfl rfl (pc' := 14) rfl ?_
  refine gGetF W2 (host := "") (Or.inl (w_65 hw)) Via.refl Fe d21_14 (pc' := 17) rfl ?_
  intro T3 W3
  refine s_iloadN W3 d21_17 rfl (pc' := 18) rfl ?_
  refine s_aconst_null W3 d21_18 (pc' := 19) rfl ?_
  refine gStA W3 n0_eA Ve rfl (Or.inl rfl) rfl (idx16 ht ht2).1 (i := t) (idx16 ht ht2).2 (by rw [le]; exact ht2) d21_19 (pc' := 20) rfl ?_
  intro T4 h4 W4 K4 We
  have z4 : h0.size ≤ h4.size := K4.1
  refine s_aloadN W4 d21_20 rfl rfl (pc' := 21) rfl ?_
  refine s_dup W4 d21_21 rfl (pc' := 22) rfl ?_
  have fx5 := (Fz.keep K4 (ninS ae nin0))
  refine gGetF W4 (host := "") (Or.inl (w_76 hw)) Via.refl fx5 d21_22 (pc' := 25) rfl ?_
  intro T6 W6
  refine s_iconst W6 d21_25 (v := (1 : Int32)) (by decide) (pc' := 26) rfl ?_
  refine s_isub W6 d21_26 (pc' := 27) rfl ?_
  rw [show ((3 : Int32) - (1 : Int32)) = (2 : Int32) from by decide]
  refine s_dup_x1 W6 d21_27 rfl rfl (pc' := 28) rfl ?_
  have fx8 := (Ea.keep K4)
  refine gPutF W6 n0_a (Or.inr (Or.inl rfl)) (host := "") (Or.inl (w_76 hw)) Via.refl fx5 fx8 (Or.inl (w_77 hw)) (w_35 hw) (ty := .int) (by decide) rfl rfl d21_28 (pc' := 31) rfl ?_
  intro T7 h7 W7 Wr7
  have Fw7 := fx5.same Wr7
  have z7 : h4.size ≤ h7.size := Nat.le_of_eq Wr7.size.symm
  refine s_istore W7 d21_31 (l' := #[.val (.ref a), .val (.int (2 : Int32)), .val (.int tr), .val (.ref y), .val (.int (2 : Int32)), .unset, .unset, .unset, .unset, .unset, .unset]) rfl (pc' := 33) rfl ?_
  refine s_aloadN W7 d21_33 rfl rfl (pc' := 34) rfl ?_
  have fx9 := ((Fd.keep K4 (ninS ae nin0)).other Wr7 (Or.inr (slot_ne (Or.inl (w_45 hw)) (Or.inl (w_77 hw)) (by decide) (t := (.array .long)) (t' := .int) (by decide) (by decide))))
  refine gGetF W7 (host := "") (Or.inl (w_44 hw)) Via.refl fx9 d21_34 (pc' := 37) rfl ?_
  intro T10 W10
  refine s_iload W10 d21_37 rfl (pc' := 39) rfl ?_
  have fx11 := ((Vd.keep K4 (ninS de nin0)).other Wr7 (Ne.symm ad))
  refine gLdJ W10 fx11 (idx16 (i := (2 : Int32)) (j := 2) (by decide) (by decide)).1 (v := (.long xl)) (by rw [(idx16 (i := (2 : Int32)) (j := 2) (by decide) (by decide)).2]; exact gl) d21_39 (pc' := 40) rfl ?_
  refine s_lstore W10 d21_40 (l' := #[.val (.ref a), .val (.int (2 : Int32)), .val (.int tr), .val (.ref y), .val (.int (2 : Int32)), .val (.long xl), .second, .unset, .unset, .unset, .unset]) rfl (pc' := 42) rfl ?_
  refine s_aloadN W10 d21_42 rfl rfl (pc' := 43) rfl ?_
  refine s_iload W10 d21_43 rfl (pc' := 45) rfl ?_
  have fx12 := (fx8.wr Wr7)
  have fx13 := ((Fh.keep K4 (ninS ae nin0)).other Wr7 (Or.inr (slot_ne (Or.inl (w_63 hw)) (Or.inl (w_77 hw)) (by decide) (t := (.array .int)) (t' := .int) (by decide) (by decide))))
  have fx14 := ((Fe.keep K4 (ninS ae nin0)).other Wr7 (Or.inr (slot_ne (Or.inl (w_66 hw)) (Or.inl (w_77 hw)) (by decide) (t := (.array (.object "java/lang/Object"))) (t' := .int) (by decide) (by decide))))
  have fx15 := ((Ft.keep K4 (ninS ae nin0)).other Wr7 (Or.inr (slot_ne (Or.inr (w_68 hw)) (Or.inl (w_77 hw)) (by decide) (t := (.object "com/example/ripen/ripen/DeadlineHeap$SlotTracker")) (t' := .int) (by decide) (by decide))))
  have fx16 := ((Fs.keep K4 (ninS ae nin0)).other Wr7 (Or.inr (slot_ne (Or.inl (w_70 hw)) (Or.inl (w_77 hw)) (by decide) (t := (.array .long)) (t' := .int) (by decide) (by decide))))
  refine gPriv W10 fx12 (w_99 hw) (w_100 hw) (w_101 hw) (w_74 hw) rfl (w_36 hw) (w_102 hw) (by decide) pd_5 (ct_sqa hw hEL [] a dA hA eA (2 : Int32) h7 ⟨fx12, fx9, fx13, fx14, fx15, fx16⟩) (by simp) d21_45 (pc' := 48) rfl rfl (argsL := [(.int (2 : Int32))]) rfl rfl (rest := []) rfl (wt := 0) (Nat.le_of_eq rfl) (by decide) (by decide) (by decide) (by decide) ?_
  rintro v17 T17 h17 W17 z17 ⟨rfl, rfl⟩
  show Go p e below _ T17 (mkF m 48 #[.val (.ref a), .val (.int (2 : Int32)), .val (.int tr), .val (.ref y), .val (.int (2 : Int32)), .val (.long xl), .second, .unset, .unset, .unset, .unset] [(.long (0 : Int64))])
  refine s_lstore W17 d21_48 (l' := #[.val (.ref a), .val (.int (2 : Int32)), .val (.int tr), .val (.ref y), .val (.int (2 : Int32)), .val (.long xl), .second, .val (.long (0 : Int64)), .second, .unset, .unset]) rfl (pc' := 50) rfl ?_
  refine s_aloadN W17 d21_50 rfl rfl (pc' := 51) rfl ?_
  refine gGetF W17 (host := "") (Or.inl (w_62 hw)) Via.refl fx13 d21_51 (pc' := 54) rfl ?_
  intro T18 W18
  refine s_iload W18 d21_54 rfl (pc' := 56) rfl ?_
  have fx19 := ((Vh.keep K4 (ninS he nin0)).other Wr7 (Ne.symm ah))
  refine gLdI W18 fx19 (idx16 (i := (2 : Int32)) (j := 2) (by decide) (by decide)).1 (v := (.int tl)) (by rw [(idx16 (i := (2 : Int32)) (j := 2) (by decide) (by decide)).2]; exact gm) d21_56 (pc' := 57) rfl ?_
  refine s_istore W18 d21_57 (l' := #[.val (.ref a), .val (.int (2 : Int32)), .val (.int tr), .val (.ref y), .val (.int (2 : Int32)), .val (.long xl), .second, .val (.long (0 : Int64)), .second, .val (.int tl), .unset]) rfl (pc' := 59) rfl ?_
  refine s_iloadN W18 d21_59 rfl (pc' := 60) rfl ?_
  refine s_iload W18 d21_60 rfl (pc' := 62) rfl ?_
  refine s_icmpge W18 d21_62 (by decide) (pc1 := 105) (by decide) (pc2 := 65) rfl ?_ (fun q => absurd q (by decide))
  intro q62
  refine s_aloadN W18 d21_105 rfl rfl (pc' := 106) rfl ?_
  refine gGetF W18 (host := "") (Or.inl (w_62 hw)) Via.refl fx13 d21_106 (pc' := 109) rfl ?_
  intro T20 W20
  refine s_iload W20 d21_109 rfl (pc' := 111) rfl ?_
  refine s_iloadN W20 d21_111 rfl (pc' := 112) rfl ?_
  refine gStI W20 n0_hA fx19 (idx16 (i := (2 : Int32)) (j := 2) (by decide) (by decide)).1 (i := 2) (idx16 (i := (2 : Int32)) (j := 2) (by decide) (by decide)).2 (by simp [lh]) d21_112 (pc' := 113) rfl ?_
  intro T21 h21 W21 K21 Wl
  have z21 : h7.size ≤ h21.size := K21.1
  refine s_aloadN W21 d21_113 rfl rfl (pc' := 114) rfl ?_
  refine s_aloadN W21 d21_114 rfl rfl (pc' := 115) rfl ?_
  have fx22 := (fx12.keep K21)
  have fx23 := (fx9.keep K21 (ninS ah nin0))
  have fx24 := (fx13.keep K21 (ninS ah nin0))
  have fx25 := (fx14.keep K21 (ninS ah nin0))
  have fx26 := (fx15.keep K21 (ninS ah nin0))
  have fx27 := (fx16.keep K21 (ninS ah nin0))
  refine gPriv W21 fx22 (w_121 hw) (w_122 hw) (w_123 hw) (w_74 hw) rfl (w_36 hw) (w_124 hw) (by decide) pd_11 (ct_rlf hw hEL [] a dA hA eA y h21 ⟨fx22, fx23, fx24, fx25, fx26, fx27⟩) (by simp) d21_115 (pc' := 118) rfl rfl (argsL := [(.ref y)]) rfl rfl (rest := []) rfl (wt := 0) (Nat.le_of_eq rfl) (by decide) (by decide) (by decide) (by decide) ?_
  rintro v28 T28 h28 W28 z28 ⟨rfl, rfl⟩
  show Go p e below _ T28 (mkF m 118 #[.val (.ref a), .val (.int (2 : Int32)), .val (.int tr), .val (.ref y), .val (.int (2 : Int32)), .val (.long xl), .second, .val (.long (0 : Int64)), .second, .val (.int tl), .unset] [])
  refine s_aloadN W28 d21_118 rfl rfl (pc' := 119) rfl ?_
  have fx29 := (fx11.keep K21 (ninS dh nin0))
  have fx30 := (Fw7.keep K21 (ninS ah nin0))
  have fx31 := ((We.other Wr7 (Ne.symm ae)).keep K21 (ninS (Ne.symm he) nin0))
  exact gRetA W28 hret rfl rfl d21_119 (by decide) (by decide) ⟨rfl, ((((Keep.refl h0 [a, dA, hA, eA]).trans K4 (allS (Or.inl (by simp)) all0)).wr Wr7 (Or.inl (by simp))).trans K21 (allS (Or.inl (by simp)) all0)), ⟨fx22, fx23, fx24, fx25, fx26, fx27⟩, fx30, fx31, ⟨fx29, Wl⟩⟩
def Q_mn (Z : State) (n0 : Nat)  (h0 : Heap) (v : Option Value) (h : Heap) : Prop := v = some (.int (0 : Int32)) ∧ h0 = h
set_option maxRecDepth 65536 in
set_option maxHeartbeats 40000000 in
theorem ct_mn {l : Launch} {Z : State} {a0 : Array Value} (hw : ∀ d ∈ tables_1, d.before a0 Z = true) (hEL : EW Z a0 EL0) {n0 : Nat} (cds : List Jvm.Cond)  (h0 : Heap)  :
    Ct l Z a0 EL0 n0 false false (⟨"java/lang/Math", "min", "(II)I"⟩ : MethodName) jdk_29_method_69_code 2 (Option.some Jvm.ClassFile.FieldType.int) cds ({ frames := 0, cells := 0, slots := 0, locals := 0 } : Room) [] #[(.int (0 : Int32)), (.int (16 : Int32))] h0 (Q_mn Z n0  h0) := by
  refine Ct.of (Jvm.Free.JP.mathPlain rfl (by decide +kernel)) hEL ?_
  intro p e s m below meth c T0 W0 hret hnm hs0
  refine Go.cast (ef_II_2 m (0 : Int32) (16 : Int32)) ?_
  show Go p e below _ T0 (mkF m 0 #[.val (.int (0 : Int32)), .val (.int (16 : Int32))] [])
  refine s_iloadN W0 d11_0 rfl (pc' := 1) rfl ?_
  refine s_iloadN W0 d11_1 rfl (pc' := 2) rfl ?_
  refine s_icmpgt W0 d11_2 (by decide) (pc1 := 9) (by decide) (pc2 := 5) rfl (fun q => absurd q (by decide)) ?_
  intro q2
  refine s_iloadN W0 d11_5 rfl (pc' := 6) rfl ?_
  refine s_goto W0 d11_6 (by decide) (pc' := 10) (by decide) ?_
  exact gRetI W0 hret d11_10 (by decide) (by decide) ⟨rfl, rfl⟩
def Q_cpo (Z : State) (n0 : Nat) (b : Addr) (kb : ClassId) (h0 : Heap) (v : Option Value) (h : Heap) : Prop := ∃ d kd, v = some (.ref d) ∧ Keep h0 h [] ∧ h0.size ≤ d ∧ Arv Z h d kd .int 16 [(.int (0 : Int32)), (.int (0 : Int32)), (.int (0 : Int32)), (.int (0 : Int32)), (.int (0 : Int32)), (.int (0 : Int32)), (.int (0 : Int32)), (.int (0 : Int32)), (.int (0 : Int32)), (.int (0 : Int32)), (.int (0 : Int32)), (.int (0 : Int32)), (.int (0 : Int32)), (.int (0 : Int32)), (.int (0 : Int32)), (.int (0 : Int32))] (.int 0)
set_option maxRecDepth 65536 in
set_option maxHeartbeats 40000000 in
theorem ct_cpo {l : Launch} {Z : State} {a0 : Array Value} (hw : ∀ d ∈ tables_1, d.before a0 Z = true) (hEL : EW Z a0 EL0) {n0 : Nat} (cds : List Jvm.Cond) (b : Addr) (kb : ClassId) (h0 : Heap) (Vb : Arv Z h0 b kb .int 0 [] (.int 0)) :
    Ct l Z a0 EL0 n0 false false (⟨"java/util/Arrays", "copyOf", "([II)[I"⟩ : MethodName) jdk_65_method_123_code 3 (Option.some (Jvm.ClassFile.FieldType.array Jvm.ClassFile.FieldType.int)) cds ({ frames := 1, cells := 1, slots := 16, locals := 18 } : Room) [] #[(.ref b), (.int (16 : Int32))] h0 (Q_cpo Z n0 b kb h0) := by
  refine Ct.of (plainFor_of_name pn_3) hEL ?_
  intro p e s m below meth c T0 W0 hret hnm hs0
  refine Go.cast (ef_RI_3 m b (16 : Int32)) ?_
  show Go p e below _ T0 (mkF m 0 #[.val (.ref b), .val (.int (16 : Int32)), .unset] [])
  have lt_b := natlt Vb.lt
  refine s_iloadN W0 d10_0 rfl (pc' := 1) rfl ?_
  refine s_aloadN W0 d10_1 rfl rfl (pc' := 2) rfl ?_
  refine gLen W0 Vb d10_2 (pc' := 3) rfl ?_
  refine s_icmpne W0 d10_3 (by decide) (pc1 := 14) (by decide) (pc2 := 6) rfl ?_ (fun q => absurd q (by decide))
  intro q3
  refine s_iloadN W0 d10_14 rfl (pc' := 15) rfl ?_
  refine gNewP (aty := .int) W0 (w_46 hw) (ad := "[I") (by decide +kernel) d10_15 (pc' := 17) rfl (by decide) (cap := 16) (by decide) (by decide) (by decide) (by decide) ?_
  intro T1 h1 b1 g1 W1 E1 ⟨k1, V1, A1⟩
  have z1 : h0.size ≤ h1.size := E1.1
  have lt_b1 := natlt A1.lt
  have gg1 := nateq g1
  have n0_b1 : n0 ≤ b1 := by have := W0.n0le; omega
  have Vp1 : Arv Z h1 b1 k1 .int (16 : Int32) [(.int (0 : Int32)), (.int (0 : Int32)), (.int (0 : Int32)), (.int (0 : Int32)), (.int (0 : Int32)), (.int (0 : Int32)), (.int (0 : Int32)), (.int (0 : Int32)), (.int (0 : Int32)), (.int (0 : Int32)), (.int (0 : Int32)), (.int (0 : Int32)), (.int (0 : Int32)), (.int (0 : Int32)), (.int (0 : Int32)), (.int (0 : Int32))] (.int (0 : Int32)) := Arv.pad V1 (pad_rep [] (.int (0 : Int32)) 16)
  refine s_astoreN W1 d10_17 rfl (l' := #[.val (.ref b), .val (.int (16 : Int32)), .val (.ref b1)]) rfl (pc' := 18) rfl ?_
  refine s_aloadN W1 d10_18 rfl rfl (pc' := 19) rfl ?_
  refine s_iconst W1 d10_19 (v := (0 : Int32)) (by decide) (pc' := 20) rfl ?_
  refine s_aloadN W1 d10_20 rfl rfl (pc' := 21) rfl ?_
  refine s_iconst W1 d10_21 (v := (0 : Int32)) (by decide) (pc' := 22) rfl ?_
  refine s_aloadN W1 d10_22 rfl rfl (pc' := 23) rfl ?_
  have fx2 := (Vb.ext E1)
  refine gLen W1 fx2 d10_23 (pc' := 24) rfl ?_
  refine s_iloadN W1 d10_24 rfl (pc' := 25) rfl ?_
  refine gStatic W1 (w_54 hw) (w_55 hw) (w_56 hw) (w_57 hw) (by decide) pd_12 (ct_mn hw hEL [] h1) (by simp) d10_25 (pc' := 28) rfl rfl (argsL := [(.int (0 : Int32)), (.int (16 : Int32))]) rfl rfl (rest := [(.int (0 : Int32)), (.ref b1), (.int (0 : Int32)), (.ref b)]) rfl (wt := 4) (Nat.le_of_eq rfl) (by decide) (by decide) (by decide) (by decide) ?_
  rintro v3 T3 h3 W3 z3 ⟨rfl, rfl⟩
  show Go p e below _ T3 (mkF m 28 #[.val (.ref b), .val (.int (16 : Int32)), .val (.ref b1)] [(.int (0 : Int32)), (.int (0 : Int32)), (.ref b1), (.int (0 : Int32)), (.ref b)])
  refine gCopy W3 (w_58 hw) (w_61 hw) (w_59 hw) (w_60 hw) fx2 Vp1 (us := []) (Or.inl ⟨rfl, rfl⟩) (by decide) (by decide) (by decide) (by decide) (by decide) rfl (by decide) n0_b1 (Or.inr (Or.inl rfl)) d10_28 (pc' := 31) rfl rfl (by decide) (wt := 0) (Nat.le_of_eq rfl) (by decide) ?_
  intro T4 h4 W4 K4 V4
  replace V4 : Arv Z h4 b1 k1 .int (16 : Int32) [(.int (0 : Int32)), (.int (0 : Int32)), (.int (0 : Int32)), (.int (0 : Int32)), (.int (0 : Int32)), (.int (0 : Int32)), (.int (0 : Int32)), (.int (0 : Int32)), (.int (0 : Int32)), (.int (0 : Int32)), (.int (0 : Int32)), (.int (0 : Int32)), (.int (0 : Int32)), (.int (0 : Int32)), (.int (0 : Int32)), (.int (0 : Int32))] (.int (0 : Int32)) := V4
  have z4 : h1.size ≤ h4.size := K4.1
  refine s_aloadN W4 d10_31 rfl rfl (pc' := 32) rfl ?_
  exact gRetA W4 hret rfl rfl d10_32 (by decide) (by decide) ⟨_, _, rfl, (((Keep.refl h0 []).ext E1).trans K4 (allS (Or.inr (natle (by omega))) all0)), natle (by omega), V4⟩
def Q_wfh (Z : State) (n0 : Nat) (b : Addr) (kb : ClassId) (h0 : Heap) (v : Option Value) (h : Heap) : Prop := ∃ d kd, v = some (.ref d) ∧ Keep h0 h [] ∧ h0.size ≤ d ∧ Arv Z h d kd .int 16 [(.int (0 : Int32)), (.int (1 : Int32)), (.int (2 : Int32)), (.int (3 : Int32)), (.int (4 : Int32)), (.int (5 : Int32)), (.int (6 : Int32)), (.int (7 : Int32)), (.int (8 : Int32)), (.int (9 : Int32)), (.int (10 : Int32)), (.int (11 : Int32)), (.int (12 : Int32)), (.int (13 : Int32)), (.int (14 : Int32)), (.int (15 : Int32))] (.int 0)
set_option maxRecDepth 65536 in
set_option maxHeartbeats 40000000 in
theorem ct_wfh {l : Launch} {Z : State} {a0 : Array Value} (hw : ∀ d ∈ tables_1, d.before a0 Z = true) (hEL : EW Z a0 EL0) {n0 : Nat} (cds : List Jvm.Cond) (b : Addr) (kb : ClassId) (h0 : Heap) (Vb : Arv Z h0 b kb .int 0 [] (.int 0)) :
    Ct l Z a0 EL0 n0 false false (⟨"com/example/ripen/ripen/DeadlineHeap", "withFreeHandles", "([II)[I"⟩ : MethodName) prog_1_method_25_code 4 (Option.some (Jvm.ClassFile.FieldType.array Jvm.ClassFile.FieldType.int)) cds ({ frames := 2, cells := 1, slots := 16, locals := 32 } : Room) [] #[(.ref b), (.int (16 : Int32))] h0 (Q_wfh Z n0 b kb h0) := by
  refine Ct.of (plainFor_of_name pn_2) hEL ?_
  intro p e s m below meth c T0 W0 hret hnm hs0
  refine Go.cast (ef_RI_4 m b (16 : Int32)) ?_
  show Go p e below _ T0 (mkF m 0 #[.val (.ref b), .val (.int (16 : Int32)), .unset, .unset] [])
  have lt_b := natlt Vb.lt
  refine s_aloadN W0 d9_0 rfl rfl (pc' := 1) rfl ?_
  refine s_iloadN W0 d9_1 rfl (pc' := 2) rfl ?_
  refine gStatic W0 (w_50 hw) (w_51 hw) (w_52 hw) (w_53 hw) (by decide) pd_13 (ct_cpo hw hEL [] b kb h0 Vb) (by simp) d9_2 (pc' := 5) rfl rfl (argsL := [(.ref b), (.int (16 : Int32))]) rfl rfl (rest := []) rfl (wt := 0) (Nat.le_of_eq rfl) (by decide) (by decide) (by decide) (by decide) ?_
  rintro v1 T1 h1 W1 z1 ⟨d, kd, rfl, Kc, gc, Vd⟩
  have gd0 := natle gc
  have lt_d := natlt Vd.lt
  have n0_d : n0 ≤ d := by have := W0.n0le; omega
  show Go p e below _ T1 (mkF m 5 #[.val (.ref b), .val (.int (16 : Int32)), .unset, .unset] [(.ref d)])
  refine s_astoreN W1 d9_5 rfl (l' := #[.val (.ref b), .val (.int (16 : Int32)), .val (.ref d), .unset]) rfl (pc' := 6) rfl ?_
  refine s_aloadN W1 d9_6 rfl rfl (pc' := 7) rfl ?_
  have fx2 := (Vb.keep Kc nin0)
  refine gLen W1 fx2 d9_7 (pc' := 8) rfl ?_
  refine s_istoreN W1 d9_8 (l' := #[.val (.ref b), .val (.int (16 : Int32)), .val (.ref d), .val (.int (0 : Int32))]) rfl (pc' := 9) rfl ?_
  refine s_iloadN W1 d9_9 rfl (pc' := 10) rfl ?_
  refine s_iloadN W1 d9_10 rfl (pc' := 11) rfl ?_
  refine s_icmpge W1 d9_11 (by decide) (pc1 := 24) (by decide) (pc2 := 14) rfl (fun q => absurd q (by decide)) ?_
  intro q11
  refine s_aloadN W1 d9_14 rfl rfl (pc' := 15) rfl ?_
  refine s_iloadN W1 d9_15 rfl (pc' := 16) rfl ?_
  refine s_iloadN W1 d9_16 rfl (pc' := 17) rfl ?_
  refine gStI W1 n0_d Vd ⟨by decide, by decide⟩ (i := 0) (by decide) (show 0 < 16 by decide) d9_17 (pc' := 18) rfl ?_
  intro T3 h3 W3 K3 V3
  replace V3 : Arv Z h3 d kd .int (16 : Int32) [(.int (0 : Int32)), (.int (0 : Int32)), (.int (0 : Int32)), (.int (0 : Int32)), (.int (0 : Int32)), (.int (0 : Int32)), (.int (0 : Int32)), (.int (0 : Int32)), (.int (0 : Int32)), (.int (0 : Int32)), (.int (0 : Int32)), (.int (0 : Int32)), (.int (0 : Int32)), (.int (0 : Int32)), (.int (0 : Int32)), (.int (0 : Int32))] (.int 0) := V3
  have z3 : h1.size ≤ h3.size := K3.1
  refine s_iinc W3 d9_18 (v := (1 : Int32)) (by decide) rfl (l' := #[.val (.ref b), .val (.int (16 : Int32)), .val (.ref d), .val (.int ((0 : Int32) + (1 : Int32)))]) rfl (pc' := 21) rfl ?_
  refine s_goto W3 d9_21 (by decide) (pc' := 9) (by decide) ?_
  rw [show ((0 : Int32) + (1 : Int32)) = (1 : Int32) from by decide]
  refine s_iloadN W3 d9_9 rfl (pc' := 10) rfl ?_
  refine s_iloadN W3 d9_10 rfl (pc' := 11) rfl ?_
  refine s_icmpge W3 d9_11 (by decide) (pc1 := 24) (by decide) (pc2 := 14) rfl (fun q => absurd q (by decide)) ?_
  intro q11
  refine s_aloadN W3 d9_14 rfl rfl (pc' := 15) rfl ?_
  refine s_iloadN W3 d9_15 rfl (pc' := 16) rfl ?_
  refine s_iloadN W3 d9_16 rfl (pc' := 17) rfl ?_
  refine gStI W3 n0_d V3 ⟨by decide, by decide⟩ (i := 1) (by decide) (show 1 < 16 by decide) d9_17 (pc' := 18) rfl ?_
  intro T4 h4 W4 K4 V4
  replace V4 : Arv Z h4 d kd .int (16 : Int32) [(.int (0 : Int32)), (.int (1 : Int32)), (.int (0 : Int32)), (.int (0 : Int32)), (.int (0 : Int32)), (.int (0 : Int32)), (.int (0 : Int32)), (.int (0 : Int32)), (.int (0 : Int32)), (.int (0 : Int32)), (.int (0 : Int32)), (.int (0 : Int32)), (.int (0 : Int32)), (.int (0 : Int32)), (.int (0 : Int32)), (.int (0 : Int32))] (.int 0) := V4
  have z4 : h3.size ≤ h4.size := K4.1
  refine s_iinc W4 d9_18 (v := (1 : Int32)) (by decide) rfl (l' := #[.val (.ref b), .val (.int (16 : Int32)), .val (.ref d), .val (.int ((1 : Int32) + (1 : Int32)))]) rfl (pc' := 21) rfl ?_
  refine s_goto W4 d9_21 (by decide) (pc' := 9) (by decide) ?_
  rw [show ((1 : Int32) + (1 : Int32)) = (2 : Int32) from by decide]
  refine s_iloadN W4 d9_9 rfl (pc' := 10) rfl ?_
  refine s_iloadN W4 d9_10 rfl (pc' := 11) rfl ?_
  refine s_icmpge W4 d9_11 (by decide) (pc1 := 24) (by decide) (pc2 := 14) rfl (fun q => absurd q (by decide)) ?_
  intro q11
  refine s_aloadN W4 d9_14 rfl rfl (pc' := 15) rfl ?_
  refine s_iloadN W4 d9_15 rfl (pc' := 16) rfl ?_
  refine s_iloadN W4 d9_16 rfl (pc' := 17) rfl ?_
  refine gStI W4 n0_d V4 ⟨by decide, by decide⟩ (i := 2) (by decide) (show 2 < 16 by decide) d9_17 (pc' := 18) rfl ?_
  intro T5 h5 W5 K5 V5
  replace V5 : Arv Z h5 d kd .int (16 : Int32) [(.int (0 : Int32)), (.int (1 : Int32)), (.int (2 : Int32)), (.int (0 : Int32)), (.int (0 : Int32)), (.int (0 : Int32)), (.int (0 : Int32)), (.int (0 : Int32)), (.int (0 : Int32)), (.int (0 : Int32)), (.int (0 : Int32)), (.int (0 : Int32)), (.int (0 : Int32)), (.int (0 : Int32)), (.int (0 : Int32)), (.int (0 : Int32))] (.int 0) := V5
  have z5 : h4.size ≤ h5.size := K5.1
  refine s_iinc W5 d9_18 (v := (1 : Int32)) (by decide) rfl (l' := #[.val (.ref b), .val (.int (16 : Int32)), .val (.ref d), .val (.int ((2 : Int32) + (1 : Int32)))]) rfl (pc' := 21) rfl ?_
  refine s_goto W5 d9_21 (by decide) (pc' := 9) (by decide) ?_
  rw [show ((2 : Int32) + (1 : Int32)) = (3 : Int32) from by decide]
  refine s_iloadN W5 d9_9 rfl (pc' := 10) rfl ?_
  refine s_iloadN W5 d9_10 rfl (pc' := 11) rfl ?_
  refine s_icmpge W5 d9_11 (by decide) (pc1 := 24) (by decide) (pc2 := 14) rfl (fun q => absurd q (by decide)) ?_
  intro q11
  refine s_aloadN W5 d9_14 rfl rfl (pc' := 15) rfl ?_
  refine s_iloadN W5 d9_15 rfl (pc' := 16) rfl ?_
  refine s_iloadN W5 d9_16 rfl (pc' := 17) rfl ?_
  refine gStI W5 n0_d V5 ⟨by decide, by decide⟩ (i := 3) (by decide) (show 3 < 16 by decide) d9_17 (pc' := 18) rfl ?_
  intro T6 h6 W6 K6 V6
  replace V6 : Arv Z h6 d kd .int (16 : Int32) [(.int (0 : Int32)), (.int (1 : Int32)), (.int (2 : Int32)), (.int (3 : Int32)), (.int (0 : Int32)), (.int (0 : Int32)), (.int (0 : Int32)), (.int (0 : Int32)), (.int (0 : Int32)), (.int (0 : Int32)), (.int (0 : Int32)), (.int (0 : Int32)), (.int (0 : Int32)), (.int (0 : Int32)), (.int (0 : Int32)), (.int (0 : Int32))] (.int 0) := V6
  have z6 : h5.size ≤ h6.size := K6.1
  refine s_iinc W6 d9_18 (v := (1 : Int32)) (by decide) rfl (l' := #[.val (.ref b), .val (.int (16 : Int32)), .val (.ref d), .val (.int ((3 : Int32) + (1 : Int32)))]) rfl (pc' := 21) rfl ?_
  refine s_goto W6 d9_21 (by decide) (pc' := 9) (by decide) ?_
  rw [show ((3 : Int32) + (1 : Int32)) = (4 : Int32) from by decide]
  refine s_iloadN W6 d9_9 rfl (pc' := 10) rfl ?_
  refine s_iloadN W6 d9_10 rfl (pc' := 11) rfl ?_
  refine s_icmpge W6 d9_11 (by decide) (pc1 := 24) (by decide) (pc2 := 14) rfl (fun q => absurd q (by decide)) ?_
  intro q11
  refine s_aloadN W6 d9_14 rfl rfl (pc' := 15) rfl ?_
  refine s_iloadN W6 d9_15 rfl (pc' := 16) rfl ?_
  refine s_iloadN W6 d9_16 rfl (pc' := 17) rfl ?_
  refine gStI W6 n0_d V6 ⟨by decide, by decide⟩ (i := 4) (by decide) (show 4 < 16 by decide) d9_17 (pc' := 18) rfl ?_
  intro T7 h7 W7 K7 V7
  replace V7 : Arv Z h7 d kd .int (16 : Int32) [(.int (0 : Int32)), (.int (1 : Int32)), (.int (2 : Int32)), (.int (3 : Int32)), (.int (4 : Int32)), (.int (0 : Int32)), (.int (0 : Int32)), (.int (0 : Int32)), (.int (0 : Int32)), (.int (0 : Int32)), (.int (0 : Int32)), (.int (0 : Int32)), (.int (0 : Int32)), (.int (0 : Int32)), (.int (0 : Int32)), (.int (0 : Int32))] (.int 0) := V7
  have z7 : h6.size ≤ h7.size := K7.1
  refine s_iinc W7 d9_18 (v := (1 : Int32)) (by decide) rfl (l' := #[.val (.ref b), .val (.int (16 : Int32)), .val (.ref d), .val (.int ((4 : Int32) + (1 : Int32)))]) rfl (pc' := 21) rfl ?_
  refine s_goto W7 d9_21 (by decide) (pc' := 9) (by decide) ?_
  rw [show ((4 : Int32) + (1 : Int32)) = (5 : Int32) from by decide]
  refine s_iloadN W7 d9_9 rfl (pc' := 10) rfl ?_
  refine s_iloadN W7 d9_10 rfl (pc' := 11) rfl ?_
  refine s_icmpge W7 d9_11 (by decide) (pc1 := 24) (by decide) (pc2 := 14) rfl (fun q => absurd q (by decide)) ?_
  intro q11
  refine s_aloadN W7 d9_14 rfl rfl (pc' := 15) rfl ?_
  refine s_iloadN W7 d9_15 rfl (pc' := 16) rfl ?_
  refine s_iloadN W7 d9_16 rfl (pc' := 17) rfl ?_
  refine gStI W7 n0_d V7 ⟨by decide, by decide⟩ (i := 5) (by decide) (show 5 < 16 by decide) d9_17 (pc' := 18) rfl ?_
  intro T8 h8 W8 K8 V8
  replace V8 : Arv Z h8 d kd .int (16 : Int32) [(.int (0 : Int32)), (.int (1 : Int32)), (.int (2 : Int32)), (.int (3 : Int32)), (.int (4 : Int32)), (.int (5 : Int32)), (.int (0 : Int32)), (.int (0 : Int32)), (.int (0 : Int32)), (.int (0 : Int32)), (.int (0 : Int32)), (.int (0 : Int32)), (.int (0 : Int32)), (.int (0 : Int32)), (.int (0 : Int32)), (.int (0 : Int32))] (.int 0) := V8
  have z8 : h7.size ≤ h8.size := K8.1
  refine s_iinc W8 d9_18 (v := (1 : Int32)) (by decide) rfl (l' := #[.val (.ref b), .val (.int (16 : Int32)), .val (.ref d), .val (.int ((5 : Int32) + (1 : Int32)))]) rfl (pc' := 21) rfl ?_
  refine s_goto W8 d9_21 (by decide) (pc' := 9) (by decide) ?_
  rw [show ((5 : Int32) + (1 : Int32)) = (6 : Int32) from by decide]
  refine s_iloadN W8 d9_9 rfl (pc' := 10) rfl ?_
  refine s_iloadN W8 d9_10 rfl (pc' := 11) rfl ?_
  refine s_icmpge W8 d9_11 (by decide) (pc1 := 24) (by decide) (pc2 := 14) rfl (fun q => absurd q (by decide)) ?_
  intro q11
  refine s_aloadN W8 d9_14 rfl rfl (pc' := 15) rfl ?_
  refine s_iloadN W8 d9_15 rfl (pc' := 16) rfl ?_
  refine s_iloadN W8 d9_16 rfl (pc' := 17) rfl ?_
  refine gStI W8 n0_d V8 ⟨by decide, by decide⟩ (i := 6) (by decide) (show 6 < 16 by decide) d9_17 (pc' := 18) rfl ?_
  intro T9 h9 W9 K9 V9
  replace V9 : Arv Z h9 d kd .int (16 : Int32) [(.int (0 : Int32)), (.int (1 : Int32)), (.int (2 : Int32)), (.int (3 : Int32)), (.int (4 : Int32)), (.int (5 : Int32)), (.int (6 : Int32)), (.int (0 : Int32)), (.int (0 : Int32)), (.int (0 : Int32)), (.int (0 : Int32)), (.int (0 : Int32)), (.int (0 : Int32)), (.int (0 : Int32)), (.int (0 : Int32)), (.int (0 : Int32))] (.int 0) := V9
  have z9 : h8.size ≤ h9.size := K9.1
  refine s_iinc W9 d9_18 (v := (1 : Int32)) (by decide) rfl (l' := #[.val (.ref b), .val (.int (16 : Int32)), .val (.ref d), .val (.int ((6 : Int32) + (1 : Int32)))]) rfl (pc' := 21) rfl ?_
  refine s_goto W9 d9_21 (by decide) (pc' := 9) (by decide) ?_
  rw [show ((6 : Int32) + (1 : Int32)) = (7 : Int32) from by decide]
  refine s_iloadN W9 d9_9 rfl (pc' := 10) rfl ?_
  refine s_iloadN W9 d9_10 rfl (pc' := 11) rfl ?_
  refine s_icmpge W9 d9_11 (by decide) (pc1 := 24) (by decide) (pc2 := 14) rfl (fun q => absurd q (by decide)) ?_
  intro q11
  refine s_aloadN W9 d9_14 rfl rfl (pc' := 15) rfl ?_
  refine s_iloadN W9 d9_15 rfl (pc' := 16) rfl ?_
  refine s_iloadN W9 d9_16 rfl (pc' := 17) rfl ?_
  refine gStI W9 n0_d V9 ⟨by decide, by decide⟩ (i := 7) (by decide) (show 7 < 16 by decide) d9_17 (pc' := 18) rfl ?_
  intro T10 h10 W10 K10 V10
  replace V10 : Arv Z h10 d kd .int (16 : Int32) [(.int (0 : Int32)), (.int (1 : Int32)), (.int (2 : Int32)), (.int (3 : Int32)), (.int (4 : Int32)), (.int (5 : Int32)), (.int (6 : Int32)), (.int (7 : Int32)), (.int (0 : Int32)), (.int (0 : Int32)), (.int (0 : Int32)), (.int (0 : Int32)), (.int (0 : Int32)), (.int (0 : Int32)), (.int (0 : Int32)), (.int (0 : Int32))] (.int 0) := V10
  have z10 : h9.size ≤ h10.size := K10.1
  refine s_iinc W10 d9_18 (v := (1 : Int32)) (by decide) rfl (l' := #[.val (.ref b), .val (.int (16 : Int32)), .val (.ref d), .val (.int ((7 : Int32) + (1 : Int32)))]) rfl (pc' := 21) rfl ?_
  refine s_goto W10 d9_21 (by decide) (pc' := 9) (by decide) ?_
  rw [show ((7 : Int32) + (1 : Int32)) = (8 : Int32) from by decide]
  refine s_iloadN W10 d9_9 rfl (pc' := 10) rfl ?_
  refine s_iloadN W10 d9_10 rfl (pc' := 11) rfl ?_
  refine s_icmpge W10 d9_11 (by decide) (pc1 := 24) (by decide) (pc2 := 14) rfl (fun q => absurd q (by decide)) ?_
  intro q11
  refine s_aloadN W10 d9_14 rfl rfl (pc' := 15) rfl ?_
  refine s_iloadN W10 d9_15 rfl (pc' := 16) rfl ?_
  refine s_iloadN W10 d9_16 rfl (pc' := 17) rfl ?_
  refine gStI W10 n0_d V10 ⟨by decide, by decide⟩ (i := 8) (by decide) (show 8 < 16 by decide) d9_17 (pc' := 18) rfl ?_
  intro T11 h11 W11 K11 V11
  replace V11 : Arv Z h11 d kd .int (16 : Int32) [(.int (0 : Int32)), (.int (1 : Int32)), (.int (2 : Int32)), (.int (3 : Int32)), (.int (4 : Int32)), (.int (5 : Int32)), (.int (6 : Int32)), (.int (7 : Int32)), (.int (8 : Int32)), (.int (0 : Int32)), (.int (0 : Int32)), (.int (0 : Int32)), (.int (0 : Int32)), (.int (0 : Int32)), (.int (0 : Int32)), (.int (0 : Int32))] (.int 0) := V11
  have z11 : h10.size ≤ h11.size := K11.1
  refine s_iinc W11 d9_18 (v := (1 : Int32)) (by decide) rfl (l' := #[.val (.ref b), .val (.int (16 : Int32)), .val (.ref d), .val (.int ((8 : Int32) + (1 : Int32)))]) rfl (pc' := 21) rfl ?_
  refine s_goto W11 d9_21 (by decide) (pc' := 9) (by decide) ?_
  rw [show ((8 : Int32) + (1 : Int32)) = (9 : Int32) from by decide]
  refine s_iloadN W11 d9_9 rfl (pc' := 10) rfl ?_
  refine s_iloadN W11 d9_10 rfl (pc' := 11) rfl ?_
  refine s_icmpge W11 d9_11 (by decide) (pc1 := 24) (by decide) (pc2 := 14) rfl (fun q => absurd q (by decide)) ?_
  intro q11
  refine s_aloadN W11 d9_14 rfl rfl (pc' := 15) rfl ?_
  refine s_iloadN W11 d9_15 rfl (pc' := 16) rfl ?_
  refine s_iloadN W11 d9_16 rfl (pc' := 17) rfl ?_
  refine gStI W11 n0_d V11 ⟨by decide, by decide⟩ (i := 9) (by decide) (show 9 < 16 by decide) d9_17 (pc' := 18) rfl ?_
  intro T12 h12 W12 K12 V12
  replace V12 : Arv Z h12 d kd .int (16 : Int32) [(.int (0 : Int32)), (.int (1 : Int32)), (.int (2 : Int32)), (.int (3 : Int32)), (.int (4 : Int32)), (.int (5 : Int32)), (.int (6 : Int32)), (.int (7 : Int32)), (.int (8 : Int32)), (.int (9 : Int32)), (.int (0 : Int32)), (.int (0 : Int32)), (.int (0 : Int32)), (.int (0 : Int32)), (.int (0 : Int32)), (.int (0 : Int32))] (.int 0) := V12
  have z12 : h11.size ≤ h12.size := K12.1
  refine s_iinc W12 d9_18 (v := (1 : Int32)) (by decide) rfl (l' := #[.val (.ref b), .val (.int (16 : Int32)), .val (.ref d), .val (.int ((9 : Int32) + (1 : Int32)))]) rfl (pc' := 21) rfl ?_
  refine s_goto W12 d9_21 (by decide) (pc' := 9) (by decide) ?_
  rw [show ((9 : Int32) + (1 : Int32)) = (10 : Int32) from by decide]
  refine s_iloadN W12 d9_9 rfl (pc' := 10) rfl ?_
  refine s_iloadN W12 d9_10 rfl (pc' := 11) rfl ?_
  refine s_icmpge W12 d9_11 (by decide) (pc1 := 24) (by decide) (pc2 := 14) rfl (fun q => absurd q (by decide)) ?_
  intro q11
  refine s_aloadN W12 d9_14 rfl rfl (pc' := 15) rfl ?_
  refine s_iloadN W12 d9_15 rfl (pc' := 16) rfl ?_
  refine s_iloadN W12 d9_16 rfl (pc' := 17) rfl ?_
  refine gStI W12 n0_d V12 ⟨by decide, by decide⟩ (i := 10) (by decide) (show 10 < 16 by decide) d9_17 (pc' := 18) rfl ?_
  intro T13 h13 W13 K13 V13
  replace V13 : Arv Z h13 d kd .int (16 : Int32) [(.int (0 : Int32)), (.int (1 : Int32)), (.int (2 : Int32)), (.int (3 : Int32)), (.int (4 : Int32)), (.int (5 : Int32)), (.int (6 : Int32)), (.int (7 : Int32)), (.int (8 : Int32)), (.int (9 : Int32)), (.int (10 : Int32)), (.int (0 : Int32)), (.int (0 : Int32)), (.int (0 : Int32)), (.int (0 : Int32)), (.int (0 : Int32))] (.int 0) := V13
  have z13 : h12.size ≤ h13.size := K13.1
  refine s_iinc W13 d9_18 (v := (1 : Int32)) (by decide) rfl (l' := #[.val (.ref b), .val (.int (16 : Int32)), .val (.ref d), .val (.int ((10 : Int32) + (1 : Int32)))]) rfl (pc' := 21) rfl ?_
  refine s_goto W13 d9_21 (by decide) (pc' := 9) (by decide) ?_
  rw [show ((10 : Int32) + (1 : Int32)) = (11 : Int32) from by decide]
  refine s_iloadN W13 d9_9 rfl (pc' := 10) rfl ?_
  refine s_iloadN W13 d9_10 rfl (pc' := 11) rfl ?_
  refine s_icmpge W13 d9_11 (by decide) (pc1 := 24) (by decide) (pc2 := 14) rfl (fun q => absurd q (by decide)) ?_
  intro q11
  refine s_aloadN W13 d9_14 rfl rfl (pc' := 15) rfl ?_
  refine s_iloadN W13 d9_15 rfl (pc' := 16) rfl ?_
  refine s_iloadN W13 d9_16 rfl (pc' := 17) rfl ?_
  refine gStI W13 n0_d V13 ⟨by decide, by decide⟩ (i := 11) (by decide) (show 11 < 16 by decide) d9_17 (pc' := 18) rfl ?_
  intro T14 h14 W14 K14 V14
  replace V14 : Arv Z h14 d kd .int (16 : Int32) [(.int (0 : Int32)), (.int (1 : Int32)), (.int (2 : Int32)), (.int (3 : Int32)), (.int (4 : Int32)), (.int (5 : Int32)), (.int (6 : Int32)), (.int (7 : Int32)), (.int (8 : Int32)), (.int (9 : Int32)), (.int (10 : Int32)), (.int (11 : Int32)), (.int (0 : Int32)), (.int (0 : Int32)), (.int (0 : Int32)), (.int (0 : Int32))] (.int 0) := V14
  have z14 : h13.size ≤ h14.size := K14.1
  refine s_iinc W14 d9_18 (v := (1 : Int32)) (by decide) rfl (l' := #[.val (.ref b), .val (.int (16 : Int32)), .val (.ref d), .val (.int ((11 : Int32) + (1 : Int32)))]) rfl (pc' := 21) rfl ?_
  refine s_goto W14 d9_21 (by decide) (pc' := 9) (by decide) ?_
  rw [show ((11 : Int32) + (1 : Int32)) = (12 : Int32) from by decide]
  refine s_iloadN W14 d9_9 rfl (pc' := 10) rfl ?_
  refine s_iloadN W14 d9_10 rfl (pc' := 11) rfl ?_
  refine s_icmpge W14 d9_11 (by decide) (pc1 := 24) (by decide) (pc2 := 14) rfl (fun q => absurd q (by decide)) ?_
  intro q11
  refine s_aloadN W14 d9_14 rfl rfl (pc' := 15) rfl ?_
  refine s_iloadN W14 d9_15 rfl (pc' := 16) rfl ?_
  refine s_iloadN W14 d9_16 rfl (pc' := 17) rfl ?_
  refine gStI W14 n0_d V14 ⟨by decide, by decide⟩ (i := 12) (by decide) (show 12 < 16 by decide) d9_17 (pc' := 18) rfl ?_
  intro T15 h15 W15 K15 V15
  replace V15 : Arv Z h15 d kd .int (16 : Int32) [(.int (0 : Int32)), (.int (1 : Int32)), (.int (2 : Int32)), (.int (3 : Int32)), (.int (4 : Int32)), (.int (5 : Int32)), (.int (6 : Int32)), (.int (7 : Int32)), (.int (8 : Int32)), (.int (9 : Int32)), (.int (10 : Int32)), (.int (11 : Int32)), (.int (12 : Int32)), (.int (0 : Int32)), (.int (0 : Int32)), (.int (0 : Int32))] (.int 0) := V15
  have z15 : h14.size ≤ h15.size := K15.1
  refine s_iinc W15 d9_18 (v := (1 : Int32)) (by decide) rfl (l' := #[.val (.ref b), .val (.int (16 : Int32)), .val (.ref d), .val (.int ((12 : Int32) + (1 : Int32)))]) rfl (pc' := 21) rfl ?_
  refine s_goto W15 d9_21 (by decide) (pc' := 9) (by decide) ?_
  rw [show ((12 : Int32) + (1 : Int32)) = (13 : Int32) from by decide]
  refine s_iloadN W15 d9_9 rfl (pc' := 10) rfl ?_
  refine s_iloadN W15 d9_10 rfl (pc' := 11) rfl ?_
  refine s_icmpge W15 d9_11 (by decide) (pc1 := 24) (by decide) (pc2 := 14) rfl (fun q => absurd q (by decide)) ?_
  intro q11
  refine s_aloadN W15 d9_14 rfl rfl (pc' := 15) rfl ?_
  refine s_iloadN W15 d9_15 rfl (pc' := 16) rfl ?_
  refine s_iloadN W15 d9_16 rfl (pc' := 17) rfl ?_
  refine gStI W15 n0_d V15 ⟨by decide, by decide⟩ (i := 13) (by decide) (show 13 < 16 by decide) d9_17 (pc' := 18) rfl ?_
  intro T16 h16 W16 K16 V16
  replace V16 : Arv Z h16 d kd .int (16 : Int32) [(.int (0 : Int32)), (.int (1 : Int32)), (.int (2 : Int32)), (.int (3 : Int32)), (.int (4 : Int32)), (.int (5 : Int32)), (.int (6 : Int32)), (.int (7 : Int32)), (.int (8 : Int32)), (.int (9 : Int32)), (.int (10 : Int32)), (.int (11 : Int32)), (.int (12 : Int32)), (.int (13 : Int32)), (.int (0 : Int32)), (.int (0 : Int32))] (.int 0) := V16
  have z16 : h15.size ≤ h16.size := K16.1
  refine s_iinc W16 d9_18 (v := (1 : Int32)) (by decide) rfl (l' := #[.val (.ref b), .val (.int (16 : Int32)), .val (.ref d), .val (.int ((13 : Int32) + (1 : Int32)))]) rfl (pc' := 21) rfl ?_
  refine s_goto W16 d9_21 (by decide) (pc' := 9) (by decide) ?_
  rw [show ((13 : Int32) + (1 : Int32)) = (14 : Int32) from by decide]
  refine s_iloadN W16 d9_9 rfl (pc' := 10) rfl ?_
  refine s_iloadN W16 d9_10 rfl (pc' := 11) rfl ?_
  refine s_icmpge W16 d9_11 (by decide) (pc1 := 24) (by decide) (pc2 := 14) rfl (fun q => absurd q (by decide)) ?_
  intro q11
  refine s_aloadN W16 d9_14 rfl rfl (pc' := 15) rfl ?_
  refine s_iloadN W16 d9_15 rfl (pc' := 16) rfl ?_
  refine s_iloadN W16 d9_16 rfl (pc' := 17) rfl ?_
  refine gStI W16 n0_d V16 ⟨by decide, by decide⟩ (i := 14) (by decide) (show 14 < 16 by decide) d9_17 (pc' := 18) rfl ?_
  intro T17 h17 W17 K17 V17
  replace V17 : Arv Z h17 d kd .int (16 : Int32) [(.int (0 : Int32)), (.int (1 : Int32)), (.int (2 : Int32)), (.int (3 : Int32)), (.int (4 : Int32)), (.int (5 : Int32)), (.int (6 : Int32)), (.int (7 : Int32)), (.int (8 : Int32)), (.int (9 : Int32)), (.int (10 : Int32)), (.int (11 : Int32)), (.int (12 : Int32)), (.int (13 : Int32)), (.int (14 : Int32)), (.int (0 : Int32))] (.int 0) := V17
  have z17 : h16.size ≤ h17.size := K17.1
  refine s_iinc W17 d9_18 (v := (1 : Int32)) (by decide) rfl (l' := #[.val (.ref b), .val (.int (16 : Int32)), .val (.ref d), .val (.int ((14 : Int32) + (1 : Int32)))]) rfl (pc' := 21) rfl ?_
  refine s_goto W17 d9_21 (by decide) (pc' := 9) (by decide) ?_
  rw [show ((14 : Int32) + (1 : Int32)) = (15 : Int32) from by decide]
  refine s_iloadN W17 d9_9 rfl (pc' := 10) rfl ?_
  refine s_iloadN W17 d9_10 rfl (pc' := 11) rfl ?_
  refine s_icmpge W17 d9_11 (by decide) (pc1 := 24) (by decide) (pc2 := 14) rfl (fun q => absurd q (by decide)) ?_
  intro q11
  refine s_aloadN W17 d9_14 rfl rfl (pc' := 15) rfl ?_
  refine s_iloadN W17 d9_15 rfl (pc' := 16) rfl ?_
  refine s_iloadN W17 d9_16 rfl (pc' := 17) rfl ?_
  refine gStI W17 n0_d V17 ⟨by decide, by decide⟩ (i := 15) (by decide) (show 15 < 16 by decide) d9_17 (pc' := 18) rfl ?_
  intro T18 h18 W18 K18 V18
  replace V18 : Arv Z h18 d kd .int (16 : Int32) [(.int (0 : Int32)), (.int (1 : Int32)), (.int (2 : Int32)), (.int (3 : Int32)), (.int (4 : Int32)), (.int (5 : Int32)), (.int (6 : Int32)), (.int (7 : Int32)), (.int (8 : Int32)), (.int (9 : Int32)), (.int (10 : Int32)), (.int (11 : Int32)), (.int (12 : Int32)), (.int (13 : Int32)), (.int (14 : Int32)), (.int (15 : Int32))] (.int 0) := V18
  have z18 : h17.size ≤ h18.size := K18.1
  refine s_iinc W18 d9_18 (v := (1 : Int32)) (by decide) rfl (l' := #[.val (.ref b), .val (.int (16 : Int32)), .val (.ref d), .val (.int ((15 : Int32) + (1 : Int32)))]) rfl (pc' := 21) rfl ?_
  refine s_goto W18 d9_21 (by decide) (pc' := 9) (by decide) ?_
  rw [show ((15 : Int32) + (1 : Int32)) = (16 : Int32) from by decide]
  refine s_iloadN W18 d9_9 rfl (pc' := 10) rfl ?_
  refine s_iloadN W18 d9_10 rfl (pc' := 11) rfl ?_
  refine s_icmpge W18 d9_11 (by decide) (pc1 := 24) (by decide) (pc2 := 14) rfl ?_ (fun q => absurd q (by decide))
  intro q11
  refine s_aloadN W18 d9_24 rfl rfl (pc' := 25) rfl ?_
  exact gRetA W18 hret rfl rfl d9_25 (by decide) (by decide) ⟨d, kd, rfl, ((((((((((((((((((Keep.refl h0 []).trans Kc all0).trans K3 (allS (Or.inr (natle (by omega))) all0)).trans K4 (allS (Or.inr (natle (by omega))) all0)).trans K5 (allS (Or.inr (natle (by omega))) all0)).trans K6 (allS (Or.inr (natle (by omega))) all0)).trans K7 (allS (Or.inr (natle (by omega))) all0)).trans K8 (allS (Or.inr (natle (by omega))) all0)).trans K9 (allS (Or.inr (natle (by omega))) all0)).trans K10 (allS (Or.inr (natle (by omega))) all0)).trans K11 (allS (Or.inr (natle (by omega))) all0)).trans K12 (allS (Or.inr (natle (by omega))) all0)).trans K13 (allS (Or.inr (natle (by omega))) all0)).trans K14 (allS (Or.inr (natle (by omega))) all0)).trans K15 (allS (Or.inr (natle (by omega))) all0)).trans K16 (allS (Or.inr (natle (by omega))) all0)).trans K17 (allS (Or.inr (natle (by omega))) all0)).trans K18 (allS (Or.inr (natle (by omega))) all0)), gc, V18⟩
def Q_in2 (Z : State) (n0 : Nat) (a : Addr) (h0 : Heap) (v : Option Value) (h : Heap) : Prop := v = none ∧ Keep h0 h [a] ∧ ∃ dA hA eA kd kh ke, HF Z h a dA hA eA ∧ DN a dA hA eA ∧ (h0.size ≤ dA ∧ h0.size ≤ hA ∧ h0.size ≤ eA) ∧ Fld Z h a "com/example/ripen/ripen/DeadlineHeap" "size" "I" (.int 0) ∧ Arv Z h dA kd .long 16 [(.long (0 : Int64)), (.long (0 : Int64)), (.long (0 : Int64)), (.long (0 : Int64)), (.long (0 : Int64)), (.long (0 : Int64)), (.long (0 : Int64)), (.long (0 : Int64)), (.long (0 : Int64)), (.long (0 : Int64)), (.long (0 : Int64)), (.long (0 : Int64)), (.long (0 : Int64)), (.long (0 : Int64)), (.long (0 : Int64)), (.long (0 : Int64))] (.long 0) ∧ Arv Z h hA kh .int 16 [(.int (0 : Int32)), (.int (1 : Int32)), (.int (2 : Int32)), (.int (3 : Int32)), (.int (4 : Int32)), (.int (5 : Int32)), (.int (6 : Int32)), (.int (7 : Int32)), (.int (8 : Int32)), (.int (9 : Int32)), (.int (10 : Int32)), (.int (11 : Int32)), (.int (12 : Int32)), (.int (13 : Int32)), (.int (14 : Int32)), (.int (15 : Int32))] (.int 0) ∧ Arv Z h eA ke (.object "java/lang/Object") 16 [.null, .null, .null, .null, .null, .null, .null, .null, .null, .null, .null, .null, .null, .null, .null, .null] .null ∧ Ovr Z ke "java/lang/Object"
set_option maxRecDepth 65536 in
set_option maxHeartbeats 40000000 in
theorem ct_in2 {l : Launch} {Z : State} {a0 : Array Value} (hw : ∀ d ∈ tables_1, d.before a0 Z = true) (hEL : EW Z a0 EL0) {n0 : Nat} (cds : List Jvm.Cond) (a : Addr) (h0 : Heap) (Ea : Exa Z h0 a "com/example/ripen/ripen/DeadlineHeap") (F_deadlines : Fld Z h0 a "com/example/ripen/ripen/DeadlineHeap" "deadlines" "[J" .null) (F_handles : Fld Z h0 a "com/example/ripen/ripen/DeadlineHeap" "handles" "[I" .null) (F_elements : Fld Z h0 a "com/example/ripen/ripen/DeadlineHeap" "elements" "[Ljava/lang/Object;" .null) (F_tracker : Fld Z h0 a "com/example/ripen/ripen/DeadlineHeap" "tracker" "Lcom/example/ripen/ripen/DeadlineHeap$SlotTracker;" .null) (F_sequences : Fld Z h0 a "com/example/ripen/ripen/DeadlineHeap" "sequences" "[J" .null) (F_size : Fld Z h0 a "com/example/ripen/ripen/DeadlineHeap" "size" "I" (.int 0)) (n0_a : n0 ≤ a) :
    Ct l Z a0 EL0 n0 false false (⟨"com/example/ripen/ripen/DeadlineHeap", "<init>", "(ZLcom/example/ripen/ripen/DeadlineHeap$SlotTracker;)V"⟩ : MethodName) prog_1_method_2_code 3 (Option.none : Option Jvm.ClassFile.FieldType) cds ({ frames := 3, cells := 4, slots := 48, locals := 48 } : Room) [a] #[(.ref a), (.int (0 : Int32)), .null] h0 (Q_in2 Z n0 a h0) := by
  refine Ct.of (plainFor_of_name pn_2) hEL ?_
  intro p e s m below meth c T0 W0 hret hnm hs0
  refine Go.cast (ef_RIN_3 m a (0 : Int32)) ?_
  show Go p e below _ T0 (mkF m 0 #[.val (.ref a), .val (.int (0 : Int32)), .val .null] [])
  have lt_a := natlt Ea.lt
  refine s_aloadN W0 d8_0 rfl rfl (pc' := 1) rfl ?_
  refine gInitO W0 (w_43 hw) (w_14 hw) (w_15 hw) d8_1 (pc' := 4) rfl rfl (by decide) (wt := 0) (Nat.le_of_eq rfl) (by decide) ?_
  intro T1 W1
  refine s_aloadN W1 d8_4 rfl rfl (pc' := 5) rfl ?_
  refine s_bipush W1 d8_5 (v := (16 : Int32)) (by decide) (pc' := 7) rfl ?_
  refine gNewP (aty := .long) W1 (w_33 hw) (ad := "[J") (by decide +kernel) d8_7 (pc' := 9) rfl (by decide) (cap := 16) (by decide) (by decide) (by decide) (by decide) ?_
  intro T2 h2 b2 g2 W2 E2 ⟨k2, V2, A2⟩
  have z2 : h0.size ≤ h2.size := E2.1
  have lt_b2 := natlt A2.lt
  have gg2 := nateq g2
  have n0_b2 : n0 ≤ b2 := by have := W1.n0le; omega
  have Vp2 : Arv Z h2 b2 k2 .long (16 : Int32) [(.long (0 : Int64)), (.long (0 : Int64)), (.long (0 : Int64)), (.long (0 : Int64)), (.long (0 : Int64)), (.long (0 : Int64)), (.long (0 : Int64)), (.long (0 : Int64)), (.long (0 : Int64)), (.long (0 : Int64)), (.long (0 : Int64)), (.long (0 : Int64)), (.long (0 : Int64)), (.long (0 : Int64)), (.long (0 : Int64)), (.long (0 : Int64))] (.long (0 : Int64)) := Arv.pad V2 (pad_rep [] (.long (0 : Int64)) 16)
  have fx4 := (F_deadlines.ext E2)
  have fx5 := (Ea.ext E2)
  refine gPutF W2 n0_a (Or.inr (Or.inl rfl)) (host := "") (Or.inl (w_44 hw)) Via.refl fx4 fx5 (Or.inl (w_45 hw)) (w_35 hw) (ty := (.array .long)) (by decide) rfl rfl d8_9 (pc' := 12) rfl ?_
  intro T3 h3 W3 Wr3
  have Fw3 := fx4.same Wr3
  have z3 : h2.size ≤ h3.size := Nat.le_of_eq Wr3.size.symm
  refine s_aloadN W3 d8_12 rfl rfl (pc' := 13) rfl ?_
  refine s_iconst W3 d8_13 (v := (0 : Int32)) (by decide) (pc' := 14) rfl ?_
  refine gNewP (aty := .int) W3 (w_46 hw) (ad := "[I") (by decide +kernel) d8_14 (pc' := 16) rfl (by decide) (cap := 0) (by decide) (by decide) (by decide) (by decide) ?_
  intro T6 h6 b6 g6 W6 E6 ⟨k6, V6, A6⟩
  have z6 : h3.size ≤ h6.size := E6.1
  have lt_b6 := natlt A6.lt
  have gg6 := nateq g6
  have n0_b6 : n0 ≤ b6 := by have := W3.n0le; omega
  have Vp6 : Arv Z h6 b6 k6 .int (0 : Int32) [] (.int (0 : Int32)) := V6
  refine s_bipush W6 d8_16 (v := (16 : Int32)) (by decide) (pc' := 18) rfl ?_
  refine gStatic W6 (w_47 hw) (w_48 hw) (w_36 hw) (w_49 hw) (by decide) pd_13 (ct_wfh hw hEL [] b6 k6 h6 Vp6) (by simp) d8_18 (pc' := 21) rfl rfl (argsL := [(.ref b6), (.int (16 : Int32))]) rfl rfl (rest := [(.ref a)]) rfl (wt := 1) (Nat.le_of_eq rfl) (by decide) (by decide) (by decide) (by decide) ?_
  rintro v7 T7 h7 W7 z7 ⟨hd, kd, rfl, Kc, gc, Vh⟩
  have gd0 := natle gc
  have lt_hd := natlt Vh.lt
  show Go p e below _ T7 (mkF m 21 #[.val (.ref a), .val (.int (0 : Int32)), .val .null] [(.ref hd), (.ref a)])
  have fx9 := ((((F_handles.ext E2).other Wr3 (Or.inr (slot_ne (Or.inl (w_63 hw)) (Or.inl (w_45 hw)) (by decide) (t := (.array .int)) (t' := (.array .long)) (by decide) (by decide)))).ext E6).keep Kc nin0)
  have fx10 := (((fx5.wr Wr3).ext E6).keep Kc)
  refine gPutF W7 n0_a (Or.inr (Or.inl rfl)) (host := "") (Or.inl (w_62 hw)) Via.refl fx9 fx10 (Or.inl (w_63 hw)) (w_35 hw) (ty := (.array .int)) (by decide) rfl rfl d8_21 (pc' := 24) rfl ?_
  intro T8 h8 W8 Wr8
  have Fw8 := fx9.same Wr8
  have z8 : h7.size ≤ h8.size := Nat.le_of_eq Wr8.size.symm
  refine s_aloadN W8 d8_24 rfl rfl (pc' := 25) rfl ?_
  refine s_bipush W8 d8_25 (v := (16 : Int32)) (by decide) (pc' := 27) rfl ?_
  refine gNewR W8 (w_64 hw) (w_1 hw) (ad := "[Ljava/lang/Object;") (by decide +kernel) d8_27 (pc' := 30) rfl (by decide) (cap := 16) (by decide) (by decide) (by decide) (by decide) ?_
  intro T11 h11 b11 g11 W11 E11 ⟨k11, V11, A11, O11⟩
  have z11 : h8.size ≤ h11.size := E11.1
  have lt_b11 := natlt A11.lt
  have gg11 := nateq g11
  have n0_b11 : n0 ≤ b11 := by have := W8.n0le; omega
  have Vp11 : Arv Z h11 b11 k11 (.object "java/lang/Object") (16 : Int32) [.null, .null, .null, .null, .null, .null, .null, .null, .null, .null, .null, .null, .null, .null, .null, .null] .null := Arv.pad V11 (pad_rep [] .null 16)
  have fx13 := ((((((F_elements.ext E2).other Wr3 (Or.inr (slot_ne (Or.inl (w_66 hw)) (Or.inl (w_45 hw)) (by decide) (t := (.array (.object "java/lang/Object"))) (t' := (.array .long)) (by decide) (by decide)))).ext E6).keep Kc nin0).other Wr8 (Or.inr (slot_ne (Or.inl (w_66 hw)) (Or.inl (w_63 hw)) (by decide) (t := (.array (.object "java/lang/Object"))) (t' := (.array .int)) (by decide) (by decide)))).ext E11)
  have fx14 := ((fx10.wr Wr8).ext E11)
  refine gPutF W11 n0_a (Or.inr (Or.inl rfl)) (host := "") (Or.inl (w_65 hw)) Via.refl fx13 fx14 (Or.inl (w_66 hw)) (w_35 hw) (ty := (.array (.object "java/lang/Object"))) (by decide) rfl rfl d8_30 (pc' := 33) rfl ?_
  intro T12 h12 W12 Wr12
  have Fw12 := fx13.same Wr12
  have z12 : h11.size ≤ h12.size := Nat.le_of_eq Wr12.size.symm
  refine s_aloadN W12 d8_33 rfl rfl (pc' := 34) rfl ?_
  refine s_aloadN W12 d8_34 rfl rfl (pc' := 35) rfl ?_
  have fx16 := (((((((F_tracker.ext E2).other Wr3 (Or.inr (slot_ne (Or.inr (w_68 hw)) (Or.inl (w_45 hw)) (by decide) (t := (.object "com/example/ripen/ripen/DeadlineHeap$SlotTracker")) (t' := (.array .long)) (by decide) (by decide)))).ext E6).keep Kc nin0).other Wr8 (Or.inr (slot_ne (Or.inr (w_68 hw)) (Or.inl (w_63 hw)) (by decide) (t := (.object "com/example/ripen/ripen/DeadlineHeap$SlotTracker")) (t' := (.array .int)) (by decide) (by decide)))).ext E11).other Wr12 (Or.inr (slot_ne (Or.inr (w_68 hw)) (Or.inl (w_66 hw)) (by decide) (t := (.object "com/example/ripen/ripen/DeadlineHeap$SlotTracker")) (t' := (.array (.object "java/lang/Object"))) (by decide) (by decide))))
  have fx17 := (fx14.wr Wr12)
  refine gPutF W12 n0_a (Or.inr (Or.inl rfl)) (host := "") (Or.inl (w_67 hw)) Via.refl fx16 fx17 (Or.inr ⟨(w_68 hw), rfl, hnm⟩) (w_35 hw) (ty := (.object "com/example/ripen/ripen/DeadlineHeap$SlotTracker")) (by decide) rfl rfl d8_35 (pc' := 38) rfl ?_
  intro T15 h15 W15 Wr15
  have Fw15 := fx16.same Wr15
  have z15 : h12.size ≤ h15.size := Nat.le_of_eq Wr15.size.symm
  refine s_aloadN W15 d8_38 rfl rfl (pc' := 39) rfl ?_
  refine s_iloadN W15 d8_39 rfl (pc' := 40) rfl ?_
  refine s_ifeq W15 d8_40 (by decide) (pc1 := 50) (by decide) (pc2 := 43) rfl ?_ (fun q => absurd q (by decide))
  intro q40
  refine s_aconst_null W15 d8_50 (pc' := 51) rfl ?_
  have fx19 := ((((((((F_sequences.ext E2).other Wr3 (Or.inr (slot_ne (Or.inl (w_70 hw)) (Or.inl (w_45 hw)) (by decide) (t := (.array .long)) (t' := (.array .long)) (by decide) (by decide)))).ext E6).keep Kc nin0).other Wr8 (Or.inr (slot_ne (Or.inl (w_70 hw)) (Or.inl (w_63 hw)) (by decide) (t := (.array .long)) (t' := (.array .int)) (by decide) (by decide)))).ext E11).other Wr12 (Or.inr (slot_ne (Or.inl (w_70 hw)) (Or.inl (w_66 hw)) (by decide) (t := (.array .long)) (t' := (.array (.object "java/lang/Object"))) (by decide) (by decide)))).other Wr15 (Or.inr (slot_ne (Or.inl (w_70 hw)) (Or.inr (w_68 hw)) (by decide) (t := (.array .long)) (t' := (.object "com/example/ripen/ripen/DeadlineHeap$SlotTracker")) (by decide) (by decide))))
  have fx20 := (fx17.wr Wr15)
  refine gPutF W15 n0_a (Or.inr (Or.inl rfl)) (host := "") (Or.inl (w_69 hw)) Via.refl fx19 fx20 (Or.inl (w_70 hw)) (w_35 hw) (ty := (.array .long)) (by decide) rfl rfl d8_51 (pc' := 54) rfl ?_
  intro T18 h18 W18 Wr18
  have Fw18 := fx19.same Wr18
  have z18 : h15.size ≤ h18.size := Nat.le_of_eq Wr18.size.symm
  have fx21 := (((Vp11.other Wr12 (ane (by omega))).other Wr15 (ane (by omega))).other Wr18 (ane (by omega)))
  have ek := fx21
  have fx22 := (fx20.wr Wr18)
  have fx23 := (((((((Fw3.ext E6).keep Kc nin0).other Wr8 (Or.inr (slot_ne (Or.inl (w_45 hw)) (Or.inl (w_63 hw)) (by decide) (t := (.array .long)) (t' := (.array .int)) (by decide) (by decide)))).ext E11).other Wr12 (Or.inr (slot_ne (Or.inl (w_45 hw)) (Or.inl (w_66 hw)) (by decide) (t := (.array .long)) (t' := (.array (.object "java/lang/Object"))) (by decide) (by decide)))).other Wr15 (Or.inr (slot_ne (Or.inl (w_45 hw)) (Or.inr (w_68 hw)) (by decide) (t := (.array .long)) (t' := (.object "com/example/ripen/ripen/DeadlineHeap$SlotTracker")) (by decide) (by decide)))).other Wr18 (Or.inr (slot_ne (Or.inl (w_45 hw)) (Or.inl (w_70 hw)) (by decide) (t := (.array .long)) (t' := (.array .long)) (by decide) (by decide))))
  have fx24 := ((((Fw8.ext E11).other Wr12 (Or.inr (slot_ne (Or.inl (w_63 hw)) (Or.inl (w_66 hw)) (by decide) (t := (.array .int)) (t' := (.array (.object "java/lang/Object"))) (by decide) (by decide)))).other Wr15 (Or.inr (slot_ne (Or.inl (w_63 hw)) (Or.inr (w_68 hw)) (by decide) (t := (.array .int)) (t' := (.object "com/example/ripen/ripen/DeadlineHeap$SlotTracker")) (by decide) (by decide)))).other Wr18 (Or.inr (slot_ne (Or.inl (w_63 hw)) (Or.inl (w_70 hw)) (by decide) (t := (.array .int)) (t' := (.array .long)) (by decide) (by decide))))
  have fx25 := ((Fw12.other Wr15 (Or.inr (slot_ne (Or.inl (w_66 hw)) (Or.inr (w_68 hw)) (by decide) (t := (.array (.object "java/lang/Object"))) (t' := (.object "com/example/ripen/ripen/DeadlineHeap$SlotTracker")) (by decide) (by decide)))).other Wr18 (Or.inr (slot_ne (Or.inl (w_66 hw)) (Or.inl (w_70 hw)) (by decide) (t := (.array (.object "java/lang/Object"))) (t' := (.array .long)) (by decide) (by decide))))
  have fx26 := (Fw15.other Wr18 (Or.inr (slot_ne (Or.inr (w_68 hw)) (Or.inl (w_70 hw)) (by decide) (t := (.object "com/example/ripen/ripen/DeadlineHeap$SlotTracker")) (t' := (.array .long)) (by decide) (by decide))))
  have fx27 := (((((((((F_size.ext E2).other Wr3 (Or.inr (slot_ne (Or.inl (w_77 hw)) (Or.inl (w_45 hw)) (by decide) (t := .int) (t' := (.array .long)) (by decide) (by decide)))).ext E6).keep Kc nin0).other Wr8 (Or.inr (slot_ne (Or.inl (w_77 hw)) (Or.inl (w_63 hw)) (by decide) (t := .int) (t' := (.array .int)) (by decide) (by decide)))).ext E11).other Wr12 (Or.inr (slot_ne (Or.inl (w_77 hw)) (Or.inl (w_66 hw)) (by decide) (t := .int) (t' := (.array (.object "java/lang/Object"))) (by decide) (by decide)))).other Wr15 (Or.inr (slot_ne (Or.inl (w_77 hw)) (Or.inr (w_68 hw)) (by decide) (t := .int) (t' := (.object "com/example/ripen/ripen/DeadlineHeap$SlotTracker")) (by decide) (by decide)))).other Wr18 (Or.inr (slot_ne (Or.inl (w_77 hw)) (Or.inl (w_70 hw)) (by decide) (t := .int) (t' := (.array .long)) (by decide) (by decide))))
  have fx28 := ((((((((Vp2.other Wr3 (ane (by omega))).ext E6).keep Kc nin0).other Wr8 (ane (by omega))).ext E11).other Wr12 (ane (by omega))).other Wr15 (ane (by omega))).other Wr18 (ane (by omega)))
  have fx29 := (((((Vh.other Wr8 (ane (by omega))).ext E11).other Wr12 (ane (by omega))).other Wr15 (ane (by omega))).other Wr18 (ane (by omega)))
  exact gRetV W18 hret d8_54 (by decide) (by decide) ⟨rfl, ((((((((((Keep.refl h0 [a]).ext E2).wr Wr3 (Or.inl (by simp))).ext E6).trans Kc all0).wr Wr8 (Or.inl (by simp))).ext E11).wr Wr12 (Or.inl (by simp))).wr Wr15 (Or.inl (by simp))).wr Wr18 (Or.inl (by simp))), b2, hd, b11, _, _, _, ⟨fx22, fx23, fx24, fx25, fx26, Fw18⟩, ⟨ane (by omega), ane (by omega), ane (by omega), ane (by omega), ane (by omega), ane (by omega)⟩, ⟨natle (by omega), natle (by omega), natle (by omega)⟩, fx27, fx28, fx29, ek, O11⟩
def Q_in0 (Z : State) (n0 : Nat) (a : Addr) (h0 : Heap) (v : Option Value) (h : Heap) : Prop := v = none ∧ Keep h0 h [a] ∧ ∃ dA hA eA kd kh ke, HF Z h a dA hA eA ∧ DN a dA hA eA ∧ (h0.size ≤ dA ∧ h0.size ≤ hA ∧ h0.size ≤ eA) ∧ Fld Z h a "com/example/ripen/ripen/DeadlineHeap" "size" "I" (.int 0) ∧ Arv Z h dA kd .long 16 [(.long (0 : Int64)), (.long (0 : Int64)), (.long (0 : Int64)), (.long (0 : Int64)), (.long (0 : Int64)), (.long (0 : Int64)), (.long (0 : Int64)), (.long (0 : Int64)), (.long (0 : Int64)), (.long (0 : Int64)), (.long (0 : Int64)), (.long (0 : Int64)), (.long (0 : Int64)), (.long (0 : Int64)), (.long (0 : Int64)), (.long (0 : Int64))] (.long 0) ∧ Arv Z h hA kh .int 16 [(.int (0 : Int32)), (.int (1 : Int32)), (.int (2 : Int32)), (.int (3 : Int32)), (.int (4 : Int32)), (.int (5 : Int32)), (.int (6 : Int32)), (.int (7 : Int32)), (.int (8 : Int32)), (.int (9 : Int32)), (.int (10 : Int32)), (.int (11 : Int32)), (.int (12 : Int32)), (.int (13 : Int32)), (.int (14 : Int32)), (.int (15 : Int32))] (.int 0) ∧ Arv Z h eA ke (.object "java/lang/Object") 16 [.null, .null, .null, .null, .null, .null, .null, .null, .null, .null, .null, .null, .null, .null, .null, .null] .null ∧ Ovr Z ke "java/lang/Object"
set_option maxRecDepth 65536 in
set_option maxHeartbeats 40000000 in
theorem ct_in0 {l : Launch} {Z : State} {a0 : Array Value} (hw : ∀ d ∈ tables_1, d.before a0 Z = true) (hEL : EW Z a0 EL0) {n0 : Nat} (cds : List Jvm.Cond) (a : Addr) (h0 : Heap) (Ea : Exa Z h0 a "com/example/ripen/ripen/DeadlineHeap") (F_deadlines : Fld Z h0 a "com/example/ripen/ripen/DeadlineHeap" "deadlines" "[J" .null) (F_handles : Fld Z h0 a "com/example/ripen/ripen/DeadlineHeap" "handles" "[I" .null) (F_elements : Fld Z h0 a "com/example/ripen/ripen/DeadlineHeap" "elements" "[Ljava/lang/Object;" .null) (F_tracker : Fld Z h0 a "com/example/ripen/ripen/DeadlineHeap" "tracker" "Lcom/example/ripen/ripen/DeadlineHeap$SlotTracker;" .null) (F_sequences : Fld Z h0 a "com/example/ripen/ripen/DeadlineHeap" "sequences" "[J" .null) (F_size : Fld Z h0 a "com/example/ripen/ripen/DeadlineHeap" "size" "I" (.int 0)) (n0_a : n0 ≤ a) :
    Ct l Z a0 EL0 n0 false false (⟨"com/example/ripen/ripen/DeadlineHeap", "<init>", "()V"⟩ : MethodName) prog_1_method_1_code 1 (Option.none : Option Jvm.ClassFile.FieldType) cds ({ frames := 4, cells := 4, slots := 48, locals := 62 } : Room) [a] #[(.ref a)] h0 (Q_in0 Z n0 a h0) := by
  refine Ct.of (plainFor_of_name pn_2) hEL ?_
  intro p e s m below meth c T0 W0 hret hnm hs0
  refine Go.cast (ef_R_1 m a) ?_
  show Go p e below _ T0 (mkF m 0 #[.val (.ref a)] [])
  refine s_aloadN W0 d7_0 rfl rfl (pc' := 1) rfl ?_
  refine s_iconst W0 d7_1 (v := (0 : Int32)) (by decide) (pc' := 2) rfl ?_
  refine s_aconst_null W0 d7_2 (pc' := 3) rfl ?_
  refine gSpecial W0 rfl (w_40 hw) (w_41 hw) (w_36 hw) (w_42 hw) (by decide) pd_14 (ct_in2 hw hEL [] a h0 Ea F_deadlines F_handles F_elements F_tracker F_sequences F_size n0_a) (fun x hx => hx) d7_3 (pc' := 6) rfl rfl (argsL := [(.int (0 : Int32)), .null]) rfl rfl (rest := []) rfl (wt := 0) (Nat.le_of_eq rfl) (by decide) (by decide) (by decide) (by decide) ?_
  rintro v1 T1 h1 W1 z1 Q
  have Q' := Q
  obtain ⟨rfl, -⟩ := Q'
  show Go p e below _ T1 (mkF m 6 #[.val (.ref a)] [])
  exact gRetV W1 hret d7_6 (by decide) (by decide) Q
def pkA (t : Nat) (e0 e1 e2 : Addr) : Addr := match t with
  | 0 => e0
  | 1 => e1
  | _ => e2
theorem pkA_inj {t u : Nat} {e0 e1 e2 : Addr} (d01 : e0 ≠ e1) (d02 : e0 ≠ e2) (d12 : e1 ≠ e2) (ht : t < 3) (hu : u < 3) (q : pkA t e0 e1 e2 = pkA u e0 e1 e2) : t = u := by
  rcases (by omega : t = 0 ∨ t = 1 ∨ t = 2) with rfl | rfl | rfl <;> rcases (by omega : u = 0 ∨ u = 1 ∨ u = 2) with rfl | rfl | rfl <;> first | rfl | exact absurd q d01 | exact absurd q d02 | exact absurd q d12 | exact absurd q.symm d01 | exact absurd q.symm d02 | exact absurd q.symm d12
theorem getD_rng (f : Nat → Value) (d : Value) {i k : Nat} (q : i < k) : ((List.range k).map f).getD i d = f i := by
  rw [List.getD_eq_getElem?_getD, List.getElem?_map, List.getElem?_eq_getElem (by simpa using q)]; simp
theorem getD_long (dd : List Int64) (j : Nat) : (dd.map Value.long).getD j (.long 0) = .long (dd.getD j 0) := by
  simp only [List.getD_eq_getElem?_getD, List.getElem?_map]; cases dd[j]? <;> rfl
theorem idxN {i z : Int32} {j k : Nat} (hi : i.toInt = j) (hz : z.toInt = k) (hj : j < k) : (¬ i < 0 ∧ i < z) ∧ i.toNatClampNeg = j := by
  refine ⟨⟨nlt32 (by rw [zero32]; omega), lt32 (by omega)⟩, ?_⟩
  show i.toInt.toNat = j
  omega
def Q_ta (Z : State) (n0 : Nat) (a dA hA eA : Addr) (kh ke : ClassId) (k : Nat) (tf : Nat → Nat) (yf : Nat → Addr) (hs es : List Value) (h0 : Heap) (v : Option Value) (h : Heap) : Prop := ∃ cA kc, v = some (.ref cA) ∧ Keep h0 h [] ∧ h0.size ≤ cA ∧ Arv Z h cA kc (.object "java/lang/Object") (Int32.ofNat k) ((List.range k).map fun i => Value.ref (yf i)) .null
set_option maxRecDepth 65536 in
set_option maxHeartbeats 40000000 in
theorem ct_ta {l : Launch} {Z : State} {a0 : Array Value} (hw : ∀ d ∈ tables_1, d.before a0 Z = true) (hEL : EW Z a0 EL0) {n0 : Nat} (cds : List Jvm.Cond) (a dA hA eA : Addr) (kh ke : ClassId) (k : Nat) (tf : Nat → Nat) (yf : Nat → Addr) (hs es : List Value) (h0 : Heap) (X : HF Z h0 a dA hA eA) (Vh : Arv Z h0 hA kh .int 16 hs (.int 0)) (Ve : Arv Z h0 eA ke (.object "java/lang/Object") 16 es .null) (Fz : Fld Z h0 a "com/example/ripen/ripen/DeadlineHeap" "size" "I" (.int (Int32.ofNat k))) (hk : k ≤ 3) (hh : ∀ i, i < k → hs.getD i (.int 0) = .int (Int32.ofNat (tf i)) ∧ tf i < 16 ∧ es.getD (tf i) .null = .ref (yf i) ∧ Exa Z h0 (yf i) "java/lang/String") :
    Ct l Z a0 EL0 n0 false false (⟨"com/example/ripen/ripen/DeadlineHeap", "toArray", "()[Ljava/lang/Object;"⟩ : MethodName) prog_1_method_12_code 3 (Option.some (Jvm.ClassFile.FieldType.array (Jvm.ClassFile.FieldType.object "java/lang/Object"))) cds ({ frames := 1, cells := 1, slots := 3, locals := 15 } : Room) [] #[(.ref a)] h0 (Q_ta Z n0 a dA hA eA kh ke k tf yf hs es h0) := by
  refine Ct.of (plainFor_of_name pn_2) hEL ?_
  intro p e s m below meth c T0 W0 hret hnm hs0
  refine Go.cast (ef_R_3 m a) ?_
  show Go p e below _ T0 (mkF m 0 #[.val (.ref a), .unset, .unset] [])
  rcases (by omega : k = 0 ∨ k = 1 ∨ k = 2 ∨ k = 3) with rfl | rfl | rfl | rfl
  · have Fz : Fld Z h0 a "com/example/ripen/ripen/DeadlineHeap" "size" "I" (.int (0 : Int32)) := Fz
    obtain ⟨Ea, Fd, Fh, Fe, Ft, Fs⟩ := id X
    have lt_a := natlt Ea.lt
    have lt_hA := natlt Vh.lt
    have lt_eA := natlt Ve.lt
    refine s_aloadN W0 d12_0 rfl rfl (pc' := 1) rfl ?_
    refine gGetF W0 (host := "") (Or.inl (w_76 hw)) Via.refl Fz d12_1 (pc' := 4) rfl ?_
    intro T1 W1
    refine gNewR W1 (w_64 hw) (w_1 hw) (ad := "[Ljava/lang/Object;") (by decide +kernel) d12_4 (pc' := 7) rfl (by decide) (cap := 0) (by decide) (by decide) (by decide) (by decide) ?_
    intro T2 h2 b2 g2 W2 E2 ⟨k2, V2, A2, O2⟩
    have z2 : h0.size ≤ h2.size := E2.1
    have lt_b2 := natlt A2.lt
    have gg2 := nateq g2
    have n0_b2 : n0 ≤ b2 := by have := W1.n0le; omega
    have Vp2 : Arv Z h2 b2 k2 (.object "java/lang/Object") (0 : Int32) [] .null := V2
    refine s_astoreN W2 d12_7 rfl (l' := #[.val (.ref a), .val (.ref b2), .unset]) rfl (pc' := 8) rfl ?_
    refine s_iconst W2 d12_8 (v := (0 : Int32)) (by decide) (pc' := 9) rfl ?_
    refine s_istoreN W2 d12_9 (l' := #[.val (.ref a), .val (.ref b2), .val (.int (0 : Int32))]) rfl (pc' := 10) rfl ?_
    refine s_iloadN W2 d12_10 rfl (pc' := 11) rfl ?_
    refine s_aloadN W2 d12_11 rfl rfl (pc' := 12) rfl ?_
    have fx3 := (Fz.ext E2)
    refine gGetF W2 (host := "") (Or.inl (w_76 hw)) Via.refl fx3 d12_12 (pc' := 15) rfl ?_
    intro T4 W4
    refine s_icmpge W4 d12_15 (by decide) (pc1 := 32) (by decide) (pc2 := 18) rfl ?_ (fun q => absurd q (by decide))
    intro q15
    refine s_aloadN W4 d12_32 rfl rfl (pc' := 33) rfl ?_
    exact gRetA W4 hret rfl rfl d12_33 (by decide) (by decide) ⟨_, _, rfl, ((Keep.refl h0 []).ext E2), natle (by omega), Vp2⟩
  · have Fz : Fld Z h0 a "com/example/ripen/ripen/DeadlineHeap" "size" "I" (.int (1 : Int32)) := Fz
    obtain ⟨Ea, Fd, Fh, Fe, Ft, Fs⟩ := id X
    have lt_a := natlt Ea.lt
    have lt_hA := natlt Vh.lt
    have lt_eA := natlt Ve.lt
    obtain ⟨r0, s0, t0, X0⟩ := hh 0 (by decide)
    refine s_aloadN W0 d12_0 rfl rfl (pc' := 1) rfl ?_
    refine gGetF W0 (host := "") (Or.inl (w_76 hw)) Via.refl Fz d12_1 (pc' := 4) rfl ?_
    intro T5 W5
    refine gNewR W5 (w_64 hw) (w_1 hw) (ad := "[Ljava/lang/Object;") (by decide +kernel) d12_4 (pc' := 7) rfl (by decide) (cap := 1) (by decide) (by decide) (by decide) (by decide) ?_
    intro T6 h6 b6 g6 W6 E6 ⟨k6, V6, A6, O6⟩
    have z6 : h0.size ≤ h6.size := E6.1
    have lt_b6 := natlt A6.lt
    have gg6 := nateq g6
    have n0_b6 : n0 ≤ b6 := by have := W5.n0le; omega
    have Vp6 : Arv Z h6 b6 k6 (.object "java/lang/Object") (1 : Int32) [.null] .null := Arv.pad V6 (pad_rep [] .null 1)
    refine s_astoreN W6 d12_7 rfl (l' := #[.val (.ref a), .val (.ref b6), .unset]) rfl (pc' := 8) rfl ?_
    refine s_iconst W6 d12_8 (v := (0 : Int32)) (by decide) (pc' := 9) rfl ?_
    refine s_istoreN W6 d12_9 (l' := #[.val (.ref a), .val (.ref b6), .val (.int (0 : Int32))]) rfl (pc' := 10) rfl ?_
    refine s_iloadN W6 d12_10 rfl (pc' := 11) rfl ?_
    refine s_aloadN W6 d12_11 rfl rfl (pc' := 12) rfl ?_
    have fx7 := (Fz.ext E6)
    refine gGetF W6 (host := "") (Or.inl (w_76 hw)) Via.refl fx7 d12_12 (pc' := 15) rfl ?_
    intro T8 W8
    refine s_icmpge W8 d12_15 (by decide) (pc1 := 32) (by decide) (pc2 := 18) rfl (fun q => absurd q (by decide)) ?_
    intro q15
    refine s_aloadN W8 d12_18 rfl rfl (pc' := 19) rfl ?_
    refine s_iloadN W8 d12_19 rfl (pc' := 20) rfl ?_
    refine s_aloadN W8 d12_20 rfl rfl (pc' := 21) rfl ?_
    refine s_iloadN W8 d12_21 rfl (pc' := 22) rfl ?_
    have fx9 := (Ea.ext E6)
    have fx10 := (Fd.ext E6)
    have fx11 := (Fh.ext E6)
    have fx12 := (Fe.ext E6)
    have fx13 := (Ft.ext E6)
    have fx14 := (Fs.ext E6)
    have fx15 := (Vh.ext E6)
    have fx16 := (Ve.ext E6)
    refine gVirtual W8 fx9 (w_116 hw) (w_117 hw) (fun s hZ => notFace_of_selects (args := #[]) (mv hZ (w_119 hw))) (w_119 hw) (w_118 hw) (w_36 hw) (w_120 hw) (by decide) pd_10 (ct_ela hw hEL [] a dA hA eA kh ke (0 : Int32) (Int32.ofNat (tf 0)) 0 (tf 0) hs es (.ref (yf 0)) h6 ⟨fx9, fx10, fx11, fx12, fx13, fx14⟩ fx15 fx16 (by decide) (by decide) r0 (ofN (by omega)) s0 t0 rfl) (by simp) d12_22 (pc' := 25) rfl rfl (argsL := [(.int (0 : Int32))]) rfl rfl (rest := [(.int (0 : Int32)), (.ref b6)]) rfl (wt := 2) (Nat.le_of_eq rfl) (by decide) (by decide) (by decide) (by decide) ?_
    rintro v17 T17 h17 W17 z17 ⟨rfl, rfl⟩
    show Go p e below _ T17 (mkF m 25 #[.val (.ref a), .val (.ref b6), .val (.int (0 : Int32))] [(.ref (yf 0)), (.int (0 : Int32)), (.ref b6)])
    have fx19 := (X0.ext E6)
    refine gStA W17 n0_b6 Vp6 rfl (Arv.sto Vp6 O6 (Ins.of_exa fx19 (w_32 hw))) rfl ⟨by decide, by decide⟩ (i := 0) (by decide) (show 0 < 1 by decide) d12_25 (pc' := 26) rfl ?_
    intro T18 h18 W18 K18 V18
    replace V18 : Arv Z h18 b6 k6 (.object "java/lang/Object") (1 : Int32) [(.ref (yf 0))] .null := V18
    have z18 : h6.size ≤ h18.size := K18.1
    refine s_iinc W18 d12_26 (v := (1 : Int32)) (by decide) rfl (l' := #[.val (.ref a), .val (.ref b6), .val (.int ((0 : Int32) + (1 : Int32)))]) rfl (pc' := 29) rfl ?_
    refine s_goto W18 d12_29 (by decide) (pc' := 10) (by decide) ?_
    rw [show ((0 : Int32) + (1 : Int32)) = (1 : Int32) from by decide]
    refine s_iloadN W18 d12_10 rfl (pc' := 11) rfl ?_
    refine s_aloadN W18 d12_11 rfl rfl (pc' := 12) rfl ?_
    have fx20 := (fx7.keep K18 (ninS (ane (by omega)) nin0))
    refine gGetF W18 (host := "") (Or.inl (w_76 hw)) Via.refl fx20 d12_12 (pc' := 15) rfl ?_
    intro T21 W21
    refine s_icmpge W21 d12_15 (by decide) (pc1 := 32) (by decide) (pc2 := 18) rfl ?_ (fun q => absurd q (by decide))
    intro q15
    refine s_aloadN W21 d12_32 rfl rfl (pc' := 33) rfl ?_
    exact gRetA W21 hret rfl rfl d12_33 (by decide) (by decide) ⟨_, _, rfl, (((Keep.refl h0 []).ext E6).trans K18 (allS (Or.inr (natle (by omega))) all0)), natle (by omega), V18⟩
  · have Fz : Fld Z h0 a "com/example/ripen/ripen/DeadlineHeap" "size" "I" (.int (2 : Int32)) := Fz
    obtain ⟨Ea, Fd, Fh, Fe, Ft, Fs⟩ := id X
    have lt_a := natlt Ea.lt
    have lt_hA := natlt Vh.lt
    have lt_eA := natlt Ve.lt
    obtain ⟨r0, s0, t0, X0⟩ := hh 0 (by decide)
    obtain ⟨r1, s1, t1, X1⟩ := hh 1 (by decide)
    refine s_aloadN W0 d12_0 rfl rfl (pc' := 1) rfl ?_
    refine gGetF W0 (host := "") (Or.inl (w_76 hw)) Via.refl Fz d12_1 (pc' := 4) rfl ?_
    intro T22 W22
    refine gNewR W22 (w_64 hw) (w_1 hw) (ad := "[Ljava/lang/Object;") (by decide +kernel) d12_4 (pc' := 7) rfl (by decide) (cap := 2) (by decide) (by decide) (by decide) (by decide) ?_
    intro T23 h23 b23 g23 W23 E23 ⟨k23, V23, A23, O23⟩
    have z23 : h0.size ≤ h23.size := E23.1
    have lt_b23 := natlt A23.lt
    have gg23 := nateq g23
    have n0_b23 : n0 ≤ b23 := by have := W22.n0le; omega
    have Vp23 : Arv Z h23 b23 k23 (.object "java/lang/Object") (2 : Int32) [.null, .null] .null := Arv.pad V23 (pad_rep [] .null 2)
    refine s_astoreN W23 d12_7 rfl (l' := #[.val (.ref a), .val (.ref b23), .unset]) rfl (pc' := 8) rfl ?_
    refine s_iconst W23 d12_8 (v := (0 : Int32)) (by decide) (pc' := 9) rfl ?_
    refine s_istoreN W23 d12_9 (l' := #[.val (.ref a), .val (.ref b23), .val (.int (0 : Int32))]) rfl (pc' := 10) rfl ?_
    refine s_iloadN W23 d12_10 rfl (pc' := 11) rfl ?_
    refine s_aloadN W23 d12_11 rfl rfl (pc' := 12) rfl ?_
    have fx24 := (Fz.ext E23)
    refine gGetF W23 (host := "") (Or.inl (w_76 hw)) Via.refl fx24 d12_12 (pc' := 15) rfl ?_
    intro T25 W25
    refine s_icmpge W25 d12_15 (by decide) (pc1 := 32) (by decide) (pc2 := 18) rfl (fun q => absurd q (by decide)) ?_
    intro q15
    refine s_aloadN W25 d12_18 rfl rfl (pc' := 19) rfl ?_
    refine s_iloadN W25 d12_19 rfl (pc' := 20) rfl ?_
    refine s_aloadN W25 d12_20 rfl rfl (pc' := 21) rfl ?_
    refine s_iloadN W25 d12_21 rfl (pc' := 22) rfl ?_
    have fx26 := (Ea.ext E23)
    have fx27 := (Fd.ext E23)
    have fx28 := (Fh.ext E23)
    have fx29 := (Fe.ext E23)
    have fx30 := (Ft.ext E23)
    have fx31 := (Fs.ext E23)
    have fx32 := (Vh.ext E23)
    have fx33 := (Ve.ext E23)
    refine gVirtual W25 fx26 (w_116 hw) (w_117 hw) (fun s hZ => notFace_of_selects (args := #[]) (mv hZ (w_119 hw))) (w_119 hw) (w_118 hw) (w_36 hw) (w_120 hw) (by decide) pd_10 (ct_ela hw hEL [] a dA hA eA kh ke (0 : Int32) (Int32.ofNat (tf 0)) 0 (tf 0) hs es (.ref (yf 0)) h23 ⟨fx26, fx27, fx28, fx29, fx30, fx31⟩ fx32 fx33 (by decide) (by decide) r0 (ofN (by omega)) s0 t0 rfl) (by simp) d12_22 (pc' := 25) rfl rfl (argsL := [(.int (0 : Int32))]) rfl rfl (rest := [(.int (0 : Int32)), (.ref b23)]) rfl (wt := 2) (Nat.le_of_eq rfl) (by decide) (by decide) (by decide) (by decide) ?_
    rintro v34 T34 h34 W34 z34 ⟨rfl, rfl⟩
    show Go p e below _ T34 (mkF m 25 #[.val (.ref a), .val (.ref b23), .val (.int (0 : Int32))] [(.ref (yf 0)), (.int (0 : Int32)), (.ref b23)])
    have fx36 := (X0.ext E23)
    refine gStA W34 n0_b23 Vp23 rfl (Arv.sto Vp23 O23 (Ins.of_exa fx36 (w_32 hw))) rfl ⟨by decide, by decide⟩ (i := 0) (by decide) (show 0 < 2 by decide) d12_25 (pc' := 26) rfl ?_
    intro T35 h35 W35 K35 V35
    replace V35 : Arv Z h35 b23 k23 (.object "java/lang/Object") (2 : Int32) [(.ref (yf 0)), .null] .null := V35
    have z35 : h23.size ≤ h35.size := K35.1
    refine s_iinc W35 d12_26 (v := (1 : Int32)) (by decide) rfl (l' := #[.val (.ref a), .val (.ref b23), .val (.int ((0 : Int32) + (1 : Int32)))]) rfl (pc' := 29) rfl ?_
    refine s_goto W35 d12_29 (by decide) (pc' := 10) (by decide) ?_
    rw [show ((0 : Int32) + (1 : Int32)) = (1 : Int32) from by decide]
    refine s_iloadN W35 d12_10 rfl (pc' := 11) rfl ?_
    refine s_aloadN W35 d12_11 rfl rfl (pc' := 12) rfl ?_
    have fx37 := (fx24.keep K35 (ninS (ane (by omega)) nin0))
    refine gGetF W35 (host := "") (Or.inl (w_76 hw)) Via.refl fx37 d12_12 (pc' := 15) rfl ?_
    intro T38 W38
    refine s_icmpge W38 d12_15 (by decide) (pc1 := 32) (by decide) (pc2 := 18) rfl (fun q => absurd q (by decide)) ?_
    intro q15
    refine s_aloadN W38 d12_18 rfl rfl (pc' := 19) rfl ?_
    refine s_iloadN W38 d12_19 rfl (pc' := 20) rfl ?_
    refine s_aloadN W38 d12_20 rfl rfl (pc' := 21) rfl ?_
    refine s_iloadN W38 d12_21 rfl (pc' := 22) rfl ?_
    have fx39 := (fx26.keep K35)
    have fx40 := (fx27.keep K35 (ninS (ane (by omega)) nin0))
    have fx41 := (fx28.keep K35 (ninS (ane (by omega)) nin0))
    have fx42 := (fx29.keep K35 (ninS (ane (by omega)) nin0))
    have fx43 := (fx30.keep K35 (ninS (ane (by omega)) nin0))
    have fx44 := (fx31.keep K35 (ninS (ane (by omega)) nin0))
    have fx45 := (fx32.keep K35 (ninS (ane (by omega)) nin0))
    have fx46 := (fx33.keep K35 (ninS (ane (by omega)) nin0))
    refine gVirtual W38 fx39 (w_116 hw) (w_117 hw) (fun s hZ => notFace_of_selects (args := #[]) (mv hZ (w_119 hw))) (w_119 hw) (w_118 hw) (w_36 hw) (w_120 hw) (by decide) pd_10 (ct_ela hw hEL [] a dA hA eA kh ke (1 : Int32) (Int32.ofNat (tf 1)) 1 (tf 1) hs es (.ref (yf 1)) h35 ⟨fx39, fx40, fx41, fx42, fx43, fx44⟩ fx45 fx46 (by decide) (by decide) r1 (ofN (by omega)) s1 t1 rfl) (by simp) d12_22 (pc' := 25) rfl rfl (argsL := [(.int (1 : Int32))]) rfl rfl (rest := [(.int (1 : Int32)), (.ref b23)]) rfl (wt := 2) (Nat.le_of_eq rfl) (by decide) (by decide) (by decide) (by decide) ?_
    rintro v47 T47 h47 W47 z47 ⟨rfl, rfl⟩
    show Go p e below _ T47 (mkF m 25 #[.val (.ref a), .val (.ref b23), .val (.int (1 : Int32))] [(.ref (yf 1)), (.int (1 : Int32)), (.ref b23)])
    have fx49 := ((X1.ext E23).keep K35)
    refine gStA W47 n0_b23 V35 rfl (Arv.sto V35 O23 (Ins.of_exa fx49 (w_32 hw))) rfl ⟨by decide, by decide⟩ (i := 1) (by decide) (show 1 < 2 by decide) d12_25 (pc' := 26) rfl ?_
    intro T48 h48 W48 K48 V48
    replace V48 : Arv Z h48 b23 k23 (.object "java/lang/Object") (2 : Int32) [(.ref (yf 0)), (.ref (yf 1))] .null := V48
    have z48 : h35.size ≤ h48.size := K48.1
    refine s_iinc W48 d12_26 (v := (1 : Int32)) (by decide) rfl (l' := #[.val (.ref a), .val (.ref b23), .val (.int ((1 : Int32) + (1 : Int32)))]) rfl (pc' := 29) rfl ?_
    refine s_goto W48 d12_29 (by decide) (pc' := 10) (by decide) ?_
    rw [show ((1 : Int32) + (1 : Int32)) = (2 : Int32) from by decide]
    refine s_iloadN W48 d12_10 rfl (pc' := 11) rfl ?_
    refine s_aloadN W48 d12_11 rfl rfl (pc' := 12) rfl ?_
    have fx50 := (fx37.keep K48 (ninS (ane (by omega)) nin0))
    refine gGetF W48 (host := "") (Or.inl (w_76 hw)) Via.refl fx50 d12_12 (pc' := 15) rfl ?_
    intro T51 W51
    refine s_icmpge W51 d12_15 (by decide) (pc1 := 32) (by decide) (pc2 := 18) rfl ?_ (fun q => absurd q (by decide))
    intro q15
    refine s_aloadN W51 d12_32 rfl rfl (pc' := 33) rfl ?_
    exact gRetA W51 hret rfl rfl d12_33 (by decide) (by decide) ⟨_, _, rfl, ((((Keep.refl h0 []).ext E23).trans K35 (allS (Or.inr (natle (by omega))) all0)).trans K48 (allS (Or.inr (natle (by omega))) all0)), natle (by omega), V48⟩
  · have Fz : Fld Z h0 a "com/example/ripen/ripen/DeadlineHeap" "size" "I" (.int (3 : Int32)) := Fz
    obtain ⟨Ea, Fd, Fh, Fe, Ft, Fs⟩ := id X
    have lt_a := natlt Ea.lt
    have lt_hA := natlt Vh.lt
    have lt_eA := natlt Ve.lt
    obtain ⟨r0, s0, t0, X0⟩ := hh 0 (by decide)
    obtain ⟨r1, s1, t1, X1⟩ := hh 1 (by decide)
    obtain ⟨r2, s2, t2, X2⟩ := hh 2 (by decide)
    refine s_aloadN W0 d12_0 rfl rfl (pc' := 1) rfl ?_
    refine gGetF W0 (host := "") (Or.inl (w_76 hw)) Via.refl Fz d12_1 (pc' := 4) rfl ?_
    intro T52 W52
    refine gNewR W52 (w_64 hw) (w_1 hw) (ad := "[Ljava/lang/Object;") (by decide +kernel) d12_4 (pc' := 7) rfl (by decide) (cap := 3) (by decide) (by decide) (by decide) (by decide) ?_
    intro T53 h53 b53 g53 W53 E53 ⟨k53, V53, A53, O53⟩
    have z53 : h0.size ≤ h53.size := E53.1
    have lt_b53 := natlt A53.lt
    have gg53 := nateq g53
    have n0_b53 : n0 ≤ b53 := by have := W52.n0le; omega
    have Vp53 : Arv Z h53 b53 k53 (.object "java/lang/Object") (3 : Int32) [.null, .null, .null] .null := Arv.pad V53 (pad_rep [] .null 3)
    refine s_astoreN W53 d12_7 rfl (l' := #[.val (.ref a), .val (.ref b53), .unset]) rfl (pc' := 8) rfl ?_
    refine s_iconst W53 d12_8 (v := (0 : Int32)) (by decide) (pc' := 9) rfl ?_
    refine s_istoreN W53 d12_9 (l' := #[.val (.ref a), .val (.ref b53), .val (.int (0 : Int32))]) rfl (pc' := 10) rfl ?_
    refine s_iloadN W53 d12_10 rfl (pc' := 11) rfl ?_
    refine s_aloadN W53 d12_11 rfl rfl (pc' := 12) rfl ?_
    have fx54 := (Fz.ext E53)
    refine gGetF W53 (host := "") (Or.inl (w_76 hw)) Via.refl fx54 d12_12 (pc' := 15) rfl ?_
    intro T55 W55
    refine s_icmpge W55 d12_15 (by decide) (pc1 := 32) (by decide) (pc2 := 18) rfl (fun q => absurd q (by decide)) ?_
    intro q15
    refine s_aloadN W55 d12_18 rfl rfl (pc' := 19) rfl ?_
    refine s_iloadN W55 d12_19 rfl (pc' := 20) rfl ?_
    refine s_aloadN W55 d12_20 rfl rfl (pc' := 21) rfl ?_
    refine s_iloadN W55 d12_21 rfl (pc' := 22) rfl ?_
    have fx56 := (Ea.ext E53)
    have fx57 := (Fd.ext E53)
    have fx58 := (Fh.ext E53)
    have fx59 := (Fe.ext E53)
    have fx60 := (Ft.ext E53)
    have fx61 := (Fs.ext E53)
    have fx62 := (Vh.ext E53)
    have fx63 := (Ve.ext E53)
    refine gVirtual W55 fx56 (w_116 hw) (w_117 hw) (fun s hZ => notFace_of_selects (args := #[]) (mv hZ (w_119 hw))) (w_119 hw) (w_118 hw) (w_36 hw) (w_120 hw) (by decide) pd_10 (ct_ela hw hEL [] a dA hA eA kh ke (0 : Int32) (Int32.ofNat (tf 0)) 0 (tf 0) hs es (.ref (yf 0)) h53 ⟨fx56, fx57, fx58, fx59, fx60, fx61⟩ fx62 fx63 (by decide) (by decide) r0 (ofN (by omega)) s0 t0 rfl) (by simp) d12_22 (pc' := 25) rfl rfl (argsL := [(.int (0 : Int32))]) rfl rfl (rest := [(.int (0 : Int32)), (.ref b53)]) rfl (wt := 2) (Nat.le_of_eq rfl) (by decide) (by decide) (by decide) (by decide) ?_
    rintro v64 T64 h64 W64 z64 ⟨rfl, rfl⟩
    show Go p e below _ T64 (mkF m 25 #[.val (.ref a), .val (.ref b53), .val (.int (0 : Int32))] [(.ref (yf 0)), (.int (0 : Int32)), (.ref b53)])
    have fx66 := (X0.ext E53)
    refine gStA W64 n0_b53 Vp53 rfl (Arv.sto Vp53 O53 (Ins.of_exa fx66 (w_32 hw))) rfl ⟨by decide, by decide⟩ (i := 0) (by decide) (show 0 < 3 by decide) d12_25 (pc' := 26) rfl ?_
    intro T65 h65 W65 K65 V65
    replace V65 : Arv Z h65 b53 k53 (.object "java/lang/Object") (3 : Int32) [(.ref (yf 0)), .null, .null] .null := V65
    have z65 : h53.size ≤ h65.size := K65.1
    refine s_iinc W65 d12_26 (v := (1 : Int32)) (by decide) rfl (l' := #[.val (.ref a), .val (.ref b53), .val (.int ((0 : Int32) + (1 : Int32)))]) rfl (pc' := 29) rfl ?_
    refine s_goto W65 d12_29 (by decide) (pc' := 10) (by decide) ?_
    rw [show ((0 : Int32) + (1 : Int32)) = (1 : Int32) from by decide]
    refine s_iloadN W65 d12_10 rfl (pc' := 11) rfl ?_
    refine s_aloadN W65 d12_11 rfl rfl (pc' := 12) rfl ?_
    have fx67 := (fx54.keep K65 (ninS (ane (by omega)) nin0))
    refine gGetF W65 (host := "") (Or.inl (w_76 hw)) Via.refl fx67 d12_12 (pc' := 15) rfl ?_
    intro T68 W68
    refine s_icmpge W68 d12_15 (by decide) (pc1 := 32) (by decide) (pc2 := 18) rfl (fun q => absurd q (by decide)) ?_
    intro q15
    refine s_aloadN W68 d12_18 rfl rfl (pc' := 19) rfl ?_
    refine s_iloadN W68 d12_19 rfl (pc' := 20) rfl ?_
    refine s_aloadN W68 d12_20 rfl rfl (pc' := 21) rfl ?_
    refine s_iloadN W68 d12_21 rfl (pc' := 22) rfl ?_
    have fx69 := (fx56.keep K65)
    have fx70 := (fx57.keep K65 (ninS (ane (by omega)) nin0))
    have fx71 := (fx58.keep K65 (ninS (ane (by omega)) nin0))
    have fx72 := (fx59.keep K65 (ninS (ane (by omega)) nin0))
    have fx73 := (fx60.keep K65 (ninS (ane (by omega)) nin0))
    have fx74 := (fx61.keep K65 (ninS (ane (by omega)) nin0))
    have fx75 := (fx62.keep K65 (ninS (ane (by omega)) nin0))
    have fx76 := (fx63.keep K65 (ninS (ane (by omega)) nin0))
    refine gVirtual W68 fx69 (w_116 hw) (w_117 hw) (fun s hZ => notFace_of_selects (args := #[]) (mv hZ (w_119 hw))) (w_119 hw) (w_118 hw) (w_36 hw) (w_120 hw) (by decide) pd_10 (ct_ela hw hEL [] a dA hA eA kh ke (1 : Int32) (Int32.ofNat (tf 1)) 1 (tf 1) hs es (.ref (yf 1)) h65 ⟨fx69, fx70, fx71, fx72, fx73, fx74⟩ fx75 fx76 (by decide) (by decide) r1 (ofN (by omega)) s1 t1 rfl) (by simp) d12_22 (pc' := 25) rfl rfl (argsL := [(.int (1 : Int32))]) rfl rfl (rest := [(.int (1 : Int32)), (.ref b53)]) rfl (wt := 2) (Nat.le_of_eq rfl) (by decide) (by decide) (by decide) (by decide) ?_
    rintro v77 T77 h77 W77 z77 ⟨rfl, rfl⟩
    show Go p e below _ T77 (mkF m 25 #[.val (.ref a), .val (.ref b53), .val (.int (1 : Int32))] [(.ref (yf 1)), (.int (1 : Int32)), (.ref b53)])
    have fx79 := ((X1.ext E53).keep K65)
    refine gStA W77 n0_b53 V65 rfl (Arv.sto V65 O53 (Ins.of_exa fx79 (w_32 hw))) rfl ⟨by decide, by decide⟩ (i := 1) (by decide) (show 1 < 3 by decide) d12_25 (pc' := 26) rfl ?_
    intro T78 h78 W78 K78 V78
    replace V78 : Arv Z h78 b53 k53 (.object "java/lang/Object") (3 : Int32) [(.ref (yf 0)), (.ref (yf 1)), .null] .null := V78
    have z78 : h65.size ≤ h78.size := K78.1
    refine s_iinc W78 d12_26 (v := (1 : Int32)) (by decide) rfl (l' := #[.val (.ref a), .val (.ref b53), .val (.int ((1 : Int32) + (1 : Int32)))]) rfl (pc' := 29) rfl ?_
    refine s_goto W78 d12_29 (by decide) (pc' := 10) (by decide) ?_
    rw [show ((1 : Int32) + (1 : Int32)) = (2 : Int32) from by decide]
    refine s_iloadN W78 d12_10 rfl (pc' := 11) rfl ?_
    refine s_aloadN W78 d12_11 rfl rfl (pc' := 12) rfl ?_
    have fx80 := (fx67.keep K78 (ninS (ane (by omega)) nin0))
    refine gGetF W78 (host := "") (Or.inl (w_76 hw)) Via.refl fx80 d12_12 (pc' := 15) rfl ?_
    intro T81 W81
    refine s_icmpge W81 d12_15 (by decide) (pc1 := 32) (by decide) (pc2 := 18) rfl (fun q => absurd q (by decide)) ?_
    intro q15
    refine s_aloadN W81 d12_18 rfl rfl (pc' := 19) rfl ?_
    refine s_iloadN W81 d12_19 rfl (pc' := 20) rfl ?_
    refine s_aloadN W81 d12_20 rfl rfl (pc' := 21) rfl ?_
    refine s_iloadN W81 d12_21 rfl (pc' := 22) rfl ?_
    have fx82 := (fx69.keep K78)
    have fx83 := (fx70.keep K78 (ninS (ane (by omega)) nin0))
    have fx84 := (fx71.keep K78 (ninS (ane (by omega)) nin0))
    have fx85 := (fx72.keep K78 (ninS (ane (by omega)) nin0))
    have fx86 := (fx73.keep K78 (ninS (ane (by omega)) nin0))
    have fx87 := (fx74.keep K78 (ninS (ane (by omega)) nin0))
    have fx88 := (fx75.keep K78 (ninS (ane (by omega)) nin0))
    have fx89 := (fx76.keep K78 (ninS (ane (by omega)) nin0))
    refine gVirtual W81 fx82 (w_116 hw) (w_117 hw) (fun s hZ => notFace_of_selects (args := #[]) (mv hZ (w_119 hw))) (w_119 hw) (w_118 hw) (w_36 hw) (w_120 hw) (by decide) pd_10 (ct_ela hw hEL [] a dA hA eA kh ke (2 : Int32) (Int32.ofNat (tf 2)) 2 (tf 2) hs es (.ref (yf 2)) h78 ⟨fx82, fx83, fx84, fx85, fx86, fx87⟩ fx88 fx89 (by decide) (by decide) r2 (ofN (by omega)) s2 t2 rfl) (by simp) d12_22 (pc' := 25) rfl rfl (argsL := [(.int (2 : Int32))]) rfl rfl (rest := [(.int (2 : Int32)), (.ref b53)]) rfl (wt := 2) (Nat.le_of_eq rfl) (by decide) (by decide) (by decide) (by decide) ?_
    rintro v90 T90 h90 W90 z90 ⟨rfl, rfl⟩
    show Go p e below _ T90 (mkF m 25 #[.val (.ref a), .val (.ref b53), .val (.int (2 : Int32))] [(.ref (yf 2)), (.int (2 : Int32)), (.ref b53)])
    have fx92 := (((X2.ext E53).keep K65).keep K78)
    refine gStA W90 n0_b53 V78 rfl (Arv.sto V78 O53 (Ins.of_exa fx92 (w_32 hw))) rfl ⟨by decide, by decide⟩ (i := 2) (by decide) (show 2 < 3 by decide) d12_25 (pc' := 26) rfl ?_
    intro T91 h91 W91 K91 V91
    replace V91 : Arv Z h91 b53 k53 (.object "java/lang/Object") (3 : Int32) [(.ref (yf 0)), (.ref (yf 1)), (.ref (yf 2))] .null := V91
    have z91 : h78.size ≤ h91.size := K91.1
    refine s_iinc W91 d12_26 (v := (1 : Int32)) (by decide) rfl (l' := #[.val (.ref a), .val (.ref b53), .val (.int ((2 : Int32) + (1 : Int32)))]) rfl (pc' := 29) rfl ?_
    refine s_goto W91 d12_29 (by decide) (pc' := 10) (by decide) ?_
    rw [show ((2 : Int32) + (1 : Int32)) = (3 : Int32) from by decide]
    refine s_iloadN W91 d12_10 rfl (pc' := 11) rfl ?_
    refine s_aloadN W91 d12_11 rfl rfl (pc' := 12) rfl ?_
    have fx93 := (fx80.keep K91 (ninS (ane (by omega)) nin0))
    refine gGetF W91 (host := "") (Or.inl (w_76 hw)) Via.refl fx93 d12_12 (pc' := 15) rfl ?_
    intro T94 W94
    refine s_icmpge W94 d12_15 (by decide) (pc1 := 32) (by decide) (pc2 := 18) rfl ?_ (fun q => absurd q (by decide))
    intro q15
    refine s_aloadN W94 d12_32 rfl rfl (pc' := 33) rfl ?_
    exact gRetA W94 hret rfl rfl d12_33 (by decide) (by decide) ⟨_, _, rfl, (((((Keep.refl h0 []).ext E53).trans K65 (allS (Or.inr (natle (by omega))) all0)).trans K78 (allS (Or.inr (natle (by omega))) all0)).trans K91 (allS (Or.inr (natle (by omega))) all0)), natle (by omega), V91⟩
def Q_fnd (Z : State) (n0 : Nat) (eL : Addr) (kl : ClassId) (e0 e1 e2 : Addr) (nn : Int32) (n t : Nat) (h0 : Heap) (v : Option Value) (h : Heap) : Prop := v = some (.int (Int32.ofNat t)) ∧ h0 = h
set_option maxRecDepth 65536 in
set_option maxHeartbeats 40000000 in
theorem ct_fnd {l : Launch} {Z : State} {a0 : Array Value} (hw : ∀ d ∈ tables_1, d.before a0 Z = true) (hEL : EW Z a0 EL0) {n0 : Nat} (cds : List Jvm.Cond) (eL : Addr) (kl : ClassId) (e0 e1 e2 : Addr) (nn : Int32) (n t : Nat) (h0 : Heap) (d01 : e0 ≠ e1) (d02 : e0 ≠ e2) (d12 : e1 ≠ e2) (Vl : Arv Z h0 eL kl (.object "java/lang/Object") 3 [.ref e0, .ref e1, .ref e2] .null) (hn : nn.toInt = n) (hn3 : n ≤ 3) (ht : t < n) :
    Ct l Z a0 EL0 n0 false false (⟨"com/example/ripen/ripen/DeadlineHeapToArrayPinLaw", "find", "(Ljava/lang/Object;[Ljava/lang/Object;I)I"⟩ : MethodName) method_5_code 3 (Option.some Jvm.ClassFile.FieldType.int) cds ({ frames := 0, cells := 0, slots := 0, locals := 0 } : Room) [] #[(.ref (pkA t e0 e1 e2)), (.ref eL), (.int nn)] h0 (Q_fnd Z n0 eL kl e0 e1 e2 nn n t h0) := by
  refine Ct.of (plainFor_of_name pn_4) hEL ?_
  intro p e s m below meth c T0 W0 hret hnm hs0
  refine Go.cast (ef_RRI_3 m (pkA t e0 e1 e2) eL nn) ?_
  show Go p e below _ T0 (mkF m 0 #[.val (.ref (pkA t e0 e1 e2)), .val (.ref eL), .val (.int nn)] [])
  have e1' : (1 : Int32).toInt = 1 := by decide
  have e2' : (2 : Int32).toInt = 2 := by decide
  rcases (by omega : t = 0 ∨ t = 1 ∨ t = 2) with rfl | rfl | rfl
  · show Go p e below _ T0 (mkF m 0 #[.val (.ref e0), .val (.ref eL), .val (.int nn)] [])
    refine s_iloadN W0 d24_0 rfl (pc' := 1) rfl ?_
    refine s_ifle W0 d24_1 (by decide) (pc1 := 13) (by decide) (pc2 := 4) rfl (fun q => absurd q (fun q' => q' (lt32 (by rw [zero32]; omega)))) ?_
    intro q1
    refine s_aloadN W0 d24_4 rfl rfl (pc' := 5) rfl ?_
    refine s_iconst W0 d24_5 (v := (0 : Int32)) (by decide) (pc' := 6) rfl ?_
    refine gLdA W0 Vl rfl ⟨by decide, by decide⟩ (v := (.ref e0)) rfl d24_6 (pc' := 7) rfl ?_
    refine s_aloadN W0 d24_7 rfl rfl (pc' := 8) rfl ?_
    refine s_acmpne W0 d24_8 rfl rfl (by decide) (pc1 := 13) (by decide) (pc2 := 11) rfl (fun q => (q rfl).elim) ?_
    intro q8
    refine s_iconst W0 d24_11 (v := (0 : Int32)) (by decide) (pc' := 12) rfl ?_
    exact gRetI W0 hret d24_12 (by decide) (by decide) ⟨rfl, rfl⟩
  · show Go p e below _ T0 (mkF m 0 #[.val (.ref e1), .val (.ref eL), .val (.int nn)] [])
    refine s_iloadN W0 d24_0 rfl (pc' := 1) rfl ?_
    refine s_ifle W0 d24_1 (by decide) (pc1 := 13) (by decide) (pc2 := 4) rfl (fun q => absurd q (fun q' => q' (lt32 (by rw [zero32]; omega)))) ?_
    intro q1
    refine s_aloadN W0 d24_4 rfl rfl (pc' := 5) rfl ?_
    refine s_iconst W0 d24_5 (v := (0 : Int32)) (by decide) (pc' := 6) rfl ?_
    refine gLdA W0 Vl rfl ⟨by decide, by decide⟩ (v := (.ref e0)) rfl d24_6 (pc' := 7) rfl ?_
    refine s_aloadN W0 d24_7 rfl rfl (pc' := 8) rfl ?_
    refine s_acmpne W0 d24_8 rfl rfl (by decide) (pc1 := 13) (by decide) (pc2 := 11) rfl ?_ (fun q => absurd q (fun q' => d01 (Value.ref.inj q')))
    intro q8
    refine s_iloadN W0 d24_13 rfl (pc' := 14) rfl ?_
    refine s_iconst W0 d24_14 (v := (1 : Int32)) (by decide) (pc' := 15) rfl ?_
    refine s_icmple W0 d24_15 (by decide) (pc1 := 27) (by decide) (pc2 := 18) rfl (fun q => absurd q (fun q' => q' (lt32 (by omega)))) ?_
    intro q15
    refine s_aloadN W0 d24_18 rfl rfl (pc' := 19) rfl ?_
    refine s_iconst W0 d24_19 (v := (1 : Int32)) (by decide) (pc' := 20) rfl ?_
    refine gLdA W0 Vl rfl ⟨by decide, by decide⟩ (v := (.ref e1)) rfl d24_20 (pc' := 21) rfl ?_
    refine s_aloadN W0 d24_21 rfl rfl (pc' := 22) rfl ?_
    refine s_acmpne W0 d24_22 rfl rfl (by decide) (pc1 := 27) (by decide) (pc2 := 25) rfl (fun q => (q rfl).elim) ?_
    intro q22
    refine s_iconst W0 d24_25 (v := (1 : Int32)) (by decide) (pc' := 26) rfl ?_
    exact gRetI W0 hret d24_26 (by decide) (by decide) ⟨rfl, rfl⟩
  · show Go p e below _ T0 (mkF m 0 #[.val (.ref e2), .val (.ref eL), .val (.int nn)] [])
    refine s_iloadN W0 d24_0 rfl (pc' := 1) rfl ?_
    refine s_ifle W0 d24_1 (by decide) (pc1 := 13) (by decide) (pc2 := 4) rfl (fun q => absurd q (fun q' => q' (lt32 (by rw [zero32]; omega)))) ?_
    intro q1
    refine s_aloadN W0 d24_4 rfl rfl (pc' := 5) rfl ?_
    refine s_iconst W0 d24_5 (v := (0 : Int32)) (by decide) (pc' := 6) rfl ?_
    refine gLdA W0 Vl rfl ⟨by decide, by decide⟩ (v := (.ref e0)) rfl d24_6 (pc' := 7) rfl ?_
    refine s_aloadN W0 d24_7 rfl rfl (pc' := 8) rfl ?_
    refine s_acmpne W0 d24_8 rfl rfl (by decide) (pc1 := 13) (by decide) (pc2 := 11) rfl ?_ (fun q => absurd q (fun q' => d02 (Value.ref.inj q')))
    intro q8
    refine s_iloadN W0 d24_13 rfl (pc' := 14) rfl ?_
    refine s_iconst W0 d24_14 (v := (1 : Int32)) (by decide) (pc' := 15) rfl ?_
    refine s_icmple W0 d24_15 (by decide) (pc1 := 27) (by decide) (pc2 := 18) rfl (fun q => absurd q (fun q' => q' (lt32 (by omega)))) ?_
    intro q15
    refine s_aloadN W0 d24_18 rfl rfl (pc' := 19) rfl ?_
    refine s_iconst W0 d24_19 (v := (1 : Int32)) (by decide) (pc' := 20) rfl ?_
    refine gLdA W0 Vl rfl ⟨by decide, by decide⟩ (v := (.ref e1)) rfl d24_20 (pc' := 21) rfl ?_
    refine s_aloadN W0 d24_21 rfl rfl (pc' := 22) rfl ?_
    refine s_acmpne W0 d24_22 rfl rfl (by decide) (pc1 := 27) (by decide) (pc2 := 25) rfl ?_ (fun q => absurd q (fun q' => d12 (Value.ref.inj q')))
    intro q22
    refine s_iloadN W0 d24_27 rfl (pc' := 28) rfl ?_
    refine s_iconst W0 d24_28 (v := (2 : Int32)) (by decide) (pc' := 29) rfl ?_
    refine s_icmple W0 d24_29 (by decide) (pc1 := 41) (by decide) (pc2 := 32) rfl (fun q => absurd q (fun q' => q' (lt32 (by omega)))) ?_
    intro q29
    refine s_aloadN W0 d24_32 rfl rfl (pc' := 33) rfl ?_
    refine s_iconst W0 d24_33 (v := (2 : Int32)) (by decide) (pc' := 34) rfl ?_
    refine gLdA W0 Vl rfl ⟨by decide, by decide⟩ (v := (.ref e2)) rfl d24_34 (pc' := 35) rfl ?_
    refine s_aloadN W0 d24_35 rfl rfl (pc' := 36) rfl ?_
    refine s_acmpne W0 d24_36 rfl rfl (by decide) (pc1 := 41) (by decide) (pc2 := 39) rfl (fun q => (q rfl).elim) ?_
    intro q36
    refine s_iconst W0 d24_39 (v := (2 : Int32)) (by decide) (pc' := 40) rfl ?_
    exact gRetI W0 hret d24_40 (by decide) (by decide) ⟨rfl, rfl⟩
def Q_sok (Z : State) (n0 : Nat) (a dA hA eA : Addr) (kh ke : ClassId) (cA : Addr) (kc : ClassId) (eL : Addr) (kl : ClassId) (e0 e1 e2 : Addr) (i kk nn gg : Int32) (j k n : Nat) (hs es cv : List Value) (h0 : Heap) (v : Option Value) (h : Heap) : Prop := v = some (.int 1) ∧ h0 = h
set_option maxRecDepth 65536 in
set_option maxHeartbeats 40000000 in
theorem ct_sok {l : Launch} {Z : State} {a0 : Array Value} (hw : ∀ d ∈ tables_1, d.before a0 Z = true) (hEL : EW Z a0 EL0) {n0 : Nat} (cds : List Jvm.Cond) (a dA hA eA : Addr) (kh ke : ClassId) (cA : Addr) (kc : ClassId) (eL : Addr) (kl : ClassId) (e0 e1 e2 : Addr) (i kk nn gg : Int32) (j k n : Nat) (hs es cv : List Value) (h0 : Heap) (X : HF Z h0 a dA hA eA) (Vh : Arv Z h0 hA kh .int 16 hs (.int 0)) (Ve : Arv Z h0 eA ke (.object "java/lang/Object") 16 es .null) (Vc : Arv Z h0 cA kc (.object "java/lang/Object") kk cv .null) (Vl : Arv Z h0 eL kl (.object "java/lang/Object") 3 [.ref e0, .ref e1, .ref e2] .null) (d01 : e0 ≠ e1) (d02 : e0 ≠ e2) (d12 : e1 ≠ e2) (hi : i.toInt = j) (hk : kk.toInt = k) (hn : nn.toInt = n) (hn3 : n ≤ 3) (hk3 : k ≤ 3) (H : j < k → ∃ t, cv.getD j .null = .ref (pkA t e0 e1 e2) ∧ hs.getD j (.int 0) = .int (Int32.ofNat t) ∧ t < n ∧ ¬ Int32.ofNat t = gg ∧ es.getD t .null = .ref (pkA t e0 e1 e2)) :
    Ct l Z a0 EL0 n0 false false (⟨"com/example/ripen/ripen/DeadlineHeapToArrayPinLaw", "slotOk", "(Lcom/example/ripen/ripen/DeadlineHeap;[Ljava/lang/Object;II[Ljava/lang/Object;II)Z"⟩ : MethodName) method_3_code 9 (Option.some Jvm.ClassFile.FieldType.boolean) cds ({ frames := 1, cells := 0, slots := 0, locals := 14 } : Room) [] #[(.ref a), (.ref cA), (.int i), (.int kk), (.ref eL), (.int nn), (.int gg)] h0 (Q_sok Z n0 a dA hA eA kh ke cA kc eL kl e0 e1 e2 i kk nn gg j k n hs es cv h0) := by
  refine Ct.of (plainFor_of_name pn_4) hEL ?_
  intro p e s m below meth c T0 W0 hret hnm hs0
  refine Go.cast (ef_RRIIRII_9 m a cA i kk eL nn gg) ?_
  show Go p e below _ T0 (mkF m 0 #[.val (.ref a), .val (.ref cA), .val (.int i), .val (.int kk), .val (.ref eL), .val (.int nn), .val (.int gg), .unset, .unset] [])
  obtain ⟨Ea, Fd, Fh, Fe, Ft, Fs⟩ := id X
  have lt_a := natlt Ea.lt
  have lt_hA := natlt Vh.lt
  have lt_eA := natlt Ve.lt
  refine s_iloadN W0 d13_0 rfl (pc' := 1) rfl ?_
  refine s_iloadN W0 d13_1 rfl (pc' := 2) rfl ?_
  refine s_icmplt W0 d13_2 (by decide) (pc1 := 7) (by decide) (pc2 := 5) rfl ?_ ?_
  · intro q2
    have hjk : j < k := by have := Int32.lt_iff_toInt_lt.mp q2; omega
    obtain ⟨t, g1, g2, g3, g4, g5⟩ := H hjk
    refine s_aloadN W0 d13_7 rfl rfl (pc' := 8) rfl ?_
    refine s_iloadN W0 d13_8 rfl (pc' := 9) rfl ?_
    refine gLdA W0 Vc rfl (idxN hi hk hjk).1 (v := (.ref (pkA t e0 e1 e2))) (by rw [(idxN hi hk hjk).2]; exact g1) d13_9 (pc' := 10) rfl ?_
    refine s_astore W0 d13_10 rfl (l' := #[.val (.ref a), .val (.ref cA), .val (.int i), .val (.int kk), .val (.ref eL), .val (.int nn), .val (.int gg), .val (.ref (pkA t e0 e1 e2)), .unset]) rfl (pc' := 12) rfl ?_
    refine s_aload W0 d13_12 rfl rfl (pc' := 14) rfl ?_
    refine s_aloadN W0 d13_14 rfl rfl (pc' := 15) rfl ?_
    refine s_iloadN W0 d13_15 rfl (pc' := 16) rfl ?_
    refine gVirtual W0 Ea (w_128 hw) (w_117 hw) (fun s hZ => notFace_of_selects (args := #[]) (mv hZ (w_119 hw))) (w_119 hw) (w_118 hw) (w_36 hw) (w_120 hw) (by decide) pd_10 (ct_ela hw hEL [] a dA hA eA kh ke i (Int32.ofNat t) j t hs es (.ref (pkA t e0 e1 e2)) h0 ⟨Ea, Fd, Fh, Fe, Ft, Fs⟩ Vh Ve hi (by omega) g2 (ofN (by omega)) (by omega) g5 rfl) (by simp) d13_16 (pc' := 19) rfl rfl (argsL := [(.int i)]) rfl rfl (rest := [(.ref (pkA t e0 e1 e2))]) rfl (wt := 1) (Nat.le_of_eq rfl) (by decide) (by decide) (by decide) (by decide) ?_
    rintro v1 T1 h1 W1 z1 ⟨rfl, rfl⟩
    show Go p e below _ T1 (mkF m 19 #[.val (.ref a), .val (.ref cA), .val (.int i), .val (.int kk), .val (.ref eL), .val (.int nn), .val (.int gg), .val (.ref (pkA t e0 e1 e2)), .unset] [(.ref (pkA t e0 e1 e2)), (.ref (pkA t e0 e1 e2))])
    refine s_acmpeq W1 d13_19 rfl rfl (by decide) (pc1 := 24) (by decide) (pc2 := 22) rfl ?_ (fun q => (q rfl).elim)
    intro q19
    refine s_aload W1 d13_24 rfl rfl (pc' := 26) rfl ?_
    refine s_aload W1 d13_26 rfl rfl (pc' := 28) rfl ?_
    refine s_iload W1 d13_28 rfl (pc' := 30) rfl ?_
    refine gStatic W1 (w_125 hw) (w_126 hw) (w_80 hw) (w_127 hw) (by decide) pd_15 (ct_fnd hw hEL [] eL kl e0 e1 e2 nn n t h0 d01 d02 d12 Vl hn hn3 g3) (by simp) d13_30 (pc' := 33) rfl rfl (argsL := [(.ref (pkA t e0 e1 e2)), (.ref eL), (.int nn)]) rfl rfl (rest := []) rfl (wt := 0) (Nat.le_of_eq rfl) (by decide) (by decide) (by decide) (by decide) ?_
    rintro v2 T2 h2 W2 z2 ⟨rfl, rfl⟩
    show Go p e below _ T2 (mkF m 33 #[.val (.ref a), .val (.ref cA), .val (.int i), .val (.int kk), .val (.ref eL), .val (.int nn), .val (.int gg), .val (.ref (pkA t e0 e1 e2)), .unset] [(.int (Int32.ofNat t))])
    refine s_istore W2 d13_33 (l' := #[.val (.ref a), .val (.ref cA), .val (.int i), .val (.int kk), .val (.ref eL), .val (.int nn), .val (.int gg), .val (.ref (pkA t e0 e1 e2)), .val (.int (Int32.ofNat t))]) rfl (pc' := 35) rfl ?_
    refine s_iload W2 d13_35 rfl (pc' := 37) rfl ?_
    refine s_iflt W2 d13_37 (by decide) (pc1 := 51) (by decide) (pc2 := 40) rfl (fun q => absurd q (nlt32 (by rw [ofN (show t < 2147483648 by omega), zero32]; omega))) ?_
    intro q37
    refine s_iload W2 d13_40 rfl (pc' := 42) rfl ?_
    refine s_iload W2 d13_42 rfl (pc' := 44) rfl ?_
    refine s_icmpeq W2 d13_44 (by decide) (pc1 := 51) (by decide) (pc2 := 47) rfl (fun q => absurd q g4) ?_
    intro q44
    refine s_iconst W2 d13_47 (v := (1 : Int32)) (by decide) (pc' := 48) rfl ?_
    refine s_goto W2 d13_48 (by decide) (pc' := 52) (by decide) ?_
    exact gRetN W2 hret (by simp) d13_52 (by decide) (by decide) ⟨rfl, rfl⟩
  · intro q2
    refine s_iconst W0 d13_5 (v := (1 : Int32)) (by decide) (pc' := 6) rfl ?_
    exact gRetN W0 hret (by simp) d13_6 (by decide) (by decide) ⟨rfl, rfl⟩
def Q_mok (Z : State) (n0 : Nat) (dL : Addr) (kx : ClassId) (jj tt nn gg : Int32) (j t n : Nat) (dd : List Int64) (h0 : Heap) (v : Option Value) (h : Heap) : Prop := v = some (.int 1) ∧ h0 = h
set_option maxRecDepth 65536 in
set_option maxHeartbeats 40000000 in
theorem ct_mok {l : Launch} {Z : State} {a0 : Array Value} (hw : ∀ d ∈ tables_1, d.before a0 Z = true) (hEL : EW Z a0 EL0) {n0 : Nat} (cds : List Jvm.Cond) (dL : Addr) (kx : ClassId) (jj tt nn gg : Int32) (j t n : Nat) (dd : List Int64) (h0 : Heap) (Vx : Arv Z h0 dL kx .long 3 (dd.map Value.long) (.long 0)) (hi : jj.toInt = j) (hj : j < 3) (ht : tt.toInt = t) (hn : nn.toInt = n) (hn3 : n ≤ 3) (H : t < n → ¬ tt = gg → dd.getD j 0 ≤ dd.getD t 0) :
    Ct l Z a0 EL0 n0 false false (⟨"com/example/ripen/ripen/DeadlineHeapToArrayPinLaw", "minOk", "([JIIII)Z"⟩ : MethodName) method_4_code 5 (Option.some Jvm.ClassFile.FieldType.boolean) cds ({ frames := 0, cells := 0, slots := 0, locals := 0 } : Room) [] #[(.ref dL), (.int jj), (.int tt), (.int nn), (.int gg)] h0 (Q_mok Z n0 dL kx jj tt nn gg j t n dd h0) := by
  refine Ct.of (plainFor_of_name pn_4) hEL ?_
  intro p e s m below meth c T0 W0 hret hnm hs0
  refine Go.cast (ef_RIIII_5 m dL jj tt nn gg) ?_
  show Go p e below _ T0 (mkF m 0 #[.val (.ref dL), .val (.int jj), .val (.int tt), .val (.int nn), .val (.int gg)] [])
  refine s_iloadN W0 d25_0 rfl (pc' := 1) rfl ?_
  refine s_iloadN W0 d25_1 rfl (pc' := 2) rfl ?_
  refine s_icmpge W0 d25_2 (by decide) (pc1 := 11) (by decide) (pc2 := 5) rfl ?_ ?_
  · intro q2
    refine s_iconst W0 d25_11 (v := (1 : Int32)) (by decide) (pc' := 12) rfl ?_
    exact gRetN W0 hret (by simp) d25_12 (by decide) (by decide) ⟨rfl, rfl⟩
  · intro q2
    refine s_iloadN W0 d25_5 rfl (pc' := 6) rfl ?_
    refine s_iload W0 d25_6 rfl (pc' := 8) rfl ?_
    refine s_icmpne W0 d25_8 (by decide) (pc1 := 13) (by decide) (pc2 := 11) rfl ?_ ?_
    · intro q8
      have htn : t < n := by have := Int32.lt_iff_toInt_lt.mp q2; omega
      have hle := H htn q8
      have e3 : (3 : Int32).toInt = (3 : Nat) := by decide
      refine s_aloadN W0 d25_13 rfl rfl (pc' := 14) rfl ?_
      refine s_iloadN W0 d25_14 rfl (pc' := 15) rfl ?_
      refine gLdJ W0 Vx (idxN hi e3 hj).1 (v := (.long (dd.getD j 0))) (by rw [(idxN hi e3 hj).2]; exact getD_long _ _) d25_15 (pc' := 16) rfl ?_
      refine s_aloadN W0 d25_16 rfl rfl (pc' := 17) rfl ?_
      refine s_iloadN W0 d25_17 rfl (pc' := 18) rfl ?_
      refine gLdJ W0 Vx (idxN ht e3 (by omega : t < 3)).1 (v := (.long (dd.getD t 0))) (by rw [(idxN ht e3 (by omega : t < 3)).2]; exact getD_long _ _) d25_18 (pc' := 19) rfl ?_
      refine s_lcmp W0 d25_19 (pc' := 20) rfl ?_
      refine s_ifgt W0 d25_20 (by decide) (pc1 := 27) (by decide) (pc2 := 23) rfl (fun q => absurd q (fun q' => absurd ((lw_gt _ _).mp q') (Int64.not_lt.mpr hle))) ?_
      intro q20
      refine s_iconst W0 d25_23 (v := (1 : Int32)) (by decide) (pc' := 24) rfl ?_
      refine s_goto W0 d25_24 (by decide) (pc' := 28) (by decide) ?_
      exact gRetN W0 hret (by simp) d25_28 (by decide) (by decide) ⟨rfl, rfl⟩
    · intro q8
      refine s_iconst W0 d25_11 (v := (1 : Int32)) (by decide) (pc' := 12) rfl ?_
      exact gRetN W0 hret (by simp) d25_12 (by decide) (by decide) ⟨rfl, rfl⟩
theorem exaP {Z : State} {h : Heap} {C : String} {e0 e1 e2 : Addr} (t : Nat) (E0 : Exa Z h e0 C) (E1 : Exa Z h e1 C) (E2 : Exa Z h e2 C) : Exa Z h (pkA t e0 e1 e2) C := by
  unfold pkA; split
  · exact E0
  · exact E1
  · exact E2
theorem remL (x : Int32) {n : Nat} (hn : 0 < n) (h : n < 2147483648) : ∃ r : Nat, r < n ∧ (x &&& (2147483647 : Int32)) % Int32.ofNat n = Int32.ofNat r := by
  obtain ⟨k, h1, h2⟩ := and_nat x (k := 2147483647) (by decide)
  refine ⟨k % n, Nat.mod_lt _ hn, ?_⟩
  rw [show x &&& (2147483647 : Int32) = Int32.ofNat k from h2]
  exact rem_nat (by omega) h
theorem lt64 {a b : Int64} (q : a < b) : a.toInt < b.toInt := Int64.lt_iff_toInt_lt.mp q
theorem nlt64 {a b : Int64} (q : ¬ a < b) : ¬ a.toInt < b.toInt := fun r => q (Int64.lt_iff_toInt_lt.mpr r)
theorem nlt64' {a b : Int64} (q : ¬ a.toInt < b.toInt) : ¬ a < b := fun r => q (Int64.lt_iff_toInt_lt.mp r)
theorem le64 {a b : Int64} (q : a.toInt ≤ b.toInt) : a ≤ b := Int64.le_iff_toInt_le.mpr q
theorem min3 {n : Nat} {g : Int32} {f : Nat → Prop} (hn : n ≤ 3) (h0 : 0 < n → ¬ Int32.ofNat 0 = g → f 0) (h1 : 1 < n → ¬ Int32.ofNat 1 = g → f 1) (h2 : 2 < n → ¬ Int32.ofNat 2 = g → f 2) : ∀ t, t < n → ¬ Int32.ofNat t = g → f t := by
  intro t ht hg
  rcases (by omega : t = 0 ∨ t = 1 ∨ t = 2) with rfl | rfl | rfl
  · exact h0 ht hg
  · exact h1 ht hg
  · exact h2 ht hg
def Q_law (Z : State) (n0 : Nat) (cn : Int32) (x0 x1 x2 : Int64) (rm ccs : Int32) (h0 : Heap) (v : Option Value) (h : Heap) : Prop := v = some (.int 1)
set_option maxRecDepth 65536 in
set_option maxHeartbeats 40000000 in
theorem ct_law {l : Launch} {Z : State} {a0 : Array Value} (hw : ∀ d ∈ tables_1, d.before a0 Z = true) (hEL : EW Z a0 EL0) {n0 : Nat} (cds : List Jvm.Cond) (cn : Int32) (x0 x1 x2 : Int64) (rm ccs : Int32) (h0 : Heap) (SCS : Sta Z Z.heap "java/lang/String" "COMPACT_STRINGS" "Z" (.int ccs)) (hccs : ¬ ccs = 0) :
    Ct l Z a0 EL0 n0 false false x code maxLocals ret cds room_1 [] #[(.int cn), (.long x0), (.long x1), (.long x2), (.int rm)] h0 (Q_law Z n0 cn x0 x1 x2 rm ccs h0) := by
  refine Ct.of (plainFor_of_name pn_4) hEL ?_
  intro p e s m below meth c T0 W0 hret hnm hs0
  refine Go.cast (ef_IJJJI_17 m cn x0 x1 x2 rm) ?_
  show Go p e below _ T0 (mkF m 0 #[.val (.int cn), .val (.long x0), .second, .val (.long x1), .second, .val (.long x2), .second, .val (.int rm), .unset, .unset, .unset, .unset, .unset, .unset, .unset, .unset, .unset] [])
  refine s_iloadN W0 at_0 rfl (pc' := 1) rfl ?_
  refine s_iconst W0 at_1 (v := (3 : Int32)) (by decide) (pc' := 2) rfl ?_
  refine s_iand W0 at_2 (pc' := 3) rfl ?_
  obtain ⟨n, hn3, en⟩ := and_nat cn (k := 3) (by decide)
  rw [show cn &&& (3 : Int32) = Int32.ofNat n from en]
  have tn : (Int32.ofNat n).toInt = n := ofN (by omega)
  refine s_istore W0 at_3 (l' := #[.val (.int cn), .val (.long x0), .second, .val (.long x1), .second, .val (.long x2), .second, .val (.int rm), .val (.int (Int32.ofNat n)), .unset, .unset, .unset, .unset, .unset, .unset, .unset, .unset]) rfl (pc' := 5) rfl ?_
  have tailA : ∀ rmv : Int32, (rmv = 0 ∨ (rmv = 1 ∧ 0 < n)) → Go p e below (Po s Z EL0 n0 false room_1.cells room_1.slots (Q_law Z n0 cn x0 x1 x2 rm ccs h0)) T0 (mkF m 23 #[.val (.int cn), .val (.long x0), .second, .val (.long x1), .second, .val (.long x2), .second, .val (.int rm), .val (.int (Int32.ofNat n)), .unset, .unset, .unset, .unset, .unset, .unset, .unset, .unset] [.int rmv]) := by
    intro rmv hrmv
    refine s_istore W0 at_23 (l' := #[.val (.int cn), .val (.long x0), .second, .val (.long x1), .second, .val (.long x2), .second, .val (.int rm), .val (.int (Int32.ofNat n)), .val (.int rmv), .unset, .unset, .unset, .unset, .unset, .unset, .unset]) rfl (pc' := 25) rfl ?_
    refine s_iconst W0 at_25 (v := (3 : Int32)) (by decide) (pc' := 26) rfl ?_
    refine gNewR W0 (w_0 hw) (w_1 hw) (ad := "[Ljava/lang/Object;") (by decide +kernel) at_26 (pc' := 29) rfl (by decide) (cap := 3) (by decide) (by decide) (by decide) (by decide) ?_
    intro T1 h1 b1 g1 W1 E1 ⟨k1, V1, A1, O1⟩
    have z1 : h0.size ≤ h1.size := E1.1
    have lt_b1 := natlt A1.lt
    have gg1 := nateq g1
    have n0_b1 : n0 ≤ b1 := by have := W0.n0le; omega
    have Vp1 : Arv Z h1 b1 k1 (.object "java/lang/Object") (3 : Int32) [.null, .null, .null] .null := Arv.pad V1 (pad_rep [] .null 3)
    refine s_astore W1 at_29 rfl (l' := #[.val (.int cn), .val (.long x0), .second, .val (.long x1), .second, .val (.long x2), .second, .val (.int rm), .val (.int (Int32.ofNat n)), .val (.int rmv), .val (.ref b1), .unset, .unset, .unset, .unset, .unset, .unset]) rfl (pc' := 31) rfl ?_
    refine s_aload W1 at_31 rfl rfl (pc' := 33) rfl ?_
    refine s_iconst W1 at_33 (v := (0 : Int32)) (by decide) (pc' := 34) rfl ?_
    refine gNew W1 (w_2 hw) (w_3 hw) (w_4 hw) at_34 (pc' := 37) rfl (by decide) (by decide) ?_
    intro T2 h2 b2 g2 W2 E2 ⟨A2, D2, U2⟩
    have z2 : h1.size ≤ h2.size := E2.1
    have lt_b2 := natlt A2.lt
    have gg2 := nateq g2
    have n0_b2 : n0 ≤ b2 := by have := W1.n0le; omega
    have F2_coder : Fld Z h2 b2 "java/lang/String" "coder" "B" (.int (0 : Int32)) := D2 (Or.inr (w_29 hw)) (ty := .byte) (by decide)
    have F2_value : Fld Z h2 b2 "java/lang/String" "value" "[B" .null := D2 (Or.inr (w_31 hw)) (ty := (.array .byte)) (by decide)
    refine s_dup W2 at_37 rfl (pc' := 38) rfl ?_
    refine s_iconst W2 at_38 (v := (1 : Int32)) (by decide) (pc' := 39) rfl ?_
    refine gNewP (aty := .char) W2 (w_5 hw) (ad := "[C") (by decide +kernel) at_39 (pc' := 41) rfl (by decide) (cap := 1) (by decide) (by decide) (by decide) (by decide) ?_
    intro T3 h3 b3 g3 W3 E3 ⟨k3, V3, A3⟩
    have z3 : h2.size ≤ h3.size := E3.1
    have lt_b3 := natlt A3.lt
    have gg3 := nateq g3
    have n0_b3 : n0 ≤ b3 := by have := W2.n0le; omega
    have Vp3 : Arv Z h3 b3 k3 .char (1 : Int32) [(.int (0 : Int32))] (.int (0 : Int32)) := Arv.pad V3 (pad_rep [] (.int (0 : Int32)) 1)
    refine s_dup W3 at_41 rfl (pc' := 42) rfl ?_
    refine s_iconst W3 at_42 (v := (0 : Int32)) (by decide) (pc' := 43) rfl ?_
    refine s_bipush W3 at_43 (v := (97 : Int32)) (by decide) (pc' := 45) rfl ?_
    refine gStC W3 n0_b3 Vp3 ⟨by decide, by decide⟩ (i := 0) (by decide) (show 0 < 1 by decide) at_45 (pc' := 46) rfl ?_
    intro T4 h4 W4 K4 V4
    replace V4 : Arv Z h4 b3 k3 .char (1 : Int32) [(.int (nar .char (97 : Int32)))] (.int (0 : Int32)) := V4
    have z4 : h3.size ≤ h4.size := K4.1
    have fx5 := ((A2.ext E3).keep K4)
    have fx6 := ((F2_value.ext E3).keep K4 (ninS (ane (by omega)) nin0))
    have fx7 := ((F2_coder.ext E3).keep K4 (ninS (ane (by omega)) nin0))
    refine gSpecial W4 rfl (w_6 hw) (w_7 hw) (w_4 hw) (w_8 hw) (by decide) pd_16 (ct_str1 hw hEL [] b2 b3 k3 (1 : Int32) ccs [(nar .char (97 : Int32))] h4 (show (1 : Int32).toInt = ((1 : Nat) : Int) by decide) (show 1 ≤ 1 by decide) (by intro c hc; rcases List.mem_singleton.mp hc with rfl; decide) V4 fx5 fx6 fx7 n0_b2 SCS hccs (by simp)) (fun x hx => by rcases List.mem_singleton.mp hx with rfl; exact List.mem_of_getElem? (i := 1) rfl) at_46 (pc' := 49) rfl rfl (argsL := [(.ref b3)]) rfl rfl (rest := [(.ref b2), (.int (0 : Int32)), (.ref b1)]) rfl (wt := 3) (Nat.le_of_eq rfl) (by decide) (by decide) (by decide) (by decide) ?_
    rintro v8 T8 h8 W8 z8 ⟨rfl, Ks0, ds0, ks0, Ss0, gs0⟩
    show Go p e below _ T8 (mkF m 49 #[.val (.int cn), .val (.long x0), .second, .val (.long x1), .second, .val (.long x2), .second, .val (.int rm), .val (.int (Int32.ofNat n)), .val (.int rmv), .val (.ref b1), .unset, .unset, .unset, .unset, .unset, .unset] [(.ref b2), (.int (0 : Int32)), (.ref b1)])
    have lt_ds0 := natlt Ss0.2.2.2.lt
    have fx10 := ((((Vp1.ext E2).ext E3).keep K4 (ninS (ane (by omega)) nin0)).keep Ks0 (ninS (ane (by omega)) nin0))
    have fx11 := (fx5.keep Ks0)
    refine gStA W8 n0_b1 fx10 rfl (Arv.sto fx10 O1 (Ins.of_exa fx11 (w_32 hw))) rfl ⟨by decide, by decide⟩ (i := 0) (by decide) (show 0 < 3 by decide) at_49 (pc' := 50) rfl ?_
    intro T9 h9 W9 K9 V9
    replace V9 : Arv Z h9 b1 k1 (.object "java/lang/Object") (3 : Int32) [(.ref b2), .null, .null] .null := V9
    have z9 : h8.size ≤ h9.size := K9.1
    refine s_aload W9 at_50 rfl rfl (pc' := 52) rfl ?_
    refine s_iconst W9 at_52 (v := (1 : Int32)) (by decide) (pc' := 53) rfl ?_
    refine gNew W9 (w_2 hw) (w_3 hw) (w_4 hw) at_53 (pc' := 56) rfl (by decide) (by decide) ?_
    intro T12 h12 b12 g12 W12 E12 ⟨A12, D12, U12⟩
    have z12 : h9.size ≤ h12.size := E12.1
    have lt_b12 := natlt A12.lt
    have gg12 := nateq g12
    have n0_b12 : n0 ≤ b12 := by have := W9.n0le; omega
    have F12_coder : Fld Z h12 b12 "java/lang/String" "coder" "B" (.int (0 : Int32)) := D12 (Or.inr (w_29 hw)) (ty := .byte) (by decide)
    have F12_value : Fld Z h12 b12 "java/lang/String" "value" "[B" .null := D12 (Or.inr (w_31 hw)) (ty := (.array .byte)) (by decide)
    refine s_dup W12 at_56 rfl (pc' := 57) rfl ?_
    refine s_iconst W12 at_57 (v := (1 : Int32)) (by decide) (pc' := 58) rfl ?_
    refine gNewP (aty := .char) W12 (w_5 hw) (ad := "[C") (by decide +kernel) at_58 (pc' := 60) rfl (by decide) (cap := 1) (by decide) (by decide) (by decide) (by decide) ?_
    intro T13 h13 b13 g13 W13 E13 ⟨k13, V13, A13⟩
    have z13 : h12.size ≤ h13.size := E13.1
    have lt_b13 := natlt A13.lt
    have gg13 := nateq g13
    have n0_b13 : n0 ≤ b13 := by have := W12.n0le; omega
    have Vp13 : Arv Z h13 b13 k13 .char (1 : Int32) [(.int (0 : Int32))] (.int (0 : Int32)) := Arv.pad V13 (pad_rep [] (.int (0 : Int32)) 1)
    refine s_dup W13 at_60 rfl (pc' := 61) rfl ?_
    refine s_iconst W13 at_61 (v := (0 : Int32)) (by decide) (pc' := 62) rfl ?_
    refine s_bipush W13 at_62 (v := (98 : Int32)) (by decide) (pc' := 64) rfl ?_
    refine gStC W13 n0_b13 Vp13 ⟨by decide, by decide⟩ (i := 0) (by decide) (show 0 < 1 by decide) at_64 (pc' := 65) rfl ?_
    intro T14 h14 W14 K14 V14
    replace V14 : Arv Z h14 b13 k13 .char (1 : Int32) [(.int (nar .char (98 : Int32)))] (.int (0 : Int32)) := V14
    have z14 : h13.size ≤ h14.size := K14.1
    have fx15 := ((A12.ext E13).keep K14)
    have fx16 := ((F12_value.ext E13).keep K14 (ninS (ane (by omega)) nin0))
    have fx17 := ((F12_coder.ext E13).keep K14 (ninS (ane (by omega)) nin0))
    refine gSpecial W14 rfl (w_6 hw) (w_7 hw) (w_4 hw) (w_8 hw) (by decide) pd_16 (ct_str1 hw hEL [] b12 b13 k13 (1 : Int32) ccs [(nar .char (98 : Int32))] h14 (show (1 : Int32).toInt = ((1 : Nat) : Int) by decide) (show 1 ≤ 1 by decide) (by intro c hc; rcases List.mem_singleton.mp hc with rfl; decide) V14 fx15 fx16 fx17 n0_b12 SCS hccs (by simp)) (fun x hx => by rcases List.mem_singleton.mp hx with rfl; exact List.mem_of_getElem? (i := 1) rfl) at_65 (pc' := 68) rfl rfl (argsL := [(.ref b13)]) rfl rfl (rest := [(.ref b12), (.int (1 : Int32)), (.ref b1)]) rfl (wt := 3) (Nat.le_of_eq rfl) (by decide) (by decide) (by decide) (by decide) ?_
    rintro v18 T18 h18 W18 z18 ⟨rfl, Ks1, ds1, ks1, Ss1, gs1⟩
    show Go p e below _ T18 (mkF m 68 #[.val (.int cn), .val (.long x0), .second, .val (.long x1), .second, .val (.long x2), .second, .val (.int rm), .val (.int (Int32.ofNat n)), .val (.int rmv), .val (.ref b1), .unset, .unset, .unset, .unset, .unset, .unset] [(.ref b12), (.int (1 : Int32)), (.ref b1)])
    have lt_ds1 := natlt Ss1.2.2.2.lt
    have fx20 := ((((V9.ext E12).ext E13).keep K14 (ninS (ane (by omega)) nin0)).keep Ks1 (ninS (ane (by omega)) nin0))
    have fx21 := (fx15.keep Ks1)
    refine gStA W18 n0_b1 fx20 rfl (Arv.sto fx20 O1 (Ins.of_exa fx21 (w_32 hw))) rfl ⟨by decide, by decide⟩ (i := 1) (by decide) (show 1 < 3 by decide) at_68 (pc' := 69) rfl ?_
    intro T19 h19 W19 K19 V19
    replace V19 : Arv Z h19 b1 k1 (.object "java/lang/Object") (3 : Int32) [(.ref b2), (.ref b12), .null] .null := V19
    have z19 : h18.size ≤ h19.size := K19.1
    refine s_aload W19 at_69 rfl rfl (pc' := 71) rfl ?_
    refine s_iconst W19 at_71 (v := (2 : Int32)) (by decide) (pc' := 72) rfl ?_
    refine gNew W19 (w_2 hw) (w_3 hw) (w_4 hw) at_72 (pc' := 75) rfl (by decide) (by decide) ?_
    intro T22 h22 b22 g22 W22 E22 ⟨A22, D22, U22⟩
    have z22 : h19.size ≤ h22.size := E22.1
    have lt_b22 := natlt A22.lt
    have gg22 := nateq g22
    have n0_b22 : n0 ≤ b22 := by have := W19.n0le; omega
    have F22_coder : Fld Z h22 b22 "java/lang/String" "coder" "B" (.int (0 : Int32)) := D22 (Or.inr (w_29 hw)) (ty := .byte) (by decide)
    have F22_value : Fld Z h22 b22 "java/lang/String" "value" "[B" .null := D22 (Or.inr (w_31 hw)) (ty := (.array .byte)) (by decide)
    refine s_dup W22 at_75 rfl (pc' := 76) rfl ?_
    refine s_iconst W22 at_76 (v := (1 : Int32)) (by decide) (pc' := 77) rfl ?_
    refine gNewP (aty := .char) W22 (w_5 hw) (ad := "[C") (by decide +kernel) at_77 (pc' := 79) rfl (by decide) (cap := 1) (by decide) (by decide) (by decide) (by decide) ?_
    intro T23 h23 b23 g23 W23 E23 ⟨k23, V23, A23⟩
    have z23 : h22.size ≤ h23.size := E23.1
    have lt_b23 := natlt A23.lt
    have gg23 := nateq g23
    have n0_b23 : n0 ≤ b23 := by have := W22.n0le; omega
    have Vp23 : Arv Z h23 b23 k23 .char (1 : Int32) [(.int (0 : Int32))] (.int (0 : Int32)) := Arv.pad V23 (pad_rep [] (.int (0 : Int32)) 1)
    refine s_dup W23 at_79 rfl (pc' := 80) rfl ?_
    refine s_iconst W23 at_80 (v := (0 : Int32)) (by decide) (pc' := 81) rfl ?_
    refine s_bipush W23 at_81 (v := (99 : Int32)) (by decide) (pc' := 83) rfl ?_
    refine gStC W23 n0_b23 Vp23 ⟨by decide, by decide⟩ (i := 0) (by decide) (show 0 < 1 by decide) at_83 (pc' := 84) rfl ?_
    intro T24 h24 W24 K24 V24
    replace V24 : Arv Z h24 b23 k23 .char (1 : Int32) [(.int (nar .char (99 : Int32)))] (.int (0 : Int32)) := V24
    have z24 : h23.size ≤ h24.size := K24.1
    have fx25 := ((A22.ext E23).keep K24)
    have fx26 := ((F22_value.ext E23).keep K24 (ninS (ane (by omega)) nin0))
    have fx27 := ((F22_coder.ext E23).keep K24 (ninS (ane (by omega)) nin0))
    refine gSpecial W24 rfl (w_6 hw) (w_7 hw) (w_4 hw) (w_8 hw) (by decide) pd_16 (ct_str1 hw hEL [] b22 b23 k23 (1 : Int32) ccs [(nar .char (99 : Int32))] h24 (show (1 : Int32).toInt = ((1 : Nat) : Int) by decide) (show 1 ≤ 1 by decide) (by intro c hc; rcases List.mem_singleton.mp hc with rfl; decide) V24 fx25 fx26 fx27 n0_b22 SCS hccs (by simp)) (fun x hx => by rcases List.mem_singleton.mp hx with rfl; exact List.mem_of_getElem? (i := 1) rfl) at_84 (pc' := 87) rfl rfl (argsL := [(.ref b23)]) rfl rfl (rest := [(.ref b22), (.int (2 : Int32)), (.ref b1)]) rfl (wt := 3) (Nat.le_of_eq rfl) (by decide) (by decide) (by decide) (by decide) ?_
    rintro v28 T28 h28 W28 z28 ⟨rfl, Ks2, ds2, ks2, Ss2, gs2⟩
    show Go p e below _ T28 (mkF m 87 #[.val (.int cn), .val (.long x0), .second, .val (.long x1), .second, .val (.long x2), .second, .val (.int rm), .val (.int (Int32.ofNat n)), .val (.int rmv), .val (.ref b1), .unset, .unset, .unset, .unset, .unset, .unset] [(.ref b22), (.int (2 : Int32)), (.ref b1)])
    have lt_ds2 := natlt Ss2.2.2.2.lt
    have fx30 := ((((V19.ext E22).ext E23).keep K24 (ninS (ane (by omega)) nin0)).keep Ks2 (ninS (ane (by omega)) nin0))
    have fx31 := (fx25.keep Ks2)
    refine gStA W28 n0_b1 fx30 rfl (Arv.sto fx30 O1 (Ins.of_exa fx31 (w_32 hw))) rfl ⟨by decide, by decide⟩ (i := 2) (by decide) (show 2 < 3 by decide) at_87 (pc' := 88) rfl ?_
    intro T29 h29 W29 K29 V29
    replace V29 : Arv Z h29 b1 k1 (.object "java/lang/Object") (3 : Int32) [(.ref b2), (.ref b12), (.ref b22)] .null := V29
    have z29 : h28.size ≤ h29.size := K29.1
    refine s_iconst W29 at_88 (v := (3 : Int32)) (by decide) (pc' := 89) rfl ?_
    refine gNewP (aty := .long) W29 (w_33 hw) (ad := "[J") (by decide +kernel) at_89 (pc' := 91) rfl (by decide) (cap := 3) (by decide) (by decide) (by decide) (by decide) ?_
    intro T32 h32 b32 g32 W32 E32 ⟨k32, V32, A32⟩
    have z32 : h29.size ≤ h32.size := E32.1
    have lt_b32 := natlt A32.lt
    have gg32 := nateq g32
    have n0_b32 : n0 ≤ b32 := by have := W29.n0le; omega
    have Vp32 : Arv Z h32 b32 k32 .long (3 : Int32) [(.long (0 : Int64)), (.long (0 : Int64)), (.long (0 : Int64))] (.long (0 : Int64)) := Arv.pad V32 (pad_rep [] (.long (0 : Int64)) 3)
    refine s_dup W32 at_91 rfl (pc' := 92) rfl ?_
    refine s_iconst W32 at_92 (v := (0 : Int32)) (by decide) (pc' := 93) rfl ?_
    refine s_lloadN W32 at_93 rfl (pc' := 94) rfl ?_
    refine gStJ W32 n0_b32 Vp32 ⟨by decide, by decide⟩ (i := 0) (by decide) (show 0 < 3 by decide) at_94 (pc' := 95) rfl ?_
    intro T33 h33 W33 K33 V33
    replace V33 : Arv Z h33 b32 k32 .long (3 : Int32) [(.long x0), (.long (0 : Int64)), (.long (0 : Int64))] (.long (0 : Int64)) := V33
    have z33 : h32.size ≤ h33.size := K33.1
    refine s_dup W33 at_95 rfl (pc' := 96) rfl ?_
    refine s_iconst W33 at_96 (v := (1 : Int32)) (by decide) (pc' := 97) rfl ?_
    refine s_lloadN W33 at_97 rfl (pc' := 98) rfl ?_
    refine gStJ W33 n0_b32 V33 ⟨by decide, by decide⟩ (i := 1) (by decide) (show 1 < 3 by decide) at_98 (pc' := 99) rfl ?_
    intro T34 h34 W34 K34 V34
    replace V34 : Arv Z h34 b32 k32 .long (3 : Int32) [(.long x0), (.long x1), (.long (0 : Int64))] (.long (0 : Int64)) := V34
    have z34 : h33.size ≤ h34.size := K34.1
    refine s_dup W34 at_99 rfl (pc' := 100) rfl ?_
    refine s_iconst W34 at_100 (v := (2 : Int32)) (by decide) (pc' := 101) rfl ?_
    refine s_lload W34 at_101 rfl (pc' := 103) rfl ?_
    refine gStJ W34 n0_b32 V34 ⟨by decide, by decide⟩ (i := 2) (by decide) (show 2 < 3 by decide) at_103 (pc' := 104) rfl ?_
    intro T35 h35 W35 K35 V35
    replace V35 : Arv Z h35 b32 k32 .long (3 : Int32) [(.long x0), (.long x1), (.long x2)] (.long (0 : Int64)) := V35
    have z35 : h34.size ≤ h35.size := K35.1
    refine s_astore W35 at_104 rfl (l' := #[.val (.int cn), .val (.long x0), .second, .val (.long x1), .second, .val (.long x2), .second, .val (.int rm), .val (.int (Int32.ofNat n)), .val (.int rmv), .val (.ref b1), .val (.ref b32), .unset, .unset, .unset, .unset, .unset]) rfl (pc' := 106) rfl ?_
    refine gNew W35 (w_34 hw) (w_35 hw) (w_36 hw) at_106 (pc' := 109) rfl (by decide) (by decide) ?_
    intro T36 h36 b36 g36 W36 E36 ⟨A36, D36, U36⟩
    have z36 : h35.size ≤ h36.size := E36.1
    have lt_b36 := natlt A36.lt
    have gg36 := nateq g36
    have n0_b36 : n0 ≤ b36 := by have := W35.n0le; omega
    have F36_deadlines : Fld Z h36 b36 "com/example/ripen/ripen/DeadlineHeap" "deadlines" "[J" .null := D36 (Or.inl (w_45 hw)) (ty := (.array .long)) (by decide)
    have F36_handles : Fld Z h36 b36 "com/example/ripen/ripen/DeadlineHeap" "handles" "[I" .null := D36 (Or.inl (w_63 hw)) (ty := (.array .int)) (by decide)
    have F36_elements : Fld Z h36 b36 "com/example/ripen/ripen/DeadlineHeap" "elements" "[Ljava/lang/Object;" .null := D36 (Or.inl (w_66 hw)) (ty := (.array (.object "java/lang/Object"))) (by decide)
    have F36_tracker : Fld Z h36 b36 "com/example/ripen/ripen/DeadlineHeap" "tracker" "Lcom/example/ripen/ripen/DeadlineHeap$SlotTracker;" .null := D36 (Or.inr (w_68 hw)) (ty := (.object "com/example/ripen/ripen/DeadlineHeap$SlotTracker")) (by decide)
    have F36_sequences : Fld Z h36 b36 "com/example/ripen/ripen/DeadlineHeap" "sequences" "[J" .null := D36 (Or.inl (w_70 hw)) (ty := (.array .long)) (by decide)
    have F36_size : Fld Z h36 b36 "com/example/ripen/ripen/DeadlineHeap" "size" "I" (.int (0 : Int32)) := D36 (Or.inl (w_77 hw)) (ty := .int) (by decide)
    have F36_nextSequence : Fld Z h36 b36 "com/example/ripen/ripen/DeadlineHeap" "nextSequence" "J" (.long (0 : Int64)) := D36 (Or.inl (w_137 hw)) (ty := .long) (by decide)
    refine s_dup W36 at_109 rfl (pc' := 110) rfl ?_
    refine gSpecial W36 rfl (w_37 hw) (w_38 hw) (w_36 hw) (w_39 hw) (by decide) pd_17 (ct_in0 hw hEL [] b36 h36 A36 F36_deadlines F36_handles F36_elements F36_tracker F36_sequences F36_size n0_b36) (fun x hx => by rcases List.mem_singleton.mp hx with rfl; exact List.mem_of_getElem? (i := 0) rfl) at_110 (pc' := 113) rfl rfl (argsL := []) rfl rfl (rest := [(.ref b36)]) rfl (wt := 1) (Nat.le_of_eq rfl) (by decide) (by decide) (by decide) (by decide) ?_
    rintro v37 T37 h37 W37 z37 ⟨rfl, Ki, dA, hA, eA, kd, kh, ke, HX, HN, ⟨gA, gB, gC⟩, Hz, Hd, Hh, He, HO⟩
    have g_dA := natle gA
    have lt_dA := natlt Hd.lt
    have n0_dA : n0 ≤ dA := by have := W0.n0le; omega
    have g_hA := natle gB
    have lt_hA := natlt Hh.lt
    have n0_hA : n0 ≤ hA := by have := W0.n0le; omega
    have g_eA := natle gC
    have lt_eA := natlt He.lt
    have n0_eA : n0 ≤ eA := by have := W0.n0le; omega
    show Go p e below _ T37 (mkF m 113 #[.val (.int cn), .val (.long x0), .second, .val (.long x1), .second, .val (.long x2), .second, .val (.int rm), .val (.int (Int32.ofNat n)), .val (.int rmv), .val (.ref b1), .val (.ref b32), .unset, .unset, .unset, .unset, .unset] [(.ref b36)])
    refine s_astore W37 at_113 rfl (l' := #[.val (.int cn), .val (.long x0), .second, .val (.long x1), .second, .val (.long x2), .second, .val (.int rm), .val (.int (Int32.ofNat n)), .val (.int rmv), .val (.ref b1), .val (.ref b32), .val (.ref b36), .unset, .unset, .unset, .unset]) rfl (pc' := 115) rfl ?_
    have d01 : b2 ≠ b12 := ane (by omega)
    have d02 : b2 ≠ b22 := ane (by omega)
    have d12 : b12 ≠ b22 := ane (by omega)
    have fx38 := (((((((((((((((((fx11.keep K9).ext E12).ext E13).keep K14).keep Ks1).keep K19).ext E22).ext E23).keep K24).keep Ks2).keep K29).ext E32).keep K33).keep K34).keep K35).ext E36).keep Ki)
    have fx39 := ((((((((((((fx21.keep K19).ext E22).ext E23).keep K24).keep Ks2).keep K29).ext E32).keep K33).keep K34).keep K35).ext E36).keep Ki)
    have fx40 := (((((((fx31.keep K29).ext E32).keep K33).keep K34).keep K35).ext E36).keep Ki)
    have fx41 := ((((((V29.ext E32).keep K33 (ninS (ane (by omega)) nin0)).keep K34 (ninS (ane (by omega)) nin0)).keep K35 (ninS (ane (by omega)) nin0)).ext E36).keep Ki (ninS (ane (by omega)) nin0))
    have fx42 := ((V35.ext E36).keep Ki (ninS (ane (by omega)) nin0))
    have tailB : ∀ (T : State) (h : Heap) (k : Nat) (gone : Int32) (tf : Nat → Nat) (hs es : List Value), Wk p l e room_1 s m #[(.int cn), (.long x0), (.long x1), (.long x2), (.int rm)] below meth c Z a0 EL0 n0 false false "com/example/ripen/ripen/DeadlineHeapToArrayPinLaw" code maxLocals [b36, b32, b23, b22, b13, b12, b3, b2, b1] T h 16 79 → HF Z h b36 dA hA eA → Fld Z h b36 "com/example/ripen/ripen/DeadlineHeap" "size" "I" (.int (Int32.ofNat k)) → Arv Z h hA kh .int 16 hs (.int 0) → Arv Z h eA ke (.object "java/lang/Object") 16 es .null → Arv Z h b1 k1 (.object "java/lang/Object") 3 [.ref b2, .ref b12, .ref b22] .null → Arv Z h b32 k32 .long 3 ([x0, x1, x2].map Value.long) (.long 0) → Exa Z h b2 "java/lang/String" → Exa Z h b12 "java/lang/String" → Exa Z h b22 "java/lang/String" → k ≤ n → (∀ i, i < k → hs.getD i (.int 0) = .int (Int32.ofNat (tf i)) ∧ tf i < n ∧ ¬ Int32.ofNat (tf i) = gone ∧ es.getD (tf i) .null = .ref (pkA (tf i) b2 b12 b22)) → (∀ i j, i < k → j < k → tf i = tf j → i = j) → (0 < k → ∀ t, t < n → ¬ Int32.ofNat t = gone → [x0, x1, x2].getD (tf 0) 0 ≤ [x0, x1, x2].getD t 0) → Go p e below (Po s Z EL0 n0 false room_1.cells room_1.slots (Q_law Z n0 cn x0 x1 x2 rm ccs h0)) T (mkF m 223 #[.val (.int cn), .val (.long x0), .second, .val (.long x1), .second, .val (.long x2), .second, .val (.int rm), .val (.int (Int32.ofNat n)), .val (.int rmv), .val (.ref b1), .val (.ref b32), .val (.ref b36), .val (.int gone), .val (.int (Int32.ofNat k)), .unset, .unset] []) := by
      intro T h k gone tf hs es Wt X Fz Vh Ve Vl Vx Y0 Y1 Y2 hkn HH INJ MIN
      have tk : (Int32.ofNat k).toInt = k := ofN (by omega)
      have lt3 : ∀ i, i < k → tf i < 3 := fun i q => by have := (HH i q).2.1; omega
      refine s_aload Wt at_223 rfl rfl (pc' := 225) rfl ?_
      refine gVirtual Wt X.1 (w_71 hw) (w_72 hw) (fun s hZ => notFace_of_selects (args := #[]) (mv hZ (w_74 hw))) (w_74 hw) (w_73 hw) (w_36 hw) (w_75 hw) (by decide) pd_18 (ct_ta hw hEL [] b36 dA hA eA kh ke k tf (fun i => pkA (tf i) b2 b12 b22) hs es h X Vh Ve Fz (by omega) (fun i q => ⟨(HH i q).1, by have := (HH i q).2.1; omega, (HH i q).2.2.2, exaP (tf i) Y0 Y1 Y2⟩)) (by simp) at_225 (pc' := 228) rfl rfl (argsL := []) rfl rfl (rest := []) rfl (wt := 0) (Nat.le_of_eq rfl) (by decide) (by decide) (by decide) (by decide) ?_
      rintro v43 T43 h43 W43 z43 ⟨cA, kc, rfl, Kt, gt, Vc⟩
      show Go p e below _ T43 (mkF m 228 #[.val (.int cn), .val (.long x0), .second, .val (.long x1), .second, .val (.long x2), .second, .val (.int rm), .val (.int (Int32.ofNat n)), .val (.int rmv), .val (.ref b1), .val (.ref b32), .val (.ref b36), .val (.int gone), .val (.int (Int32.ofNat k)), .unset, .unset] [(.ref cA)])
      have fx44 := (X.keep Kt nin0)
      have fx45 := (Vh.keep Kt nin0)
      have fx46 := (Ve.keep Kt nin0)
      have fx47 := (Vl.keep Kt nin0)
      have fx48 := (Vx.keep Kt nin0)
      refine s_astore W43 at_228 rfl (l' := #[.val (.int cn), .val (.long x0), .second, .val (.long x1), .second, .val (.long x2), .second, .val (.int rm), .val (.int (Int32.ofNat n)), .val (.int rmv), .val (.ref b1), .val (.ref b32), .val (.ref b36), .val (.int gone), .val (.int (Int32.ofNat k)), .val (.ref cA), .unset]) rfl (pc' := 230) rfl ?_
      refine s_aload W43 at_230 rfl rfl (pc' := 232) rfl ?_
      refine gLen W43 Vc at_232 (pc' := 233) rfl ?_
      refine s_iload W43 at_233 rfl (pc' := 235) rfl ?_
      refine s_icmpeq W43 at_235 (by decide) (pc1 := 240) (by decide) (pc2 := 238) rfl ?_ (fun q => (q rfl).elim)
      intro q235
      refine s_aload W43 at_240 rfl rfl (pc' := 242) rfl ?_
      refine s_aload W43 at_242 rfl rfl (pc' := 244) rfl ?_
      refine s_iconst W43 at_244 (v := (0 : Int32)) (by decide) (pc' := 245) rfl ?_
      refine s_iload W43 at_245 rfl (pc' := 247) rfl ?_
      refine s_aload W43 at_247 rfl rfl (pc' := 249) rfl ?_
      refine s_iload W43 at_249 rfl (pc' := 251) rfl ?_
      refine s_iload W43 at_251 rfl (pc' := 253) rfl ?_
      refine gStatic W43 (w_78 hw) (w_79 hw) (w_80 hw) (w_81 hw) (by decide) pd_19 (ct_sok hw hEL [] b36 dA hA eA kh ke cA kc b1 k1 b2 b12 b22 (0 : Int32) (Int32.ofNat k) (Int32.ofNat n) gone 0 k n hs es ((List.range k).map fun i => Value.ref (pkA (tf i) b2 b12 b22)) h43 fx44 fx45 fx46 Vc fx47 d01 d02 d12 (by decide) tk tn hn3 (by omega) (fun q => ⟨tf 0, getD_rng (fun i => Value.ref (pkA (tf i) b2 b12 b22)) _ q, (HH 0 q).1, (HH 0 q).2.1, (HH 0 q).2.2.1, (HH 0 q).2.2.2⟩)) (by simp) at_253 (pc' := 256) rfl rfl (argsL := [(.ref b36), (.ref cA), (.int (0 : Int32)), (.int (Int32.ofNat k)), (.ref b1), (.int (Int32.ofNat n)), (.int gone)]) rfl rfl (rest := []) rfl (wt := 0) (Nat.le_of_eq rfl) (by decide) (by decide) (by decide) (by decide) ?_
      rintro v49 T49 h49 W49 z49 ⟨rfl, rfl⟩
      show Go p e below _ T49 (mkF m 256 #[.val (.int cn), .val (.long x0), .second, .val (.long x1), .second, .val (.long x2), .second, .val (.int rm), .val (.int (Int32.ofNat n)), .val (.int rmv), .val (.ref b1), .val (.ref b32), .val (.ref b36), .val (.int gone), .val (.int (Int32.ofNat k)), .val (.ref cA), .unset] [(.int (1 : Int32))])
      refine s_ifne W49 at_256 (by decide) (pc1 := 261) (by decide) (pc2 := 259) rfl ?_ (fun q => absurd q (by decide))
      intro q256
      refine s_aload W49 at_261 rfl rfl (pc' := 263) rfl ?_
      refine s_aload W49 at_263 rfl rfl (pc' := 265) rfl ?_
      refine s_iconst W49 at_265 (v := (1 : Int32)) (by decide) (pc' := 266) rfl ?_
      refine s_iload W49 at_266 rfl (pc' := 268) rfl ?_
      refine s_aload W49 at_268 rfl rfl (pc' := 270) rfl ?_
      refine s_iload W49 at_270 rfl (pc' := 272) rfl ?_
      refine s_iload W49 at_272 rfl (pc' := 274) rfl ?_
      refine gStatic W49 (w_78 hw) (w_79 hw) (w_80 hw) (w_81 hw) (by decide) pd_19 (ct_sok hw hEL [] b36 dA hA eA kh ke cA kc b1 k1 b2 b12 b22 (1 : Int32) (Int32.ofNat k) (Int32.ofNat n) gone 1 k n hs es ((List.range k).map fun i => Value.ref (pkA (tf i) b2 b12 b22)) h43 fx44 fx45 fx46 Vc fx47 d01 d02 d12 (by decide) tk tn hn3 (by omega) (fun q => ⟨tf 1, getD_rng (fun i => Value.ref (pkA (tf i) b2 b12 b22)) _ q, (HH 1 q).1, (HH 1 q).2.1, (HH 1 q).2.2.1, (HH 1 q).2.2.2⟩)) (by simp) at_274 (pc' := 277) rfl rfl (argsL := [(.ref b36), (.ref cA), (.int (1 : Int32)), (.int (Int32.ofNat k)), (.ref b1), (.int (Int32.ofNat n)), (.int gone)]) rfl rfl (rest := []) rfl (wt := 0) (Nat.le_of_eq rfl) (by decide) (by decide) (by decide) (by decide) ?_
      rintro v50 T50 h50 W50 z50 ⟨rfl, rfl⟩
      show Go p e below _ T50 (mkF m 277 #[.val (.int cn), .val (.long x0), .second, .val (.long x1), .second, .val (.long x2), .second, .val (.int rm), .val (.int (Int32.ofNat n)), .val (.int rmv), .val (.ref b1), .val (.ref b32), .val (.ref b36), .val (.int gone), .val (.int (Int32.ofNat k)), .val (.ref cA), .unset] [(.int (1 : Int32))])
      refine s_ifne W50 at_277 (by decide) (pc1 := 282) (by decide) (pc2 := 280) rfl ?_ (fun q => absurd q (by decide))
      intro q277
      refine s_aload W50 at_282 rfl rfl (pc' := 284) rfl ?_
      refine s_aload W50 at_284 rfl rfl (pc' := 286) rfl ?_
      refine s_iconst W50 at_286 (v := (2 : Int32)) (by decide) (pc' := 287) rfl ?_
      refine s_iload W50 at_287 rfl (pc' := 289) rfl ?_
      refine s_aload W50 at_289 rfl rfl (pc' := 291) rfl ?_
      refine s_iload W50 at_291 rfl (pc' := 293) rfl ?_
      refine s_iload W50 at_293 rfl (pc' := 295) rfl ?_
      refine gStatic W50 (w_78 hw) (w_79 hw) (w_80 hw) (w_81 hw) (by decide) pd_19 (ct_sok hw hEL [] b36 dA hA eA kh ke cA kc b1 k1 b2 b12 b22 (2 : Int32) (Int32.ofNat k) (Int32.ofNat n) gone 2 k n hs es ((List.range k).map fun i => Value.ref (pkA (tf i) b2 b12 b22)) h43 fx44 fx45 fx46 Vc fx47 d01 d02 d12 (by decide) tk tn hn3 (by omega) (fun q => ⟨tf 2, getD_rng (fun i => Value.ref (pkA (tf i) b2 b12 b22)) _ q, (HH 2 q).1, (HH 2 q).2.1, (HH 2 q).2.2.1, (HH 2 q).2.2.2⟩)) (by simp) at_295 (pc' := 298) rfl rfl (argsL := [(.ref b36), (.ref cA), (.int (2 : Int32)), (.int (Int32.ofNat k)), (.ref b1), (.int (Int32.ofNat n)), (.int gone)]) rfl rfl (rest := []) rfl (wt := 0) (Nat.le_of_eq rfl) (by decide) (by decide) (by decide) (by decide) ?_
      rintro v51 T51 h51 W51 z51 ⟨rfl, rfl⟩
      show Go p e below _ T51 (mkF m 298 #[.val (.int cn), .val (.long x0), .second, .val (.long x1), .second, .val (.long x2), .second, .val (.int rm), .val (.int (Int32.ofNat n)), .val (.int rmv), .val (.ref b1), .val (.ref b32), .val (.ref b36), .val (.int gone), .val (.int (Int32.ofNat k)), .val (.ref cA), .unset] [(.int (1 : Int32))])
      refine s_ifne W51 at_298 (by decide) (pc1 := 303) (by decide) (pc2 := 301) rfl ?_ (fun q => absurd q (by decide))
      intro q298
      have tailD : Go p e below (Po s Z EL0 n0 false room_1.cells room_1.slots (Q_law Z n0 cn x0 x1 x2 rm ccs h0)) T51 (mkF m 352 #[.val (.int cn), .val (.long x0), .second, .val (.long x1), .second, .val (.long x2), .second, .val (.int rm), .val (.int (Int32.ofNat n)), .val (.int rmv), .val (.ref b1), .val (.ref b32), .val (.ref b36), .val (.int gone), .val (.int (Int32.ofNat k)), .val (.ref cA), .unset] []) := by
        refine s_iload W51 at_352 rfl (pc' := 354) rfl ?_
        refine s_ifle W51 at_354 (by decide) (pc1 := 421) (by decide) (pc2 := 357) rfl ?_ ?_
        · intro q354
          refine s_iconst W51 at_421 (v := (1 : Int32)) (by decide) (pc' := 422) rfl ?_
          exact gRetN W51 hret (by simp) at_422 (by decide) (by decide) rfl
        · intro q354
          have k0 : 0 < k := by have := Int32.lt_iff_toInt_lt.mp q354; rw [tk, show (0 : Int32).toInt = 0 from by decide] at this; omega
          refine s_aload W51 at_357 rfl rfl (pc' := 359) rfl ?_
          refine s_iconst W51 at_359 (v := (0 : Int32)) (by decide) (pc' := 360) rfl ?_
          refine gLdA W51 Vc rfl (idxN (i := (0 : Int32)) (j := 0) (by decide) tk (by omega)).1 (v := (.ref (pkA (tf 0) b2 b12 b22))) (by rw [(idxN (i := (0 : Int32)) (j := 0) (by decide) tk (by omega)).2]; exact getD_rng (fun i => Value.ref (pkA (tf i) b2 b12 b22)) _ (by omega)) at_360 (pc' := 361) rfl ?_
          refine s_aload W51 at_361 rfl rfl (pc' := 363) rfl ?_
          refine s_iload W51 at_363 rfl (pc' := 365) rfl ?_
          refine gStatic W51 (w_125 hw) (w_126 hw) (w_80 hw) (w_127 hw) (by decide) pd_15 (ct_fnd hw hEL [] b1 k1 b2 b12 b22 (Int32.ofNat n) n (tf 0) h43 d01 d02 d12 fx47 tn hn3 (HH 0 k0).2.1) (by simp) at_365 (pc' := 368) rfl rfl (argsL := [(.ref (pkA (tf 0) b2 b12 b22)), (.ref b1), (.int (Int32.ofNat n))]) rfl rfl (rest := []) rfl (wt := 0) (Nat.le_of_eq rfl) (by decide) (by decide) (by decide) (by decide) ?_
          rintro v52 T52 h52 W52 z52 ⟨rfl, rfl⟩
          show Go p e below _ T52 (mkF m 368 #[.val (.int cn), .val (.long x0), .second, .val (.long x1), .second, .val (.long x2), .second, .val (.int rm), .val (.int (Int32.ofNat n)), .val (.int rmv), .val (.ref b1), .val (.ref b32), .val (.ref b36), .val (.int gone), .val (.int (Int32.ofNat k)), .val (.ref cA), .unset] [(.int (Int32.ofNat (tf 0)))])
          refine s_istore W52 at_368 (l' := #[.val (.int cn), .val (.long x0), .second, .val (.long x1), .second, .val (.long x2), .second, .val (.int rm), .val (.int (Int32.ofNat n)), .val (.int rmv), .val (.ref b1), .val (.ref b32), .val (.ref b36), .val (.int gone), .val (.int (Int32.ofNat k)), .val (.ref cA), .val (.int (Int32.ofNat (tf 0)))]) rfl (pc' := 370) rfl ?_
          refine s_aload W52 at_370 rfl rfl (pc' := 372) rfl ?_
          refine s_iload W52 at_372 rfl (pc' := 374) rfl ?_
          refine s_iconst W52 at_374 (v := (0 : Int32)) (by decide) (pc' := 375) rfl ?_
          refine s_iload W52 at_375 rfl (pc' := 377) rfl ?_
          refine s_iload W52 at_377 rfl (pc' := 379) rfl ?_
          refine gStatic W52 (w_129 hw) (w_130 hw) (w_80 hw) (w_131 hw) (by decide) pd_20 (ct_mok hw hEL [] b32 k32 (Int32.ofNat (tf 0)) (0 : Int32) (Int32.ofNat n) gone (tf 0) 0 n [x0, x1, x2] h43 fx48 (ofN (by have := lt3 0 k0; omega)) (lt3 0 k0) (by decide) tn hn3 (fun q r => MIN k0 0 q r)) (by simp) at_379 (pc' := 382) rfl rfl (argsL := [(.ref b32), (.int (Int32.ofNat (tf 0))), (.int (0 : Int32)), (.int (Int32.ofNat n)), (.int gone)]) rfl rfl (rest := []) rfl (wt := 0) (Nat.le_of_eq rfl) (by decide) (by decide) (by decide) (by decide) ?_
          rintro v53 T53 h53 W53 z53 ⟨rfl, rfl⟩
          show Go p e below _ T53 (mkF m 382 #[.val (.int cn), .val (.long x0), .second, .val (.long x1), .second, .val (.long x2), .second, .val (.int rm), .val (.int (Int32.ofNat n)), .val (.int rmv), .val (.ref b1), .val (.ref b32), .val (.ref b36), .val (.int gone), .val (.int (Int32.ofNat k)), .val (.ref cA), .val (.int (Int32.ofNat (tf 0)))] [(.int (1 : Int32))])
          refine s_ifne W53 at_382 (by decide) (pc1 := 387) (by decide) (pc2 := 385) rfl ?_ (fun q => absurd q (by decide))
          intro q382
          refine s_aload W53 at_387 rfl rfl (pc' := 389) rfl ?_
          refine s_iload W53 at_389 rfl (pc' := 391) rfl ?_
          refine s_iconst W53 at_391 (v := (1 : Int32)) (by decide) (pc' := 392) rfl ?_
          refine s_iload W53 at_392 rfl (pc' := 394) rfl ?_
          refine s_iload W53 at_394 rfl (pc' := 396) rfl ?_
          refine gStatic W53 (w_129 hw) (w_130 hw) (w_80 hw) (w_131 hw) (by decide) pd_20 (ct_mok hw hEL [] b32 k32 (Int32.ofNat (tf 0)) (1 : Int32) (Int32.ofNat n) gone (tf 0) 1 n [x0, x1, x2] h43 fx48 (ofN (by have := lt3 0 k0; omega)) (lt3 0 k0) (by decide) tn hn3 (fun q r => MIN k0 1 q r)) (by simp) at_396 (pc' := 399) rfl rfl (argsL := [(.ref b32), (.int (Int32.ofNat (tf 0))), (.int (1 : Int32)), (.int (Int32.ofNat n)), (.int gone)]) rfl rfl (rest := []) rfl (wt := 0) (Nat.le_of_eq rfl) (by decide) (by decide) (by decide) (by decide) ?_
          rintro v54 T54 h54 W54 z54 ⟨rfl, rfl⟩
          show Go p e below _ T54 (mkF m 399 #[.val (.int cn), .val (.long x0), .second, .val (.long x1), .second, .val (.long x2), .second, .val (.int rm), .val (.int (Int32.ofNat n)), .val (.int rmv), .val (.ref b1), .val (.ref b32), .val (.ref b36), .val (.int gone), .val (.int (Int32.ofNat k)), .val (.ref cA), .val (.int (Int32.ofNat (tf 0)))] [(.int (1 : Int32))])
          refine s_ifne W54 at_399 (by decide) (pc1 := 404) (by decide) (pc2 := 402) rfl ?_ (fun q => absurd q (by decide))
          intro q399
          refine s_aload W54 at_404 rfl rfl (pc' := 406) rfl ?_
          refine s_iload W54 at_406 rfl (pc' := 408) rfl ?_
          refine s_iconst W54 at_408 (v := (2 : Int32)) (by decide) (pc' := 409) rfl ?_
          refine s_iload W54 at_409 rfl (pc' := 411) rfl ?_
          refine s_iload W54 at_411 rfl (pc' := 413) rfl ?_
          refine gStatic W54 (w_129 hw) (w_130 hw) (w_80 hw) (w_131 hw) (by decide) pd_20 (ct_mok hw hEL [] b32 k32 (Int32.ofNat (tf 0)) (2 : Int32) (Int32.ofNat n) gone (tf 0) 2 n [x0, x1, x2] h43 fx48 (ofN (by have := lt3 0 k0; omega)) (lt3 0 k0) (by decide) tn hn3 (fun q r => MIN k0 2 q r)) (by simp) at_413 (pc' := 416) rfl rfl (argsL := [(.ref b32), (.int (Int32.ofNat (tf 0))), (.int (2 : Int32)), (.int (Int32.ofNat n)), (.int gone)]) rfl rfl (rest := []) rfl (wt := 0) (Nat.le_of_eq rfl) (by decide) (by decide) (by decide) (by decide) ?_
          rintro v55 T55 h55 W55 z55 ⟨rfl, rfl⟩
          show Go p e below _ T55 (mkF m 416 #[.val (.int cn), .val (.long x0), .second, .val (.long x1), .second, .val (.long x2), .second, .val (.int rm), .val (.int (Int32.ofNat n)), .val (.int rmv), .val (.ref b1), .val (.ref b32), .val (.ref b36), .val (.int gone), .val (.int (Int32.ofNat k)), .val (.ref cA), .val (.int (Int32.ofNat (tf 0)))] [(.int (1 : Int32))])
          refine s_ifne W55 at_416 (by decide) (pc1 := 421) (by decide) (pc2 := 419) rfl ?_ (fun q => absurd q (by decide))
          intro q416
          refine s_iconst W55 at_421 (v := (1 : Int32)) (by decide) (pc' := 422) rfl ?_
          exact gRetN W55 hret (by simp) at_422 (by decide) (by decide) rfl
      have tailE : Go p e below (Po s Z EL0 n0 false room_1.cells room_1.slots (Q_law Z n0 cn x0 x1 x2 rm ccs h0)) T51 (mkF m 322 #[.val (.int cn), .val (.long x0), .second, .val (.long x1), .second, .val (.long x2), .second, .val (.int rm), .val (.int (Int32.ofNat n)), .val (.int rmv), .val (.ref b1), .val (.ref b32), .val (.ref b36), .val (.int gone), .val (.int (Int32.ofNat k)), .val (.ref cA), .unset] []) := by
        refine s_iload W51 at_322 rfl (pc' := 324) rfl ?_
        refine s_iconst W51 at_324 (v := (2 : Int32)) (by decide) (pc' := 325) rfl ?_
        refine s_icmple W51 at_325 (by decide) (pc1 := 352) (by decide) (pc2 := 328) rfl ?_ ?_
        · intro q325
          exact tailD
        · intro q325
          have k2 : 2 < k := by have := Int32.lt_iff_toInt_lt.mp q325; rw [tk, show (2 : Int32).toInt = 2 from by decide] at this; omega
          refine s_aload W51 at_328 rfl rfl (pc' := 330) rfl ?_
          refine s_iconst W51 at_330 (v := (0 : Int32)) (by decide) (pc' := 331) rfl ?_
          refine gLdA W51 Vc rfl (idxN (i := (0 : Int32)) (j := 0) (by decide) tk (by omega)).1 (v := (.ref (pkA (tf 0) b2 b12 b22))) (by rw [(idxN (i := (0 : Int32)) (j := 0) (by decide) tk (by omega)).2]; exact getD_rng (fun i => Value.ref (pkA (tf i) b2 b12 b22)) _ (by omega)) at_331 (pc' := 332) rfl ?_
          refine s_aload W51 at_332 rfl rfl (pc' := 334) rfl ?_
          refine s_iconst W51 at_334 (v := (2 : Int32)) (by decide) (pc' := 335) rfl ?_
          refine gLdA W51 Vc rfl (idxN (i := (2 : Int32)) (j := 2) (by decide) tk (by omega)).1 (v := (.ref (pkA (tf 2) b2 b12 b22))) (by rw [(idxN (i := (2 : Int32)) (j := 2) (by decide) tk (by omega)).2]; exact getD_rng (fun i => Value.ref (pkA (tf i) b2 b12 b22)) _ (by omega)) at_335 (pc' := 336) rfl ?_
          refine s_acmpeq W51 at_336 rfl rfl (by decide) (pc1 := 350) (by decide) (pc2 := 339) rfl (fun q => absurd q (fun q' => absurd (INJ 0 2 (by omega) (by omega) (pkA_inj d01 d02 d12 (lt3 0 (by omega)) (lt3 2 (by omega)) (Value.ref.inj q'))) (by decide))) ?_
          intro q336
          refine s_aload W51 at_339 rfl rfl (pc' := 341) rfl ?_
          refine s_iconst W51 at_341 (v := (1 : Int32)) (by decide) (pc' := 342) rfl ?_
          refine gLdA W51 Vc rfl (idxN (i := (1 : Int32)) (j := 1) (by decide) tk (by omega)).1 (v := (.ref (pkA (tf 1) b2 b12 b22))) (by rw [(idxN (i := (1 : Int32)) (j := 1) (by decide) tk (by omega)).2]; exact getD_rng (fun i => Value.ref (pkA (tf i) b2 b12 b22)) _ (by omega)) at_342 (pc' := 343) rfl ?_
          refine s_aload W51 at_343 rfl rfl (pc' := 345) rfl ?_
          refine s_iconst W51 at_345 (v := (2 : Int32)) (by decide) (pc' := 346) rfl ?_
          refine gLdA W51 Vc rfl (idxN (i := (2 : Int32)) (j := 2) (by decide) tk (by omega)).1 (v := (.ref (pkA (tf 2) b2 b12 b22))) (by rw [(idxN (i := (2 : Int32)) (j := 2) (by decide) tk (by omega)).2]; exact getD_rng (fun i => Value.ref (pkA (tf i) b2 b12 b22)) _ (by omega)) at_346 (pc' := 347) rfl ?_
          refine s_acmpne W51 at_347 rfl rfl (by decide) (pc1 := 352) (by decide) (pc2 := 350) rfl ?_ (fun q => absurd q (fun q' => absurd (INJ 1 2 (by omega) (by omega) (pkA_inj d01 d02 d12 (lt3 1 (by omega)) (lt3 2 (by omega)) (Value.ref.inj q'))) (by decide)))
          intro q347
          exact tailD
      refine s_iload W51 at_303 rfl (pc' := 305) rfl ?_
      refine s_iconst W51 at_305 (v := (1 : Int32)) (by decide) (pc' := 306) rfl ?_
      refine s_icmple W51 at_306 (by decide) (pc1 := 322) (by decide) (pc2 := 309) rfl ?_ ?_
      · intro q306
        exact tailE
      · intro q306
        have k1 : 1 < k := by have := Int32.lt_iff_toInt_lt.mp q306; rw [tk, show (1 : Int32).toInt = 1 from by decide] at this; omega
        refine s_aload W51 at_309 rfl rfl (pc' := 311) rfl ?_
        refine s_iconst W51 at_311 (v := (0 : Int32)) (by decide) (pc' := 312) rfl ?_
        refine gLdA W51 Vc rfl (idxN (i := (0 : Int32)) (j := 0) (by decide) tk (by omega)).1 (v := (.ref (pkA (tf 0) b2 b12 b22))) (by rw [(idxN (i := (0 : Int32)) (j := 0) (by decide) tk (by omega)).2]; exact getD_rng (fun i => Value.ref (pkA (tf i) b2 b12 b22)) _ (by omega)) at_312 (pc' := 313) rfl ?_
        refine s_aload W51 at_313 rfl rfl (pc' := 315) rfl ?_
        refine s_iconst W51 at_315 (v := (1 : Int32)) (by decide) (pc' := 316) rfl ?_
        refine gLdA W51 Vc rfl (idxN (i := (1 : Int32)) (j := 1) (by decide) tk (by omega)).1 (v := (.ref (pkA (tf 1) b2 b12 b22))) (by rw [(idxN (i := (1 : Int32)) (j := 1) (by decide) tk (by omega)).2]; exact getD_rng (fun i => Value.ref (pkA (tf i) b2 b12 b22)) _ (by omega)) at_316 (pc' := 317) rfl ?_
        refine s_acmpne W51 at_317 rfl rfl (by decide) (pc1 := 322) (by decide) (pc2 := 320) rfl ?_ (fun q => absurd q (fun q' => absurd (INJ 0 1 (by omega) (by omega) (pkA_inj d01 d02 d12 (lt3 0 (by omega)) (lt3 1 (by omega)) (Value.ref.inj q'))) (by decide)))
        intro q317
        exact tailE
    rcases (by omega : n = 0 ∨ n = 1 ∨ n = 2 ∨ n = 3) with rfl | rfl | rfl | rfl
    · show Go p e below _ T37 (mkF m 115 #[.val (.int cn), .val (.long x0), .second, .val (.long x1), .second, .val (.long x2), .second, .val (.int rm), .val (.int (0 : Int32)), .val (.int rmv), .val (.ref b1), .val (.ref b32), .val (.ref b36), .unset, .unset, .unset, .unset] [])
      refine s_iload W37 at_115 rfl (pc' := 117) rfl ?_
      refine s_ifle W37 at_117 (by decide) (pc1 := 131) (by decide) (pc2 := 120) rfl ?_ (fun q => absurd q (by decide))
      intro q117
      refine s_iload W37 at_131 rfl (pc' := 133) rfl ?_
      refine s_iconst W37 at_133 (v := (1 : Int32)) (by decide) (pc' := 134) rfl ?_
      refine s_icmple W37 at_134 (by decide) (pc1 := 148) (by decide) (pc2 := 137) rfl ?_ (fun q => absurd q (by decide))
      intro q134
      refine s_iload W37 at_148 rfl (pc' := 150) rfl ?_
      refine s_iconst W37 at_150 (v := (2 : Int32)) (by decide) (pc' := 151) rfl ?_
      refine s_icmple W37 at_151 (by decide) (pc1 := 166) (by decide) (pc2 := 154) rfl ?_ (fun q => absurd q (by decide))
      intro q151
      refine s_iconst W37 at_166 (v := (-1 : Int32)) (by decide) (pc' := 167) rfl ?_
      refine s_istore W37 at_167 (l' := #[.val (.int cn), .val (.long x0), .second, .val (.long x1), .second, .val (.long x2), .second, .val (.int rm), .val (.int (0 : Int32)), .val (.int rmv), .val (.ref b1), .val (.ref b32), .val (.ref b36), .val (.int (-1 : Int32)), .unset, .unset, .unset]) rfl (pc' := 169) rfl ?_
      refine s_iload W37 at_169 rfl (pc' := 171) rfl ?_
      refine s_ifeq W37 at_171 (by decide) (pc1 := 207) (by decide) (pc2 := 174) rfl ?_ (fun q => (hrmv.elim q (fun r => absurd r.2 (by decide))).elim)
      intro q171
      refine s_iload W37 at_207 rfl (pc' := 209) rfl ?_
      refine s_ifeq W37 at_209 (by decide) (pc1 := 219) (by decide) (pc2 := 212) rfl ?_ (fun q => (q q171).elim)
      intro q209
      refine s_iload W37 at_219 rfl (pc' := 221) rfl ?_
      refine s_istore W37 at_221 (l' := #[.val (.int cn), .val (.long x0), .second, .val (.long x1), .second, .val (.long x2), .second, .val (.int rm), .val (.int (0 : Int32)), .val (.int rmv), .val (.ref b1), .val (.ref b32), .val (.ref b36), .val (.int (-1 : Int32)), .val (.int (0 : Int32)), .unset, .unset]) rfl (pc' := 223) rfl ?_
      exact tailB T37 h37 0 (-1 : Int32) (fun i => [0, 1, 2].getD i 0) [(.int (0 : Int32)), (.int (1 : Int32)), (.int (2 : Int32)), (.int (3 : Int32)), (.int (4 : Int32)), (.int (5 : Int32)), (.int (6 : Int32)), (.int (7 : Int32)), (.int (8 : Int32)), (.int (9 : Int32)), (.int (10 : Int32)), (.int (11 : Int32)), (.int (12 : Int32)), (.int (13 : Int32)), (.int (14 : Int32)), (.int (15 : Int32))] [.null, .null, .null, .null, .null, .null, .null, .null, .null, .null, .null, .null, .null, .null, .null, .null] W37 HX Hz Hh He fx41 fx42 fx38 fx39 fx40 (by decide) (by intro i hi; rcases (by omega : i = 0 ∨ i = 1 ∨ i = 2) with rfl | rfl | rfl <;> first | (exact absurd hi (by decide)) | exact ⟨rfl, by decide, by decide, rfl⟩) (by intro i j hi hj q; rcases (by omega : i = 0 ∨ i = 1 ∨ i = 2) with rfl | rfl | rfl <;> rcases (by omega : j = 0 ∨ j = 1 ∨ j = 2) with rfl | rfl | rfl <;> first | rfl | exact absurd q (by decide) | (exact absurd hi (by decide)) | (exact absurd hj (by decide))) (fun q => absurd q (by decide))
    · show Go p e below _ T37 (mkF m 115 #[.val (.int cn), .val (.long x0), .second, .val (.long x1), .second, .val (.long x2), .second, .val (.int rm), .val (.int (1 : Int32)), .val (.int rmv), .val (.ref b1), .val (.ref b32), .val (.ref b36), .unset, .unset, .unset, .unset] [])
      refine s_iload W37 at_115 rfl (pc' := 117) rfl ?_
      refine s_ifle W37 at_117 (by decide) (pc1 := 131) (by decide) (pc2 := 120) rfl (fun q => absurd q (by decide)) ?_
      intro q117
      refine s_aload W37 at_120 rfl rfl (pc' := 122) rfl ?_
      refine s_aload W37 at_122 rfl rfl (pc' := 124) rfl ?_
      refine s_iconst W37 at_124 (v := (0 : Int32)) (by decide) (pc' := 125) rfl ?_
      refine gLdA W37 fx41 rfl ⟨by decide, by decide⟩ (v := (.ref b2)) rfl at_125 (pc' := 126) rfl ?_
      refine s_lloadN W37 at_126 rfl (pc' := 127) rfl ?_
      refine gVirtual W37 HX.1 (w_82 hw) (w_83 hw) (fun s hZ => notFace_of_selects (args := #[]) (mv hZ (w_85 hw))) (w_85 hw) (w_84 hw) (w_36 hw) (w_86 hw) (by decide) pd_21 (ct_ins0 hw hEL [] b36 dA hA eA b2 kd kh ke x0 [(.long (0 : Int64)), (.long (0 : Int64)), (.long (0 : Int64)), (.long (0 : Int64)), (.long (0 : Int64)), (.long (0 : Int64)), (.long (0 : Int64)), (.long (0 : Int64)), (.long (0 : Int64)), (.long (0 : Int64)), (.long (0 : Int64)), (.long (0 : Int64)), (.long (0 : Int64)), (.long (0 : Int64)), (.long (0 : Int64)), (.long (0 : Int64))] [(.int (0 : Int32)), (.int (1 : Int32)), (.int (2 : Int32)), (.int (3 : Int32)), (.int (4 : Int32)), (.int (5 : Int32)), (.int (6 : Int32)), (.int (7 : Int32)), (.int (8 : Int32)), (.int (9 : Int32)), (.int (10 : Int32)), (.int (11 : Int32)), (.int (12 : Int32)), (.int (13 : Int32)), (.int (14 : Int32)), (.int (15 : Int32))] [.null, .null, .null, .null, .null, .null, .null, .null, .null, .null, .null, .null, .null, .null, .null, .null] h37 HX HN n0_b36 n0_dA n0_hA n0_eA Hd Hh He HO fx38 Hz rfl rfl rfl rfl) (by simp) at_127 (pc' := 130) rfl rfl (argsL := [(.ref b2), (.long x0)]) rfl rfl (rest := []) rfl (wt := 0) (Nat.le_of_eq rfl) (by decide) (by decide) (by decide) (by decide) ?_
      rintro v56 T56 h56 W56 z56 ⟨ri0, rfl, Ki0, HXi0, Fzi0, Vei0, Vdi0, Vhi0⟩
      replace Vdi0 : Arv Z h56 dA kd .long 16 [(.long x0), (.long (0 : Int64)), (.long (0 : Int64)), (.long (0 : Int64)), (.long (0 : Int64)), (.long (0 : Int64)), (.long (0 : Int64)), (.long (0 : Int64)), (.long (0 : Int64)), (.long (0 : Int64)), (.long (0 : Int64)), (.long (0 : Int64)), (.long (0 : Int64)), (.long (0 : Int64)), (.long (0 : Int64)), (.long (0 : Int64))] (.long 0) := Vdi0
      replace Vhi0 : Arv Z h56 hA kh .int 16 [(.int (0 : Int32)), (.int (1 : Int32)), (.int (2 : Int32)), (.int (3 : Int32)), (.int (4 : Int32)), (.int (5 : Int32)), (.int (6 : Int32)), (.int (7 : Int32)), (.int (8 : Int32)), (.int (9 : Int32)), (.int (10 : Int32)), (.int (11 : Int32)), (.int (12 : Int32)), (.int (13 : Int32)), (.int (14 : Int32)), (.int (15 : Int32))] (.int 0) := Vhi0
      replace Vei0 : Arv Z h56 eA ke (.object "java/lang/Object") 16 [(.ref b2), .null, .null, .null, .null, .null, .null, .null, .null, .null, .null, .null, .null, .null, .null, .null] .null := Vei0
      show Go p e below _ T56 (mkF m 130 #[.val (.int cn), .val (.long x0), .second, .val (.long x1), .second, .val (.long x2), .second, .val (.int rm), .val (.int (1 : Int32)), .val (.int rmv), .val (.ref b1), .val (.ref b32), .val (.ref b36), .unset, .unset, .unset, .unset] [(.int ri0)])
      refine s_pop W56 at_130 rfl (pc' := 131) rfl ?_
      refine s_iload W56 at_131 rfl (pc' := 133) rfl ?_
      refine s_iconst W56 at_133 (v := (1 : Int32)) (by decide) (pc' := 134) rfl ?_
      refine s_icmple W56 at_134 (by decide) (pc1 := 148) (by decide) (pc2 := 137) rfl ?_ (fun q => absurd q (by decide))
      intro q134
      refine s_iload W56 at_148 rfl (pc' := 150) rfl ?_
      refine s_iconst W56 at_150 (v := (2 : Int32)) (by decide) (pc' := 151) rfl ?_
      refine s_icmple W56 at_151 (by decide) (pc1 := 166) (by decide) (pc2 := 154) rfl ?_ (fun q => absurd q (by decide))
      intro q151
      refine s_iconst W56 at_166 (v := (-1 : Int32)) (by decide) (pc' := 167) rfl ?_
      refine s_istore W56 at_167 (l' := #[.val (.int cn), .val (.long x0), .second, .val (.long x1), .second, .val (.long x2), .second, .val (.int rm), .val (.int (1 : Int32)), .val (.int rmv), .val (.ref b1), .val (.ref b32), .val (.ref b36), .val (.int (-1 : Int32)), .unset, .unset, .unset]) rfl (pc' := 169) rfl ?_
      refine s_iload W56 at_169 rfl (pc' := 171) rfl ?_
      refine s_ifeq W56 at_171 (by decide) (pc1 := 207) (by decide) (pc2 := 174) rfl ?_ ?_
      · intro q171
        refine s_iload W56 at_207 rfl (pc' := 209) rfl ?_
        refine s_ifeq W56 at_209 (by decide) (pc1 := 219) (by decide) (pc2 := 212) rfl ?_ (fun q => (q q171).elim)
        intro q209
        refine s_iload W56 at_219 rfl (pc' := 221) rfl ?_
        refine s_istore W56 at_221 (l' := #[.val (.int cn), .val (.long x0), .second, .val (.long x1), .second, .val (.long x2), .second, .val (.int rm), .val (.int (1 : Int32)), .val (.int rmv), .val (.ref b1), .val (.ref b32), .val (.ref b36), .val (.int (-1 : Int32)), .val (.int (1 : Int32)), .unset, .unset]) rfl (pc' := 223) rfl ?_
        have fx57 := (fx41.keep Ki0 (ninS (ane (by omega)) (ninS (ane (by omega)) (ninS (ane (by omega)) (ninS (ane (by omega)) nin0)))))
        have fx58 := (fx42.keep Ki0 (ninS (ane (by omega)) (ninS (ane (by omega)) (ninS (ane (by omega)) (ninS (ane (by omega)) nin0)))))
        have fx59 := (fx38.keep Ki0)
        have fx60 := (fx39.keep Ki0)
        have fx61 := (fx40.keep Ki0)
        exact tailB T56 h56 1 (-1 : Int32) (fun i => [0, 1, 2].getD i 0) [(.int (0 : Int32)), (.int (1 : Int32)), (.int (2 : Int32)), (.int (3 : Int32)), (.int (4 : Int32)), (.int (5 : Int32)), (.int (6 : Int32)), (.int (7 : Int32)), (.int (8 : Int32)), (.int (9 : Int32)), (.int (10 : Int32)), (.int (11 : Int32)), (.int (12 : Int32)), (.int (13 : Int32)), (.int (14 : Int32)), (.int (15 : Int32))] [(.ref b2), .null, .null, .null, .null, .null, .null, .null, .null, .null, .null, .null, .null, .null, .null, .null] W56 HXi0 Fzi0 Vhi0 Vei0 fx57 fx58 fx59 fx60 fx61 (by decide) (by intro i hi; rcases (by omega : i = 0 ∨ i = 1 ∨ i = 2) with rfl | rfl | rfl <;> first | (exact absurd hi (by decide)) | exact ⟨rfl, by decide, by decide, rfl⟩) (by intro i j hi hj q; rcases (by omega : i = 0 ∨ i = 1 ∨ i = 2) with rfl | rfl | rfl <;> rcases (by omega : j = 0 ∨ j = 1 ∨ j = 2) with rfl | rfl | rfl <;> first | rfl | exact absurd q (by decide) | (exact absurd hi (by decide)) | (exact absurd hj (by decide))) (fun _ => min3 (f := fun t => [x0, x1, x2].getD ((fun i => [0, 1, 2].getD i 0) 0) 0 ≤ [x0, x1, x2].getD t 0) (by decide) (fun _ _ => show x0 ≤ x0 from le64 (by omega)) (fun q => absurd q (by decide)) (fun q => absurd q (by decide)))
      · intro q171
        refine s_aload W56 at_174 rfl rfl (pc' := 176) rfl ?_
        refine s_iload W56 at_176 rfl (pc' := 178) rfl ?_
        refine s_ldcI W56 (w_110 hw) at_178 (pc' := 180) rfl ?_
        refine s_iand W56 at_180 (pc' := 181) rfl ?_
        refine s_iload W56 at_181 rfl (pc' := 183) rfl ?_
        refine s_irem W56 at_183 (by decide) (pc' := 184) rfl ?_
        obtain ⟨r, hr, er⟩ := remL rm (n := 1) (by decide) (by decide)
        rw [show (rm &&& (2147483647 : Int32)) % (1 : Int32) = Int32.ofNat r from er]
        obtain rfl : r = 0 := by omega
        show Go p e below _ T56 (mkF m 184 #[.val (.int cn), .val (.long x0), .second, .val (.long x1), .second, .val (.long x2), .second, .val (.int rm), .val (.int (1 : Int32)), .val (.int rmv), .val (.ref b1), .val (.ref b32), .val (.ref b36), .val (.int (-1 : Int32)), .unset, .unset, .unset] [(.int (0 : Int32)), (.ref b36)])
        refine gVirtual W56 HXi0.1 (w_111 hw) (w_112 hw) (fun s hZ => notFace_of_selects (args := #[]) (mv hZ (w_114 hw))) (w_114 hw) (w_113 hw) (w_36 hw) (w_115 hw) (by decide) pd_10 (ct_rem10 hw hEL [] b36 dA hA eA b2 kd kh ke x0 (0 : Int32) (0 : Int32) 0 [(.long x0), (.long (0 : Int64)), (.long (0 : Int64)), (.long (0 : Int64)), (.long (0 : Int64)), (.long (0 : Int64)), (.long (0 : Int64)), (.long (0 : Int64)), (.long (0 : Int64)), (.long (0 : Int64)), (.long (0 : Int64)), (.long (0 : Int64)), (.long (0 : Int64)), (.long (0 : Int64)), (.long (0 : Int64)), (.long (0 : Int64))] [(.int (0 : Int32)), (.int (1 : Int32)), (.int (2 : Int32)), (.int (3 : Int32)), (.int (4 : Int32)), (.int (5 : Int32)), (.int (6 : Int32)), (.int (7 : Int32)), (.int (8 : Int32)), (.int (9 : Int32)), (.int (10 : Int32)), (.int (11 : Int32)), (.int (12 : Int32)), (.int (13 : Int32)), (.int (14 : Int32)), (.int (15 : Int32))] [(.ref b2), .null, .null, .null, .null, .null, .null, .null, .null, .null, .null, .null, .null, .null, .null, .null] h56 HXi0 HN n0_b36 n0_dA n0_hA n0_eA Vdi0 Vhi0 Vei0 Fzi0 rfl rfl rfl rfl (by decide) (by decide) rfl rfl rfl) (by simp) at_184 (pc' := 187) rfl rfl (argsL := [(.int (0 : Int32))]) rfl rfl (rest := []) rfl (wt := 0) (Nat.le_of_eq rfl) (by decide) (by decide) (by decide) (by decide) ?_
        rintro v62 T62 h62 W62 z62 ⟨rfl, Kr, HXr, Fzr, Ver, Vdr, Vhr⟩
        replace Vdr : Arv Z h62 dA kd .long 16 [(.long x0), (.long (0 : Int64)), (.long (0 : Int64)), (.long (0 : Int64)), (.long (0 : Int64)), (.long (0 : Int64)), (.long (0 : Int64)), (.long (0 : Int64)), (.long (0 : Int64)), (.long (0 : Int64)), (.long (0 : Int64)), (.long (0 : Int64)), (.long (0 : Int64)), (.long (0 : Int64)), (.long (0 : Int64)), (.long (0 : Int64))] (.long 0) := Vdr
        replace Vhr : Arv Z h62 hA kh .int 16 [(.int (0 : Int32)), (.int (1 : Int32)), (.int (2 : Int32)), (.int (3 : Int32)), (.int (4 : Int32)), (.int (5 : Int32)), (.int (6 : Int32)), (.int (7 : Int32)), (.int (8 : Int32)), (.int (9 : Int32)), (.int (10 : Int32)), (.int (11 : Int32)), (.int (12 : Int32)), (.int (13 : Int32)), (.int (14 : Int32)), (.int (15 : Int32))] (.int 0) := Vhr
        replace Ver : Arv Z h62 eA ke (.object "java/lang/Object") 16 [.null, .null, .null, .null, .null, .null, .null, .null, .null, .null, .null, .null, .null, .null, .null, .null] .null := Ver
        show Go p e below _ T62 (mkF m 187 #[.val (.int cn), .val (.long x0), .second, .val (.long x1), .second, .val (.long x2), .second, .val (.int rm), .val (.int (1 : Int32)), .val (.int rmv), .val (.ref b1), .val (.ref b32), .val (.ref b36), .val (.int (-1 : Int32)), .unset, .unset, .unset] [(.ref b2)])
        refine s_astore W62 at_187 rfl (l' := #[.val (.int cn), .val (.long x0), .second, .val (.long x1), .second, .val (.long x2), .second, .val (.int rm), .val (.int (1 : Int32)), .val (.int rmv), .val (.ref b1), .val (.ref b32), .val (.ref b36), .val (.int (-1 : Int32)), .val (.ref b2), .unset, .unset]) rfl (pc' := 189) rfl ?_
        refine s_aload W62 at_189 rfl rfl (pc' := 191) rfl ?_
        refine s_aload W62 at_191 rfl rfl (pc' := 193) rfl ?_
        refine s_iload W62 at_193 rfl (pc' := 195) rfl ?_
        have fx63 := ((fx41.keep Ki0 (ninS (ane (by omega)) (ninS (ane (by omega)) (ninS (ane (by omega)) (ninS (ane (by omega)) nin0))))).keep Kr (ninS (ane (by omega)) (ninS (ane (by omega)) (ninS (ane (by omega)) (ninS (ane (by omega)) nin0)))))
        refine gStatic W62 (w_125 hw) (w_126 hw) (w_80 hw) (w_127 hw) (by decide) pd_15 (ct_fnd hw hEL [] b1 k1 b2 b12 b22 (1 : Int32) 1 0 h62 d01 d02 d12 fx63 (by decide) (by decide) (by decide)) (by simp) at_195 (pc' := 198) rfl rfl (argsL := [(.ref b2), (.ref b1), (.int (1 : Int32))]) rfl rfl (rest := []) rfl (wt := 0) (Nat.le_of_eq rfl) (by decide) (by decide) (by decide) (by decide) ?_
        rintro v64 T64 h64 W64 z64 ⟨rfl, rfl⟩
        show Go p e below _ T64 (mkF m 198 #[.val (.int cn), .val (.long x0), .second, .val (.long x1), .second, .val (.long x2), .second, .val (.int rm), .val (.int (1 : Int32)), .val (.int rmv), .val (.ref b1), .val (.ref b32), .val (.ref b36), .val (.int (-1 : Int32)), .val (.ref b2), .unset, .unset] [(.int (0 : Int32))])
        refine s_istore W64 at_198 (l' := #[.val (.int cn), .val (.long x0), .second, .val (.long x1), .second, .val (.long x2), .second, .val (.int rm), .val (.int (1 : Int32)), .val (.int rmv), .val (.ref b1), .val (.ref b32), .val (.ref b36), .val (.int (0 : Int32)), .val (.ref b2), .unset, .unset]) rfl (pc' := 200) rfl ?_
        refine s_iload W64 at_200 rfl (pc' := 202) rfl ?_
        refine s_ifge W64 at_202 (by decide) (pc1 := 207) (by decide) (pc2 := 205) rfl ?_ (fun q => absurd q (by decide))
        intro q202
        refine s_iload W64 at_207 rfl (pc' := 209) rfl ?_
        refine s_ifeq W64 at_209 (by decide) (pc1 := 219) (by decide) (pc2 := 212) rfl (fun q => absurd q q171) ?_
        intro q209
        refine s_iload W64 at_212 rfl (pc' := 214) rfl ?_
        refine s_iconst W64 at_214 (v := (1 : Int32)) (by decide) (pc' := 215) rfl ?_
        refine s_isub W64 at_215 (pc' := 216) rfl ?_
        rw [show ((1 : Int32) - (1 : Int32)) = (0 : Int32) from by decide]
        refine s_goto W64 at_216 (by decide) (pc' := 221) (by decide) ?_
        refine s_istore W64 at_221 (l' := #[.val (.int cn), .val (.long x0), .second, .val (.long x1), .second, .val (.long x2), .second, .val (.int rm), .val (.int (1 : Int32)), .val (.int rmv), .val (.ref b1), .val (.ref b32), .val (.ref b36), .val (.int (0 : Int32)), .val (.int (0 : Int32)), .unset, .unset]) rfl (pc' := 223) rfl ?_
        have fx65 := ((fx42.keep Ki0 (ninS (ane (by omega)) (ninS (ane (by omega)) (ninS (ane (by omega)) (ninS (ane (by omega)) nin0))))).keep Kr (ninS (ane (by omega)) (ninS (ane (by omega)) (ninS (ane (by omega)) (ninS (ane (by omega)) nin0)))))
        have fx66 := ((fx38.keep Ki0).keep Kr)
        have fx67 := ((fx39.keep Ki0).keep Kr)
        have fx68 := ((fx40.keep Ki0).keep Kr)
        exact tailB T64 h62 0 (0 : Int32) (fun i => [0, 1, 2].getD i 0) [(.int (0 : Int32)), (.int (1 : Int32)), (.int (2 : Int32)), (.int (3 : Int32)), (.int (4 : Int32)), (.int (5 : Int32)), (.int (6 : Int32)), (.int (7 : Int32)), (.int (8 : Int32)), (.int (9 : Int32)), (.int (10 : Int32)), (.int (11 : Int32)), (.int (12 : Int32)), (.int (13 : Int32)), (.int (14 : Int32)), (.int (15 : Int32))] [.null, .null, .null, .null, .null, .null, .null, .null, .null, .null, .null, .null, .null, .null, .null, .null] W64 HXr Fzr Vhr Ver fx63 fx65 fx66 fx67 fx68 (by decide) (by intro i hi; rcases (by omega : i = 0 ∨ i = 1 ∨ i = 2) with rfl | rfl | rfl <;> first | (exact absurd hi (by decide)) | exact ⟨rfl, by decide, by decide, rfl⟩) (by intro i j hi hj q; rcases (by omega : i = 0 ∨ i = 1 ∨ i = 2) with rfl | rfl | rfl <;> rcases (by omega : j = 0 ∨ j = 1 ∨ j = 2) with rfl | rfl | rfl <;> first | rfl | exact absurd q (by decide) | (exact absurd hi (by decide)) | (exact absurd hj (by decide))) (fun q => absurd q (by decide))
    · show Go p e below _ T37 (mkF m 115 #[.val (.int cn), .val (.long x0), .second, .val (.long x1), .second, .val (.long x2), .second, .val (.int rm), .val (.int (2 : Int32)), .val (.int rmv), .val (.ref b1), .val (.ref b32), .val (.ref b36), .unset, .unset, .unset, .unset] [])
      refine s_iload W37 at_115 rfl (pc' := 117) rfl ?_
      refine s_ifle W37 at_117 (by decide) (pc1 := 131) (by decide) (pc2 := 120) rfl (fun q => absurd q (by decide)) ?_
      intro q117
      refine s_aload W37 at_120 rfl rfl (pc' := 122) rfl ?_
      refine s_aload W37 at_122 rfl rfl (pc' := 124) rfl ?_
      refine s_iconst W37 at_124 (v := (0 : Int32)) (by decide) (pc' := 125) rfl ?_
      refine gLdA W37 fx41 rfl ⟨by decide, by decide⟩ (v := (.ref b2)) rfl at_125 (pc' := 126) rfl ?_
      refine s_lloadN W37 at_126 rfl (pc' := 127) rfl ?_
      refine gVirtual W37 HX.1 (w_82 hw) (w_83 hw) (fun s hZ => notFace_of_selects (args := #[]) (mv hZ (w_85 hw))) (w_85 hw) (w_84 hw) (w_36 hw) (w_86 hw) (by decide) pd_21 (ct_ins0 hw hEL [] b36 dA hA eA b2 kd kh ke x0 [(.long (0 : Int64)), (.long (0 : Int64)), (.long (0 : Int64)), (.long (0 : Int64)), (.long (0 : Int64)), (.long (0 : Int64)), (.long (0 : Int64)), (.long (0 : Int64)), (.long (0 : Int64)), (.long (0 : Int64)), (.long (0 : Int64)), (.long (0 : Int64)), (.long (0 : Int64)), (.long (0 : Int64)), (.long (0 : Int64)), (.long (0 : Int64))] [(.int (0 : Int32)), (.int (1 : Int32)), (.int (2 : Int32)), (.int (3 : Int32)), (.int (4 : Int32)), (.int (5 : Int32)), (.int (6 : Int32)), (.int (7 : Int32)), (.int (8 : Int32)), (.int (9 : Int32)), (.int (10 : Int32)), (.int (11 : Int32)), (.int (12 : Int32)), (.int (13 : Int32)), (.int (14 : Int32)), (.int (15 : Int32))] [.null, .null, .null, .null, .null, .null, .null, .null, .null, .null, .null, .null, .null, .null, .null, .null] h37 HX HN n0_b36 n0_dA n0_hA n0_eA Hd Hh He HO fx38 Hz rfl rfl rfl rfl) (by simp) at_127 (pc' := 130) rfl rfl (argsL := [(.ref b2), (.long x0)]) rfl rfl (rest := []) rfl (wt := 0) (Nat.le_of_eq rfl) (by decide) (by decide) (by decide) (by decide) ?_
      rintro v69 T69 h69 W69 z69 ⟨ri0, rfl, Ki0, HXi0, Fzi0, Vei0, Vdi0, Vhi0⟩
      replace Vdi0 : Arv Z h69 dA kd .long 16 [(.long x0), (.long (0 : Int64)), (.long (0 : Int64)), (.long (0 : Int64)), (.long (0 : Int64)), (.long (0 : Int64)), (.long (0 : Int64)), (.long (0 : Int64)), (.long (0 : Int64)), (.long (0 : Int64)), (.long (0 : Int64)), (.long (0 : Int64)), (.long (0 : Int64)), (.long (0 : Int64)), (.long (0 : Int64)), (.long (0 : Int64))] (.long 0) := Vdi0
      replace Vhi0 : Arv Z h69 hA kh .int 16 [(.int (0 : Int32)), (.int (1 : Int32)), (.int (2 : Int32)), (.int (3 : Int32)), (.int (4 : Int32)), (.int (5 : Int32)), (.int (6 : Int32)), (.int (7 : Int32)), (.int (8 : Int32)), (.int (9 : Int32)), (.int (10 : Int32)), (.int (11 : Int32)), (.int (12 : Int32)), (.int (13 : Int32)), (.int (14 : Int32)), (.int (15 : Int32))] (.int 0) := Vhi0
      replace Vei0 : Arv Z h69 eA ke (.object "java/lang/Object") 16 [(.ref b2), .null, .null, .null, .null, .null, .null, .null, .null, .null, .null, .null, .null, .null, .null, .null] .null := Vei0
      show Go p e below _ T69 (mkF m 130 #[.val (.int cn), .val (.long x0), .second, .val (.long x1), .second, .val (.long x2), .second, .val (.int rm), .val (.int (2 : Int32)), .val (.int rmv), .val (.ref b1), .val (.ref b32), .val (.ref b36), .unset, .unset, .unset, .unset] [(.int ri0)])
      refine s_pop W69 at_130 rfl (pc' := 131) rfl ?_
      refine s_iload W69 at_131 rfl (pc' := 133) rfl ?_
      refine s_iconst W69 at_133 (v := (1 : Int32)) (by decide) (pc' := 134) rfl ?_
      refine s_icmple W69 at_134 (by decide) (pc1 := 148) (by decide) (pc2 := 137) rfl (fun q => absurd q (by decide)) ?_
      intro q134
      refine s_aload W69 at_137 rfl rfl (pc' := 139) rfl ?_
      refine s_aload W69 at_139 rfl rfl (pc' := 141) rfl ?_
      refine s_iconst W69 at_141 (v := (1 : Int32)) (by decide) (pc' := 142) rfl ?_
      have fx70 := (fx41.keep Ki0 (ninS (ane (by omega)) (ninS (ane (by omega)) (ninS (ane (by omega)) (ninS (ane (by omega)) nin0)))))
      refine gLdA W69 fx70 rfl ⟨by decide, by decide⟩ (v := (.ref b12)) rfl at_142 (pc' := 143) rfl ?_
      refine s_lloadN W69 at_143 rfl (pc' := 144) rfl ?_
      have fx71 := (fx39.keep Ki0)
      refine gVirtual W69 HXi0.1 (w_82 hw) (w_83 hw) (fun s hZ => notFace_of_selects (args := #[]) (mv hZ (w_85 hw))) (w_85 hw) (w_84 hw) (w_36 hw) (w_86 hw) (by decide) pd_21 (ct_ins1 hw hEL [] b36 dA hA eA b12 kd kh ke x1 x0 (0 : Int32) [(.long x0), (.long (0 : Int64)), (.long (0 : Int64)), (.long (0 : Int64)), (.long (0 : Int64)), (.long (0 : Int64)), (.long (0 : Int64)), (.long (0 : Int64)), (.long (0 : Int64)), (.long (0 : Int64)), (.long (0 : Int64)), (.long (0 : Int64)), (.long (0 : Int64)), (.long (0 : Int64)), (.long (0 : Int64)), (.long (0 : Int64))] [(.int (0 : Int32)), (.int (1 : Int32)), (.int (2 : Int32)), (.int (3 : Int32)), (.int (4 : Int32)), (.int (5 : Int32)), (.int (6 : Int32)), (.int (7 : Int32)), (.int (8 : Int32)), (.int (9 : Int32)), (.int (10 : Int32)), (.int (11 : Int32)), (.int (12 : Int32)), (.int (13 : Int32)), (.int (14 : Int32)), (.int (15 : Int32))] [(.ref b2), .null, .null, .null, .null, .null, .null, .null, .null, .null, .null, .null, .null, .null, .null, .null] h69 HXi0 HN n0_b36 n0_dA n0_hA n0_eA Vdi0 Vhi0 Vei0 HO fx71 Fzi0 rfl rfl rfl rfl rfl rfl) (by simp) at_144 (pc' := 147) rfl rfl (argsL := [(.ref b12), (.long x1)]) rfl rfl (rest := []) rfl (wt := 0) (Nat.le_of_eq rfl) (by decide) (by decide) (by decide) (by decide) ?_
      rintro v72 T72 h72 W72 z72 ⟨ri1, rfl, Ki1, HXi1, Fzi1, Vei1, Qi1⟩
      by_cases ci1 : x1 < x0
      · rw [if_pos ci1] at Qi1
        obtain ⟨Vdi1, Vhi1⟩ := Qi1
        have mi1 := lt64 ci1
        replace Vdi1 : Arv Z h72 dA kd .long 16 [(.long x1), (.long x0), (.long (0 : Int64)), (.long (0 : Int64)), (.long (0 : Int64)), (.long (0 : Int64)), (.long (0 : Int64)), (.long (0 : Int64)), (.long (0 : Int64)), (.long (0 : Int64)), (.long (0 : Int64)), (.long (0 : Int64)), (.long (0 : Int64)), (.long (0 : Int64)), (.long (0 : Int64)), (.long (0 : Int64))] (.long 0) := Vdi1
        replace Vhi1 : Arv Z h72 hA kh .int 16 [(.int (1 : Int32)), (.int (0 : Int32)), (.int (2 : Int32)), (.int (3 : Int32)), (.int (4 : Int32)), (.int (5 : Int32)), (.int (6 : Int32)), (.int (7 : Int32)), (.int (8 : Int32)), (.int (9 : Int32)), (.int (10 : Int32)), (.int (11 : Int32)), (.int (12 : Int32)), (.int (13 : Int32)), (.int (14 : Int32)), (.int (15 : Int32))] (.int 0) := Vhi1
        replace Vei1 : Arv Z h72 eA ke (.object "java/lang/Object") 16 [(.ref b2), (.ref b12), .null, .null, .null, .null, .null, .null, .null, .null, .null, .null, .null, .null, .null, .null] .null := Vei1
        show Go p e below _ T72 (mkF m 147 #[.val (.int cn), .val (.long x0), .second, .val (.long x1), .second, .val (.long x2), .second, .val (.int rm), .val (.int (2 : Int32)), .val (.int rmv), .val (.ref b1), .val (.ref b32), .val (.ref b36), .unset, .unset, .unset, .unset] [(.int ri1)])
        refine s_pop W72 at_147 rfl (pc' := 148) rfl ?_
        refine s_iload W72 at_148 rfl (pc' := 150) rfl ?_
        refine s_iconst W72 at_150 (v := (2 : Int32)) (by decide) (pc' := 151) rfl ?_
        refine s_icmple W72 at_151 (by decide) (pc1 := 166) (by decide) (pc2 := 154) rfl ?_ (fun q => absurd q (by decide))
        intro q151
        refine s_iconst W72 at_166 (v := (-1 : Int32)) (by decide) (pc' := 167) rfl ?_
        refine s_istore W72 at_167 (l' := #[.val (.int cn), .val (.long x0), .second, .val (.long x1), .second, .val (.long x2), .second, .val (.int rm), .val (.int (2 : Int32)), .val (.int rmv), .val (.ref b1), .val (.ref b32), .val (.ref b36), .val (.int (-1 : Int32)), .unset, .unset, .unset]) rfl (pc' := 169) rfl ?_
        refine s_iload W72 at_169 rfl (pc' := 171) rfl ?_
        refine s_ifeq W72 at_171 (by decide) (pc1 := 207) (by decide) (pc2 := 174) rfl ?_ ?_
        · intro q171
          refine s_iload W72 at_207 rfl (pc' := 209) rfl ?_
          refine s_ifeq W72 at_209 (by decide) (pc1 := 219) (by decide) (pc2 := 212) rfl ?_ (fun q => (q q171).elim)
          intro q209
          refine s_iload W72 at_219 rfl (pc' := 221) rfl ?_
          refine s_istore W72 at_221 (l' := #[.val (.int cn), .val (.long x0), .second, .val (.long x1), .second, .val (.long x2), .second, .val (.int rm), .val (.int (2 : Int32)), .val (.int rmv), .val (.ref b1), .val (.ref b32), .val (.ref b36), .val (.int (-1 : Int32)), .val (.int (2 : Int32)), .unset, .unset]) rfl (pc' := 223) rfl ?_
          have fx73 := (fx70.keep Ki1 (ninS (ane (by omega)) (ninS (ane (by omega)) (ninS (ane (by omega)) (ninS (ane (by omega)) nin0)))))
          have fx74 := ((fx42.keep Ki0 (ninS (ane (by omega)) (ninS (ane (by omega)) (ninS (ane (by omega)) (ninS (ane (by omega)) nin0))))).keep Ki1 (ninS (ane (by omega)) (ninS (ane (by omega)) (ninS (ane (by omega)) (ninS (ane (by omega)) nin0)))))
          have fx75 := ((fx38.keep Ki0).keep Ki1)
          have fx76 := (fx71.keep Ki1)
          have fx77 := ((fx40.keep Ki0).keep Ki1)
          exact tailB T72 h72 2 (-1 : Int32) (fun i => [1, 0, 2].getD i 0) [(.int (1 : Int32)), (.int (0 : Int32)), (.int (2 : Int32)), (.int (3 : Int32)), (.int (4 : Int32)), (.int (5 : Int32)), (.int (6 : Int32)), (.int (7 : Int32)), (.int (8 : Int32)), (.int (9 : Int32)), (.int (10 : Int32)), (.int (11 : Int32)), (.int (12 : Int32)), (.int (13 : Int32)), (.int (14 : Int32)), (.int (15 : Int32))] [(.ref b2), (.ref b12), .null, .null, .null, .null, .null, .null, .null, .null, .null, .null, .null, .null, .null, .null] W72 HXi1 Fzi1 Vhi1 Vei1 fx73 fx74 fx75 fx76 fx77 (by decide) (by intro i hi; rcases (by omega : i = 0 ∨ i = 1 ∨ i = 2) with rfl | rfl | rfl <;> first | (exact absurd hi (by decide)) | exact ⟨rfl, by decide, by decide, rfl⟩) (by intro i j hi hj q; rcases (by omega : i = 0 ∨ i = 1 ∨ i = 2) with rfl | rfl | rfl <;> rcases (by omega : j = 0 ∨ j = 1 ∨ j = 2) with rfl | rfl | rfl <;> first | rfl | exact absurd q (by decide) | (exact absurd hi (by decide)) | (exact absurd hj (by decide))) (fun _ => min3 (f := fun t => [x0, x1, x2].getD ((fun i => [1, 0, 2].getD i 0) 0) 0 ≤ [x0, x1, x2].getD t 0) (by decide) (fun _ _ => show x1 ≤ x0 from le64 (by omega)) (fun _ _ => show x1 ≤ x1 from le64 (by omega)) (fun q => absurd q (by decide)))
        · intro q171
          refine s_aload W72 at_174 rfl rfl (pc' := 176) rfl ?_
          refine s_iload W72 at_176 rfl (pc' := 178) rfl ?_
          refine s_ldcI W72 (w_110 hw) at_178 (pc' := 180) rfl ?_
          refine s_iand W72 at_180 (pc' := 181) rfl ?_
          refine s_iload W72 at_181 rfl (pc' := 183) rfl ?_
          refine s_irem W72 at_183 (by decide) (pc' := 184) rfl ?_
          obtain ⟨r, hr, er⟩ := remL rm (n := 2) (by decide) (by decide)
          rw [show (rm &&& (2147483647 : Int32)) % (2 : Int32) = Int32.ofNat r from er]
          rcases (by omega : r = 0 ∨ r = 1) with rfl | rfl
          · show Go p e below _ T72 (mkF m 184 #[.val (.int cn), .val (.long x0), .second, .val (.long x1), .second, .val (.long x2), .second, .val (.int rm), .val (.int (2 : Int32)), .val (.int rmv), .val (.ref b1), .val (.ref b32), .val (.ref b36), .val (.int (-1 : Int32)), .unset, .unset, .unset] [(.int (0 : Int32)), (.ref b36)])
            refine gVirtual W72 HXi1.1 (w_111 hw) (w_112 hw) (fun s hZ => notFace_of_selects (args := #[]) (mv hZ (w_114 hw))) (w_114 hw) (w_113 hw) (w_36 hw) (w_115 hw) (by decide) pd_10 (ct_rem20 hw hEL [] b36 dA hA eA b12 kd kh ke x0 (1 : Int32) (0 : Int32) 1 [(.long x1), (.long x0), (.long (0 : Int64)), (.long (0 : Int64)), (.long (0 : Int64)), (.long (0 : Int64)), (.long (0 : Int64)), (.long (0 : Int64)), (.long (0 : Int64)), (.long (0 : Int64)), (.long (0 : Int64)), (.long (0 : Int64)), (.long (0 : Int64)), (.long (0 : Int64)), (.long (0 : Int64)), (.long (0 : Int64))] [(.int (1 : Int32)), (.int (0 : Int32)), (.int (2 : Int32)), (.int (3 : Int32)), (.int (4 : Int32)), (.int (5 : Int32)), (.int (6 : Int32)), (.int (7 : Int32)), (.int (8 : Int32)), (.int (9 : Int32)), (.int (10 : Int32)), (.int (11 : Int32)), (.int (12 : Int32)), (.int (13 : Int32)), (.int (14 : Int32)), (.int (15 : Int32))] [(.ref b2), (.ref b12), .null, .null, .null, .null, .null, .null, .null, .null, .null, .null, .null, .null, .null, .null] h72 HXi1 HN n0_b36 n0_dA n0_hA n0_eA Vdi1 Vhi1 Vei1 Fzi1 rfl rfl rfl rfl (by decide) (by decide) rfl rfl rfl) (by simp) at_184 (pc' := 187) rfl rfl (argsL := [(.int (0 : Int32))]) rfl rfl (rest := []) rfl (wt := 0) (Nat.le_of_eq rfl) (by decide) (by decide) (by decide) (by decide) ?_
            rintro v78 T78 h78 W78 z78 ⟨rfl, Kr, HXr, Fzr, Ver, Vdr, Vhr⟩
            replace Vdr : Arv Z h78 dA kd .long 16 [(.long x0), (.long x0), (.long (0 : Int64)), (.long (0 : Int64)), (.long (0 : Int64)), (.long (0 : Int64)), (.long (0 : Int64)), (.long (0 : Int64)), (.long (0 : Int64)), (.long (0 : Int64)), (.long (0 : Int64)), (.long (0 : Int64)), (.long (0 : Int64)), (.long (0 : Int64)), (.long (0 : Int64)), (.long (0 : Int64))] (.long 0) := Vdr
            replace Vhr : Arv Z h78 hA kh .int 16 [(.int (0 : Int32)), (.int (1 : Int32)), (.int (2 : Int32)), (.int (3 : Int32)), (.int (4 : Int32)), (.int (5 : Int32)), (.int (6 : Int32)), (.int (7 : Int32)), (.int (8 : Int32)), (.int (9 : Int32)), (.int (10 : Int32)), (.int (11 : Int32)), (.int (12 : Int32)), (.int (13 : Int32)), (.int (14 : Int32)), (.int (15 : Int32))] (.int 0) := Vhr
            replace Ver : Arv Z h78 eA ke (.object "java/lang/Object") 16 [(.ref b2), .null, .null, .null, .null, .null, .null, .null, .null, .null, .null, .null, .null, .null, .null, .null] .null := Ver
            show Go p e below _ T78 (mkF m 187 #[.val (.int cn), .val (.long x0), .second, .val (.long x1), .second, .val (.long x2), .second, .val (.int rm), .val (.int (2 : Int32)), .val (.int rmv), .val (.ref b1), .val (.ref b32), .val (.ref b36), .val (.int (-1 : Int32)), .unset, .unset, .unset] [(.ref b12)])
            refine s_astore W78 at_187 rfl (l' := #[.val (.int cn), .val (.long x0), .second, .val (.long x1), .second, .val (.long x2), .second, .val (.int rm), .val (.int (2 : Int32)), .val (.int rmv), .val (.ref b1), .val (.ref b32), .val (.ref b36), .val (.int (-1 : Int32)), .val (.ref b12), .unset, .unset]) rfl (pc' := 189) rfl ?_
            refine s_aload W78 at_189 rfl rfl (pc' := 191) rfl ?_
            refine s_aload W78 at_191 rfl rfl (pc' := 193) rfl ?_
            refine s_iload W78 at_193 rfl (pc' := 195) rfl ?_
            have fx79 := ((fx70.keep Ki1 (ninS (ane (by omega)) (ninS (ane (by omega)) (ninS (ane (by omega)) (ninS (ane (by omega)) nin0))))).keep Kr (ninS (ane (by omega)) (ninS (ane (by omega)) (ninS (ane (by omega)) (ninS (ane (by omega)) nin0)))))
            refine gStatic W78 (w_125 hw) (w_126 hw) (w_80 hw) (w_127 hw) (by decide) pd_15 (ct_fnd hw hEL [] b1 k1 b2 b12 b22 (2 : Int32) 2 1 h78 d01 d02 d12 fx79 (by decide) (by decide) (by decide)) (by simp) at_195 (pc' := 198) rfl rfl (argsL := [(.ref b12), (.ref b1), (.int (2 : Int32))]) rfl rfl (rest := []) rfl (wt := 0) (Nat.le_of_eq rfl) (by decide) (by decide) (by decide) (by decide) ?_
            rintro v80 T80 h80 W80 z80 ⟨rfl, rfl⟩
            show Go p e below _ T80 (mkF m 198 #[.val (.int cn), .val (.long x0), .second, .val (.long x1), .second, .val (.long x2), .second, .val (.int rm), .val (.int (2 : Int32)), .val (.int rmv), .val (.ref b1), .val (.ref b32), .val (.ref b36), .val (.int (-1 : Int32)), .val (.ref b12), .unset, .unset] [(.int (1 : Int32))])
            refine s_istore W80 at_198 (l' := #[.val (.int cn), .val (.long x0), .second, .val (.long x1), .second, .val (.long x2), .second, .val (.int rm), .val (.int (2 : Int32)), .val (.int rmv), .val (.ref b1), .val (.ref b32), .val (.ref b36), .val (.int (1 : Int32)), .val (.ref b12), .unset, .unset]) rfl (pc' := 200) rfl ?_
            refine s_iload W80 at_200 rfl (pc' := 202) rfl ?_
            refine s_ifge W80 at_202 (by decide) (pc1 := 207) (by decide) (pc2 := 205) rfl ?_ (fun q => absurd q (by decide))
            intro q202
            refine s_iload W80 at_207 rfl (pc' := 209) rfl ?_
            refine s_ifeq W80 at_209 (by decide) (pc1 := 219) (by decide) (pc2 := 212) rfl (fun q => absurd q q171) ?_
            intro q209
            refine s_iload W80 at_212 rfl (pc' := 214) rfl ?_
            refine s_iconst W80 at_214 (v := (1 : Int32)) (by decide) (pc' := 215) rfl ?_
            refine s_isub W80 at_215 (pc' := 216) rfl ?_
            rw [show ((2 : Int32) - (1 : Int32)) = (1 : Int32) from by decide]
            refine s_goto W80 at_216 (by decide) (pc' := 221) (by decide) ?_
            refine s_istore W80 at_221 (l' := #[.val (.int cn), .val (.long x0), .second, .val (.long x1), .second, .val (.long x2), .second, .val (.int rm), .val (.int (2 : Int32)), .val (.int rmv), .val (.ref b1), .val (.ref b32), .val (.ref b36), .val (.int (1 : Int32)), .val (.int (1 : Int32)), .unset, .unset]) rfl (pc' := 223) rfl ?_
            have fx81 := (((fx42.keep Ki0 (ninS (ane (by omega)) (ninS (ane (by omega)) (ninS (ane (by omega)) (ninS (ane (by omega)) nin0))))).keep Ki1 (ninS (ane (by omega)) (ninS (ane (by omega)) (ninS (ane (by omega)) (ninS (ane (by omega)) nin0))))).keep Kr (ninS (ane (by omega)) (ninS (ane (by omega)) (ninS (ane (by omega)) (ninS (ane (by omega)) nin0)))))
            have fx82 := (((fx38.keep Ki0).keep Ki1).keep Kr)
            have fx83 := ((fx71.keep Ki1).keep Kr)
            have fx84 := (((fx40.keep Ki0).keep Ki1).keep Kr)
            exact tailB T80 h78 1 (1 : Int32) (fun i => [0, 1, 2].getD i 0) [(.int (0 : Int32)), (.int (1 : Int32)), (.int (2 : Int32)), (.int (3 : Int32)), (.int (4 : Int32)), (.int (5 : Int32)), (.int (6 : Int32)), (.int (7 : Int32)), (.int (8 : Int32)), (.int (9 : Int32)), (.int (10 : Int32)), (.int (11 : Int32)), (.int (12 : Int32)), (.int (13 : Int32)), (.int (14 : Int32)), (.int (15 : Int32))] [(.ref b2), .null, .null, .null, .null, .null, .null, .null, .null, .null, .null, .null, .null, .null, .null, .null] W80 HXr Fzr Vhr Ver fx79 fx81 fx82 fx83 fx84 (by decide) (by intro i hi; rcases (by omega : i = 0 ∨ i = 1 ∨ i = 2) with rfl | rfl | rfl <;> first | (exact absurd hi (by decide)) | exact ⟨rfl, by decide, by decide, rfl⟩) (by intro i j hi hj q; rcases (by omega : i = 0 ∨ i = 1 ∨ i = 2) with rfl | rfl | rfl <;> rcases (by omega : j = 0 ∨ j = 1 ∨ j = 2) with rfl | rfl | rfl <;> first | rfl | exact absurd q (by decide) | (exact absurd hi (by decide)) | (exact absurd hj (by decide))) (fun _ => min3 (f := fun t => [x0, x1, x2].getD ((fun i => [0, 1, 2].getD i 0) 0) 0 ≤ [x0, x1, x2].getD t 0) (by decide) (fun _ _ => show x0 ≤ x0 from le64 (by omega)) (fun _ r => absurd rfl r) (fun q => absurd q (by decide)))
          · show Go p e below _ T72 (mkF m 184 #[.val (.int cn), .val (.long x0), .second, .val (.long x1), .second, .val (.long x2), .second, .val (.int rm), .val (.int (2 : Int32)), .val (.int rmv), .val (.ref b1), .val (.ref b32), .val (.ref b36), .val (.int (-1 : Int32)), .unset, .unset, .unset] [(.int (1 : Int32)), (.ref b36)])
            refine gVirtual W72 HXi1.1 (w_111 hw) (w_112 hw) (fun s hZ => notFace_of_selects (args := #[]) (mv hZ (w_114 hw))) (w_114 hw) (w_113 hw) (w_36 hw) (w_115 hw) (by decide) pd_10 (ct_rem21 hw hEL [] b36 dA hA eA b2 kd kh ke x0 (0 : Int32) (0 : Int32) 0 [(.long x1), (.long x0), (.long (0 : Int64)), (.long (0 : Int64)), (.long (0 : Int64)), (.long (0 : Int64)), (.long (0 : Int64)), (.long (0 : Int64)), (.long (0 : Int64)), (.long (0 : Int64)), (.long (0 : Int64)), (.long (0 : Int64)), (.long (0 : Int64)), (.long (0 : Int64)), (.long (0 : Int64)), (.long (0 : Int64))] [(.int (1 : Int32)), (.int (0 : Int32)), (.int (2 : Int32)), (.int (3 : Int32)), (.int (4 : Int32)), (.int (5 : Int32)), (.int (6 : Int32)), (.int (7 : Int32)), (.int (8 : Int32)), (.int (9 : Int32)), (.int (10 : Int32)), (.int (11 : Int32)), (.int (12 : Int32)), (.int (13 : Int32)), (.int (14 : Int32)), (.int (15 : Int32))] [(.ref b2), (.ref b12), .null, .null, .null, .null, .null, .null, .null, .null, .null, .null, .null, .null, .null, .null] h72 HXi1 HN n0_b36 n0_dA n0_hA n0_eA Vdi1 Vhi1 Vei1 Fzi1 rfl rfl rfl rfl (by decide) (by decide) rfl rfl rfl) (by simp) at_184 (pc' := 187) rfl rfl (argsL := [(.int (1 : Int32))]) rfl rfl (rest := []) rfl (wt := 0) (Nat.le_of_eq rfl) (by decide) (by decide) (by decide) (by decide) ?_
            rintro v85 T85 h85 W85 z85 ⟨rfl, Kr, HXr, Fzr, Ver, Vdr, Vhr⟩
            replace Vdr : Arv Z h85 dA kd .long 16 [(.long x1), (.long x0), (.long (0 : Int64)), (.long (0 : Int64)), (.long (0 : Int64)), (.long (0 : Int64)), (.long (0 : Int64)), (.long (0 : Int64)), (.long (0 : Int64)), (.long (0 : Int64)), (.long (0 : Int64)), (.long (0 : Int64)), (.long (0 : Int64)), (.long (0 : Int64)), (.long (0 : Int64)), (.long (0 : Int64))] (.long 0) := Vdr
            replace Vhr : Arv Z h85 hA kh .int 16 [(.int (1 : Int32)), (.int (0 : Int32)), (.int (2 : Int32)), (.int (3 : Int32)), (.int (4 : Int32)), (.int (5 : Int32)), (.int (6 : Int32)), (.int (7 : Int32)), (.int (8 : Int32)), (.int (9 : Int32)), (.int (10 : Int32)), (.int (11 : Int32)), (.int (12 : Int32)), (.int (13 : Int32)), (.int (14 : Int32)), (.int (15 : Int32))] (.int 0) := Vhr
            replace Ver : Arv Z h85 eA ke (.object "java/lang/Object") 16 [.null, (.ref b12), .null, .null, .null, .null, .null, .null, .null, .null, .null, .null, .null, .null, .null, .null] .null := Ver
            show Go p e below _ T85 (mkF m 187 #[.val (.int cn), .val (.long x0), .second, .val (.long x1), .second, .val (.long x2), .second, .val (.int rm), .val (.int (2 : Int32)), .val (.int rmv), .val (.ref b1), .val (.ref b32), .val (.ref b36), .val (.int (-1 : Int32)), .unset, .unset, .unset] [(.ref b2)])
            refine s_astore W85 at_187 rfl (l' := #[.val (.int cn), .val (.long x0), .second, .val (.long x1), .second, .val (.long x2), .second, .val (.int rm), .val (.int (2 : Int32)), .val (.int rmv), .val (.ref b1), .val (.ref b32), .val (.ref b36), .val (.int (-1 : Int32)), .val (.ref b2), .unset, .unset]) rfl (pc' := 189) rfl ?_
            refine s_aload W85 at_189 rfl rfl (pc' := 191) rfl ?_
            refine s_aload W85 at_191 rfl rfl (pc' := 193) rfl ?_
            refine s_iload W85 at_193 rfl (pc' := 195) rfl ?_
            have fx86 := ((fx70.keep Ki1 (ninS (ane (by omega)) (ninS (ane (by omega)) (ninS (ane (by omega)) (ninS (ane (by omega)) nin0))))).keep Kr (ninS (ane (by omega)) (ninS (ane (by omega)) (ninS (ane (by omega)) (ninS (ane (by omega)) nin0)))))
            refine gStatic W85 (w_125 hw) (w_126 hw) (w_80 hw) (w_127 hw) (by decide) pd_15 (ct_fnd hw hEL [] b1 k1 b2 b12 b22 (2 : Int32) 2 0 h85 d01 d02 d12 fx86 (by decide) (by decide) (by decide)) (by simp) at_195 (pc' := 198) rfl rfl (argsL := [(.ref b2), (.ref b1), (.int (2 : Int32))]) rfl rfl (rest := []) rfl (wt := 0) (Nat.le_of_eq rfl) (by decide) (by decide) (by decide) (by decide) ?_
            rintro v87 T87 h87 W87 z87 ⟨rfl, rfl⟩
            show Go p e below _ T87 (mkF m 198 #[.val (.int cn), .val (.long x0), .second, .val (.long x1), .second, .val (.long x2), .second, .val (.int rm), .val (.int (2 : Int32)), .val (.int rmv), .val (.ref b1), .val (.ref b32), .val (.ref b36), .val (.int (-1 : Int32)), .val (.ref b2), .unset, .unset] [(.int (0 : Int32))])
            refine s_istore W87 at_198 (l' := #[.val (.int cn), .val (.long x0), .second, .val (.long x1), .second, .val (.long x2), .second, .val (.int rm), .val (.int (2 : Int32)), .val (.int rmv), .val (.ref b1), .val (.ref b32), .val (.ref b36), .val (.int (0 : Int32)), .val (.ref b2), .unset, .unset]) rfl (pc' := 200) rfl ?_
            refine s_iload W87 at_200 rfl (pc' := 202) rfl ?_
            refine s_ifge W87 at_202 (by decide) (pc1 := 207) (by decide) (pc2 := 205) rfl ?_ (fun q => absurd q (by decide))
            intro q202
            refine s_iload W87 at_207 rfl (pc' := 209) rfl ?_
            refine s_ifeq W87 at_209 (by decide) (pc1 := 219) (by decide) (pc2 := 212) rfl (fun q => absurd q q171) ?_
            intro q209
            refine s_iload W87 at_212 rfl (pc' := 214) rfl ?_
            refine s_iconst W87 at_214 (v := (1 : Int32)) (by decide) (pc' := 215) rfl ?_
            refine s_isub W87 at_215 (pc' := 216) rfl ?_
            rw [show ((2 : Int32) - (1 : Int32)) = (1 : Int32) from by decide]
            refine s_goto W87 at_216 (by decide) (pc' := 221) (by decide) ?_
            refine s_istore W87 at_221 (l' := #[.val (.int cn), .val (.long x0), .second, .val (.long x1), .second, .val (.long x2), .second, .val (.int rm), .val (.int (2 : Int32)), .val (.int rmv), .val (.ref b1), .val (.ref b32), .val (.ref b36), .val (.int (0 : Int32)), .val (.int (1 : Int32)), .unset, .unset]) rfl (pc' := 223) rfl ?_
            have fx88 := (((fx42.keep Ki0 (ninS (ane (by omega)) (ninS (ane (by omega)) (ninS (ane (by omega)) (ninS (ane (by omega)) nin0))))).keep Ki1 (ninS (ane (by omega)) (ninS (ane (by omega)) (ninS (ane (by omega)) (ninS (ane (by omega)) nin0))))).keep Kr (ninS (ane (by omega)) (ninS (ane (by omega)) (ninS (ane (by omega)) (ninS (ane (by omega)) nin0)))))
            have fx89 := (((fx38.keep Ki0).keep Ki1).keep Kr)
            have fx90 := ((fx71.keep Ki1).keep Kr)
            have fx91 := (((fx40.keep Ki0).keep Ki1).keep Kr)
            exact tailB T87 h85 1 (0 : Int32) (fun i => [1, 0, 2].getD i 0) [(.int (1 : Int32)), (.int (0 : Int32)), (.int (2 : Int32)), (.int (3 : Int32)), (.int (4 : Int32)), (.int (5 : Int32)), (.int (6 : Int32)), (.int (7 : Int32)), (.int (8 : Int32)), (.int (9 : Int32)), (.int (10 : Int32)), (.int (11 : Int32)), (.int (12 : Int32)), (.int (13 : Int32)), (.int (14 : Int32)), (.int (15 : Int32))] [.null, (.ref b12), .null, .null, .null, .null, .null, .null, .null, .null, .null, .null, .null, .null, .null, .null] W87 HXr Fzr Vhr Ver fx86 fx88 fx89 fx90 fx91 (by decide) (by intro i hi; rcases (by omega : i = 0 ∨ i = 1 ∨ i = 2) with rfl | rfl | rfl <;> first | (exact absurd hi (by decide)) | exact ⟨rfl, by decide, by decide, rfl⟩) (by intro i j hi hj q; rcases (by omega : i = 0 ∨ i = 1 ∨ i = 2) with rfl | rfl | rfl <;> rcases (by omega : j = 0 ∨ j = 1 ∨ j = 2) with rfl | rfl | rfl <;> first | rfl | exact absurd q (by decide) | (exact absurd hi (by decide)) | (exact absurd hj (by decide))) (fun _ => min3 (f := fun t => [x0, x1, x2].getD ((fun i => [1, 0, 2].getD i 0) 0) 0 ≤ [x0, x1, x2].getD t 0) (by decide) (fun _ r => absurd rfl r) (fun _ _ => show x1 ≤ x1 from le64 (by omega)) (fun q => absurd q (by decide)))
      · rw [if_neg ci1] at Qi1
        obtain ⟨Vdi1, Vhi1⟩ := Qi1
        have mi1 := nlt64 ci1
        replace Vdi1 : Arv Z h72 dA kd .long 16 [(.long x0), (.long x1), (.long (0 : Int64)), (.long (0 : Int64)), (.long (0 : Int64)), (.long (0 : Int64)), (.long (0 : Int64)), (.long (0 : Int64)), (.long (0 : Int64)), (.long (0 : Int64)), (.long (0 : Int64)), (.long (0 : Int64)), (.long (0 : Int64)), (.long (0 : Int64)), (.long (0 : Int64)), (.long (0 : Int64))] (.long 0) := Vdi1
        replace Vhi1 : Arv Z h72 hA kh .int 16 [(.int (0 : Int32)), (.int (1 : Int32)), (.int (2 : Int32)), (.int (3 : Int32)), (.int (4 : Int32)), (.int (5 : Int32)), (.int (6 : Int32)), (.int (7 : Int32)), (.int (8 : Int32)), (.int (9 : Int32)), (.int (10 : Int32)), (.int (11 : Int32)), (.int (12 : Int32)), (.int (13 : Int32)), (.int (14 : Int32)), (.int (15 : Int32))] (.int 0) := Vhi1
        replace Vei1 : Arv Z h72 eA ke (.object "java/lang/Object") 16 [(.ref b2), (.ref b12), .null, .null, .null, .null, .null, .null, .null, .null, .null, .null, .null, .null, .null, .null] .null := Vei1
        show Go p e below _ T72 (mkF m 147 #[.val (.int cn), .val (.long x0), .second, .val (.long x1), .second, .val (.long x2), .second, .val (.int rm), .val (.int (2 : Int32)), .val (.int rmv), .val (.ref b1), .val (.ref b32), .val (.ref b36), .unset, .unset, .unset, .unset] [(.int ri1)])
        refine s_pop W72 at_147 rfl (pc' := 148) rfl ?_
        refine s_iload W72 at_148 rfl (pc' := 150) rfl ?_
        refine s_iconst W72 at_150 (v := (2 : Int32)) (by decide) (pc' := 151) rfl ?_
        refine s_icmple W72 at_151 (by decide) (pc1 := 166) (by decide) (pc2 := 154) rfl ?_ (fun q => absurd q (by decide))
        intro q151
        refine s_iconst W72 at_166 (v := (-1 : Int32)) (by decide) (pc' := 167) rfl ?_
        refine s_istore W72 at_167 (l' := #[.val (.int cn), .val (.long x0), .second, .val (.long x1), .second, .val (.long x2), .second, .val (.int rm), .val (.int (2 : Int32)), .val (.int rmv), .val (.ref b1), .val (.ref b32), .val (.ref b36), .val (.int (-1 : Int32)), .unset, .unset, .unset]) rfl (pc' := 169) rfl ?_
        refine s_iload W72 at_169 rfl (pc' := 171) rfl ?_
        refine s_ifeq W72 at_171 (by decide) (pc1 := 207) (by decide) (pc2 := 174) rfl ?_ ?_
        · intro q171
          refine s_iload W72 at_207 rfl (pc' := 209) rfl ?_
          refine s_ifeq W72 at_209 (by decide) (pc1 := 219) (by decide) (pc2 := 212) rfl ?_ (fun q => (q q171).elim)
          intro q209
          refine s_iload W72 at_219 rfl (pc' := 221) rfl ?_
          refine s_istore W72 at_221 (l' := #[.val (.int cn), .val (.long x0), .second, .val (.long x1), .second, .val (.long x2), .second, .val (.int rm), .val (.int (2 : Int32)), .val (.int rmv), .val (.ref b1), .val (.ref b32), .val (.ref b36), .val (.int (-1 : Int32)), .val (.int (2 : Int32)), .unset, .unset]) rfl (pc' := 223) rfl ?_
          have fx92 := (fx70.keep Ki1 (ninS (ane (by omega)) (ninS (ane (by omega)) (ninS (ane (by omega)) (ninS (ane (by omega)) nin0)))))
          have fx93 := ((fx42.keep Ki0 (ninS (ane (by omega)) (ninS (ane (by omega)) (ninS (ane (by omega)) (ninS (ane (by omega)) nin0))))).keep Ki1 (ninS (ane (by omega)) (ninS (ane (by omega)) (ninS (ane (by omega)) (ninS (ane (by omega)) nin0)))))
          have fx94 := ((fx38.keep Ki0).keep Ki1)
          have fx95 := (fx71.keep Ki1)
          have fx96 := ((fx40.keep Ki0).keep Ki1)
          exact tailB T72 h72 2 (-1 : Int32) (fun i => [0, 1, 2].getD i 0) [(.int (0 : Int32)), (.int (1 : Int32)), (.int (2 : Int32)), (.int (3 : Int32)), (.int (4 : Int32)), (.int (5 : Int32)), (.int (6 : Int32)), (.int (7 : Int32)), (.int (8 : Int32)), (.int (9 : Int32)), (.int (10 : Int32)), (.int (11 : Int32)), (.int (12 : Int32)), (.int (13 : Int32)), (.int (14 : Int32)), (.int (15 : Int32))] [(.ref b2), (.ref b12), .null, .null, .null, .null, .null, .null, .null, .null, .null, .null, .null, .null, .null, .null] W72 HXi1 Fzi1 Vhi1 Vei1 fx92 fx93 fx94 fx95 fx96 (by decide) (by intro i hi; rcases (by omega : i = 0 ∨ i = 1 ∨ i = 2) with rfl | rfl | rfl <;> first | (exact absurd hi (by decide)) | exact ⟨rfl, by decide, by decide, rfl⟩) (by intro i j hi hj q; rcases (by omega : i = 0 ∨ i = 1 ∨ i = 2) with rfl | rfl | rfl <;> rcases (by omega : j = 0 ∨ j = 1 ∨ j = 2) with rfl | rfl | rfl <;> first | rfl | exact absurd q (by decide) | (exact absurd hi (by decide)) | (exact absurd hj (by decide))) (fun _ => min3 (f := fun t => [x0, x1, x2].getD ((fun i => [0, 1, 2].getD i 0) 0) 0 ≤ [x0, x1, x2].getD t 0) (by decide) (fun _ _ => show x0 ≤ x0 from le64 (by omega)) (fun _ _ => show x0 ≤ x1 from le64 (by omega)) (fun q => absurd q (by decide)))
        · intro q171
          refine s_aload W72 at_174 rfl rfl (pc' := 176) rfl ?_
          refine s_iload W72 at_176 rfl (pc' := 178) rfl ?_
          refine s_ldcI W72 (w_110 hw) at_178 (pc' := 180) rfl ?_
          refine s_iand W72 at_180 (pc' := 181) rfl ?_
          refine s_iload W72 at_181 rfl (pc' := 183) rfl ?_
          refine s_irem W72 at_183 (by decide) (pc' := 184) rfl ?_
          obtain ⟨r, hr, er⟩ := remL rm (n := 2) (by decide) (by decide)
          rw [show (rm &&& (2147483647 : Int32)) % (2 : Int32) = Int32.ofNat r from er]
          rcases (by omega : r = 0 ∨ r = 1) with rfl | rfl
          · show Go p e below _ T72 (mkF m 184 #[.val (.int cn), .val (.long x0), .second, .val (.long x1), .second, .val (.long x2), .second, .val (.int rm), .val (.int (2 : Int32)), .val (.int rmv), .val (.ref b1), .val (.ref b32), .val (.ref b36), .val (.int (-1 : Int32)), .unset, .unset, .unset] [(.int (0 : Int32)), (.ref b36)])
            refine gVirtual W72 HXi1.1 (w_111 hw) (w_112 hw) (fun s hZ => notFace_of_selects (args := #[]) (mv hZ (w_114 hw))) (w_114 hw) (w_113 hw) (w_36 hw) (w_115 hw) (by decide) pd_10 (ct_rem20 hw hEL [] b36 dA hA eA b2 kd kh ke x1 (0 : Int32) (1 : Int32) 0 [(.long x0), (.long x1), (.long (0 : Int64)), (.long (0 : Int64)), (.long (0 : Int64)), (.long (0 : Int64)), (.long (0 : Int64)), (.long (0 : Int64)), (.long (0 : Int64)), (.long (0 : Int64)), (.long (0 : Int64)), (.long (0 : Int64)), (.long (0 : Int64)), (.long (0 : Int64)), (.long (0 : Int64)), (.long (0 : Int64))] [(.int (0 : Int32)), (.int (1 : Int32)), (.int (2 : Int32)), (.int (3 : Int32)), (.int (4 : Int32)), (.int (5 : Int32)), (.int (6 : Int32)), (.int (7 : Int32)), (.int (8 : Int32)), (.int (9 : Int32)), (.int (10 : Int32)), (.int (11 : Int32)), (.int (12 : Int32)), (.int (13 : Int32)), (.int (14 : Int32)), (.int (15 : Int32))] [(.ref b2), (.ref b12), .null, .null, .null, .null, .null, .null, .null, .null, .null, .null, .null, .null, .null, .null] h72 HXi1 HN n0_b36 n0_dA n0_hA n0_eA Vdi1 Vhi1 Vei1 Fzi1 rfl rfl rfl rfl (by decide) (by decide) rfl rfl rfl) (by simp) at_184 (pc' := 187) rfl rfl (argsL := [(.int (0 : Int32))]) rfl rfl (rest := []) rfl (wt := 0) (Nat.le_of_eq rfl) (by decide) (by decide) (by decide) (by decide) ?_
            rintro v97 T97 h97 W97 z97 ⟨rfl, Kr, HXr, Fzr, Ver, Vdr, Vhr⟩
            replace Vdr : Arv Z h97 dA kd .long 16 [(.long x1), (.long x1), (.long (0 : Int64)), (.long (0 : Int64)), (.long (0 : Int64)), (.long (0 : Int64)), (.long (0 : Int64)), (.long (0 : Int64)), (.long (0 : Int64)), (.long (0 : Int64)), (.long (0 : Int64)), (.long (0 : Int64)), (.long (0 : Int64)), (.long (0 : Int64)), (.long (0 : Int64)), (.long (0 : Int64))] (.long 0) := Vdr
            replace Vhr : Arv Z h97 hA kh .int 16 [(.int (1 : Int32)), (.int (0 : Int32)), (.int (2 : Int32)), (.int (3 : Int32)), (.int (4 : Int32)), (.int (5 : Int32)), (.int (6 : Int32)), (.int (7 : Int32)), (.int (8 : Int32)), (.int (9 : Int32)), (.int (10 : Int32)), (.int (11 : Int32)), (.int (12 : Int32)), (.int (13 : Int32)), (.int (14 : Int32)), (.int (15 : Int32))] (.int 0) := Vhr
            replace Ver : Arv Z h97 eA ke (.object "java/lang/Object") 16 [.null, (.ref b12), .null, .null, .null, .null, .null, .null, .null, .null, .null, .null, .null, .null, .null, .null] .null := Ver
            show Go p e below _ T97 (mkF m 187 #[.val (.int cn), .val (.long x0), .second, .val (.long x1), .second, .val (.long x2), .second, .val (.int rm), .val (.int (2 : Int32)), .val (.int rmv), .val (.ref b1), .val (.ref b32), .val (.ref b36), .val (.int (-1 : Int32)), .unset, .unset, .unset] [(.ref b2)])
            refine s_astore W97 at_187 rfl (l' := #[.val (.int cn), .val (.long x0), .second, .val (.long x1), .second, .val (.long x2), .second, .val (.int rm), .val (.int (2 : Int32)), .val (.int rmv), .val (.ref b1), .val (.ref b32), .val (.ref b36), .val (.int (-1 : Int32)), .val (.ref b2), .unset, .unset]) rfl (pc' := 189) rfl ?_
            refine s_aload W97 at_189 rfl rfl (pc' := 191) rfl ?_
            refine s_aload W97 at_191 rfl rfl (pc' := 193) rfl ?_
            refine s_iload W97 at_193 rfl (pc' := 195) rfl ?_
            have fx98 := ((fx70.keep Ki1 (ninS (ane (by omega)) (ninS (ane (by omega)) (ninS (ane (by omega)) (ninS (ane (by omega)) nin0))))).keep Kr (ninS (ane (by omega)) (ninS (ane (by omega)) (ninS (ane (by omega)) (ninS (ane (by omega)) nin0)))))
            refine gStatic W97 (w_125 hw) (w_126 hw) (w_80 hw) (w_127 hw) (by decide) pd_15 (ct_fnd hw hEL [] b1 k1 b2 b12 b22 (2 : Int32) 2 0 h97 d01 d02 d12 fx98 (by decide) (by decide) (by decide)) (by simp) at_195 (pc' := 198) rfl rfl (argsL := [(.ref b2), (.ref b1), (.int (2 : Int32))]) rfl rfl (rest := []) rfl (wt := 0) (Nat.le_of_eq rfl) (by decide) (by decide) (by decide) (by decide) ?_
            rintro v99 T99 h99 W99 z99 ⟨rfl, rfl⟩
            show Go p e below _ T99 (mkF m 198 #[.val (.int cn), .val (.long x0), .second, .val (.long x1), .second, .val (.long x2), .second, .val (.int rm), .val (.int (2 : Int32)), .val (.int rmv), .val (.ref b1), .val (.ref b32), .val (.ref b36), .val (.int (-1 : Int32)), .val (.ref b2), .unset, .unset] [(.int (0 : Int32))])
            refine s_istore W99 at_198 (l' := #[.val (.int cn), .val (.long x0), .second, .val (.long x1), .second, .val (.long x2), .second, .val (.int rm), .val (.int (2 : Int32)), .val (.int rmv), .val (.ref b1), .val (.ref b32), .val (.ref b36), .val (.int (0 : Int32)), .val (.ref b2), .unset, .unset]) rfl (pc' := 200) rfl ?_
            refine s_iload W99 at_200 rfl (pc' := 202) rfl ?_
            refine s_ifge W99 at_202 (by decide) (pc1 := 207) (by decide) (pc2 := 205) rfl ?_ (fun q => absurd q (by decide))
            intro q202
            refine s_iload W99 at_207 rfl (pc' := 209) rfl ?_
            refine s_ifeq W99 at_209 (by decide) (pc1 := 219) (by decide) (pc2 := 212) rfl (fun q => absurd q q171) ?_
            intro q209
            refine s_iload W99 at_212 rfl (pc' := 214) rfl ?_
            refine s_iconst W99 at_214 (v := (1 : Int32)) (by decide) (pc' := 215) rfl ?_
            refine s_isub W99 at_215 (pc' := 216) rfl ?_
            rw [show ((2 : Int32) - (1 : Int32)) = (1 : Int32) from by decide]
            refine s_goto W99 at_216 (by decide) (pc' := 221) (by decide) ?_
            refine s_istore W99 at_221 (l' := #[.val (.int cn), .val (.long x0), .second, .val (.long x1), .second, .val (.long x2), .second, .val (.int rm), .val (.int (2 : Int32)), .val (.int rmv), .val (.ref b1), .val (.ref b32), .val (.ref b36), .val (.int (0 : Int32)), .val (.int (1 : Int32)), .unset, .unset]) rfl (pc' := 223) rfl ?_
            have fx100 := (((fx42.keep Ki0 (ninS (ane (by omega)) (ninS (ane (by omega)) (ninS (ane (by omega)) (ninS (ane (by omega)) nin0))))).keep Ki1 (ninS (ane (by omega)) (ninS (ane (by omega)) (ninS (ane (by omega)) (ninS (ane (by omega)) nin0))))).keep Kr (ninS (ane (by omega)) (ninS (ane (by omega)) (ninS (ane (by omega)) (ninS (ane (by omega)) nin0)))))
            have fx101 := (((fx38.keep Ki0).keep Ki1).keep Kr)
            have fx102 := ((fx71.keep Ki1).keep Kr)
            have fx103 := (((fx40.keep Ki0).keep Ki1).keep Kr)
            exact tailB T99 h97 1 (0 : Int32) (fun i => [1, 0, 2].getD i 0) [(.int (1 : Int32)), (.int (0 : Int32)), (.int (2 : Int32)), (.int (3 : Int32)), (.int (4 : Int32)), (.int (5 : Int32)), (.int (6 : Int32)), (.int (7 : Int32)), (.int (8 : Int32)), (.int (9 : Int32)), (.int (10 : Int32)), (.int (11 : Int32)), (.int (12 : Int32)), (.int (13 : Int32)), (.int (14 : Int32)), (.int (15 : Int32))] [.null, (.ref b12), .null, .null, .null, .null, .null, .null, .null, .null, .null, .null, .null, .null, .null, .null] W99 HXr Fzr Vhr Ver fx98 fx100 fx101 fx102 fx103 (by decide) (by intro i hi; rcases (by omega : i = 0 ∨ i = 1 ∨ i = 2) with rfl | rfl | rfl <;> first | (exact absurd hi (by decide)) | exact ⟨rfl, by decide, by decide, rfl⟩) (by intro i j hi hj q; rcases (by omega : i = 0 ∨ i = 1 ∨ i = 2) with rfl | rfl | rfl <;> rcases (by omega : j = 0 ∨ j = 1 ∨ j = 2) with rfl | rfl | rfl <;> first | rfl | exact absurd q (by decide) | (exact absurd hi (by decide)) | (exact absurd hj (by decide))) (fun _ => min3 (f := fun t => [x0, x1, x2].getD ((fun i => [1, 0, 2].getD i 0) 0) 0 ≤ [x0, x1, x2].getD t 0) (by decide) (fun _ r => absurd rfl r) (fun _ _ => show x1 ≤ x1 from le64 (by omega)) (fun q => absurd q (by decide)))
          · show Go p e below _ T72 (mkF m 184 #[.val (.int cn), .val (.long x0), .second, .val (.long x1), .second, .val (.long x2), .second, .val (.int rm), .val (.int (2 : Int32)), .val (.int rmv), .val (.ref b1), .val (.ref b32), .val (.ref b36), .val (.int (-1 : Int32)), .unset, .unset, .unset] [(.int (1 : Int32)), (.ref b36)])
            refine gVirtual W72 HXi1.1 (w_111 hw) (w_112 hw) (fun s hZ => notFace_of_selects (args := #[]) (mv hZ (w_114 hw))) (w_114 hw) (w_113 hw) (w_36 hw) (w_115 hw) (by decide) pd_10 (ct_rem21 hw hEL [] b36 dA hA eA b12 kd kh ke x1 (1 : Int32) (1 : Int32) 1 [(.long x0), (.long x1), (.long (0 : Int64)), (.long (0 : Int64)), (.long (0 : Int64)), (.long (0 : Int64)), (.long (0 : Int64)), (.long (0 : Int64)), (.long (0 : Int64)), (.long (0 : Int64)), (.long (0 : Int64)), (.long (0 : Int64)), (.long (0 : Int64)), (.long (0 : Int64)), (.long (0 : Int64)), (.long (0 : Int64))] [(.int (0 : Int32)), (.int (1 : Int32)), (.int (2 : Int32)), (.int (3 : Int32)), (.int (4 : Int32)), (.int (5 : Int32)), (.int (6 : Int32)), (.int (7 : Int32)), (.int (8 : Int32)), (.int (9 : Int32)), (.int (10 : Int32)), (.int (11 : Int32)), (.int (12 : Int32)), (.int (13 : Int32)), (.int (14 : Int32)), (.int (15 : Int32))] [(.ref b2), (.ref b12), .null, .null, .null, .null, .null, .null, .null, .null, .null, .null, .null, .null, .null, .null] h72 HXi1 HN n0_b36 n0_dA n0_hA n0_eA Vdi1 Vhi1 Vei1 Fzi1 rfl rfl rfl rfl (by decide) (by decide) rfl rfl rfl) (by simp) at_184 (pc' := 187) rfl rfl (argsL := [(.int (1 : Int32))]) rfl rfl (rest := []) rfl (wt := 0) (Nat.le_of_eq rfl) (by decide) (by decide) (by decide) (by decide) ?_
            rintro v104 T104 h104 W104 z104 ⟨rfl, Kr, HXr, Fzr, Ver, Vdr, Vhr⟩
            replace Vdr : Arv Z h104 dA kd .long 16 [(.long x0), (.long x1), (.long (0 : Int64)), (.long (0 : Int64)), (.long (0 : Int64)), (.long (0 : Int64)), (.long (0 : Int64)), (.long (0 : Int64)), (.long (0 : Int64)), (.long (0 : Int64)), (.long (0 : Int64)), (.long (0 : Int64)), (.long (0 : Int64)), (.long (0 : Int64)), (.long (0 : Int64)), (.long (0 : Int64))] (.long 0) := Vdr
            replace Vhr : Arv Z h104 hA kh .int 16 [(.int (0 : Int32)), (.int (1 : Int32)), (.int (2 : Int32)), (.int (3 : Int32)), (.int (4 : Int32)), (.int (5 : Int32)), (.int (6 : Int32)), (.int (7 : Int32)), (.int (8 : Int32)), (.int (9 : Int32)), (.int (10 : Int32)), (.int (11 : Int32)), (.int (12 : Int32)), (.int (13 : Int32)), (.int (14 : Int32)), (.int (15 : Int32))] (.int 0) := Vhr
            replace Ver : Arv Z h104 eA ke (.object "java/lang/Object") 16 [(.ref b2), .null, .null, .null, .null, .null, .null, .null, .null, .null, .null, .null, .null, .null, .null, .null] .null := Ver
            show Go p e below _ T104 (mkF m 187 #[.val (.int cn), .val (.long x0), .second, .val (.long x1), .second, .val (.long x2), .second, .val (.int rm), .val (.int (2 : Int32)), .val (.int rmv), .val (.ref b1), .val (.ref b32), .val (.ref b36), .val (.int (-1 : Int32)), .unset, .unset, .unset] [(.ref b12)])
            refine s_astore W104 at_187 rfl (l' := #[.val (.int cn), .val (.long x0), .second, .val (.long x1), .second, .val (.long x2), .second, .val (.int rm), .val (.int (2 : Int32)), .val (.int rmv), .val (.ref b1), .val (.ref b32), .val (.ref b36), .val (.int (-1 : Int32)), .val (.ref b12), .unset, .unset]) rfl (pc' := 189) rfl ?_
            refine s_aload W104 at_189 rfl rfl (pc' := 191) rfl ?_
            refine s_aload W104 at_191 rfl rfl (pc' := 193) rfl ?_
            refine s_iload W104 at_193 rfl (pc' := 195) rfl ?_
            have fx105 := ((fx70.keep Ki1 (ninS (ane (by omega)) (ninS (ane (by omega)) (ninS (ane (by omega)) (ninS (ane (by omega)) nin0))))).keep Kr (ninS (ane (by omega)) (ninS (ane (by omega)) (ninS (ane (by omega)) (ninS (ane (by omega)) nin0)))))
            refine gStatic W104 (w_125 hw) (w_126 hw) (w_80 hw) (w_127 hw) (by decide) pd_15 (ct_fnd hw hEL [] b1 k1 b2 b12 b22 (2 : Int32) 2 1 h104 d01 d02 d12 fx105 (by decide) (by decide) (by decide)) (by simp) at_195 (pc' := 198) rfl rfl (argsL := [(.ref b12), (.ref b1), (.int (2 : Int32))]) rfl rfl (rest := []) rfl (wt := 0) (Nat.le_of_eq rfl) (by decide) (by decide) (by decide) (by decide) ?_
            rintro v106 T106 h106 W106 z106 ⟨rfl, rfl⟩
            show Go p e below _ T106 (mkF m 198 #[.val (.int cn), .val (.long x0), .second, .val (.long x1), .second, .val (.long x2), .second, .val (.int rm), .val (.int (2 : Int32)), .val (.int rmv), .val (.ref b1), .val (.ref b32), .val (.ref b36), .val (.int (-1 : Int32)), .val (.ref b12), .unset, .unset] [(.int (1 : Int32))])
            refine s_istore W106 at_198 (l' := #[.val (.int cn), .val (.long x0), .second, .val (.long x1), .second, .val (.long x2), .second, .val (.int rm), .val (.int (2 : Int32)), .val (.int rmv), .val (.ref b1), .val (.ref b32), .val (.ref b36), .val (.int (1 : Int32)), .val (.ref b12), .unset, .unset]) rfl (pc' := 200) rfl ?_
            refine s_iload W106 at_200 rfl (pc' := 202) rfl ?_
            refine s_ifge W106 at_202 (by decide) (pc1 := 207) (by decide) (pc2 := 205) rfl ?_ (fun q => absurd q (by decide))
            intro q202
            refine s_iload W106 at_207 rfl (pc' := 209) rfl ?_
            refine s_ifeq W106 at_209 (by decide) (pc1 := 219) (by decide) (pc2 := 212) rfl (fun q => absurd q q171) ?_
            intro q209
            refine s_iload W106 at_212 rfl (pc' := 214) rfl ?_
            refine s_iconst W106 at_214 (v := (1 : Int32)) (by decide) (pc' := 215) rfl ?_
            refine s_isub W106 at_215 (pc' := 216) rfl ?_
            rw [show ((2 : Int32) - (1 : Int32)) = (1 : Int32) from by decide]
            refine s_goto W106 at_216 (by decide) (pc' := 221) (by decide) ?_
            refine s_istore W106 at_221 (l' := #[.val (.int cn), .val (.long x0), .second, .val (.long x1), .second, .val (.long x2), .second, .val (.int rm), .val (.int (2 : Int32)), .val (.int rmv), .val (.ref b1), .val (.ref b32), .val (.ref b36), .val (.int (1 : Int32)), .val (.int (1 : Int32)), .unset, .unset]) rfl (pc' := 223) rfl ?_
            have fx107 := (((fx42.keep Ki0 (ninS (ane (by omega)) (ninS (ane (by omega)) (ninS (ane (by omega)) (ninS (ane (by omega)) nin0))))).keep Ki1 (ninS (ane (by omega)) (ninS (ane (by omega)) (ninS (ane (by omega)) (ninS (ane (by omega)) nin0))))).keep Kr (ninS (ane (by omega)) (ninS (ane (by omega)) (ninS (ane (by omega)) (ninS (ane (by omega)) nin0)))))
            have fx108 := (((fx38.keep Ki0).keep Ki1).keep Kr)
            have fx109 := ((fx71.keep Ki1).keep Kr)
            have fx110 := (((fx40.keep Ki0).keep Ki1).keep Kr)
            exact tailB T106 h104 1 (1 : Int32) (fun i => [0, 1, 2].getD i 0) [(.int (0 : Int32)), (.int (1 : Int32)), (.int (2 : Int32)), (.int (3 : Int32)), (.int (4 : Int32)), (.int (5 : Int32)), (.int (6 : Int32)), (.int (7 : Int32)), (.int (8 : Int32)), (.int (9 : Int32)), (.int (10 : Int32)), (.int (11 : Int32)), (.int (12 : Int32)), (.int (13 : Int32)), (.int (14 : Int32)), (.int (15 : Int32))] [(.ref b2), .null, .null, .null, .null, .null, .null, .null, .null, .null, .null, .null, .null, .null, .null, .null] W106 HXr Fzr Vhr Ver fx105 fx107 fx108 fx109 fx110 (by decide) (by intro i hi; rcases (by omega : i = 0 ∨ i = 1 ∨ i = 2) with rfl | rfl | rfl <;> first | (exact absurd hi (by decide)) | exact ⟨rfl, by decide, by decide, rfl⟩) (by intro i j hi hj q; rcases (by omega : i = 0 ∨ i = 1 ∨ i = 2) with rfl | rfl | rfl <;> rcases (by omega : j = 0 ∨ j = 1 ∨ j = 2) with rfl | rfl | rfl <;> first | rfl | exact absurd q (by decide) | (exact absurd hi (by decide)) | (exact absurd hj (by decide))) (fun _ => min3 (f := fun t => [x0, x1, x2].getD ((fun i => [0, 1, 2].getD i 0) 0) 0 ≤ [x0, x1, x2].getD t 0) (by decide) (fun _ _ => show x0 ≤ x0 from le64 (by omega)) (fun _ r => absurd rfl r) (fun q => absurd q (by decide)))
    · show Go p e below _ T37 (mkF m 115 #[.val (.int cn), .val (.long x0), .second, .val (.long x1), .second, .val (.long x2), .second, .val (.int rm), .val (.int (3 : Int32)), .val (.int rmv), .val (.ref b1), .val (.ref b32), .val (.ref b36), .unset, .unset, .unset, .unset] [])
      refine s_iload W37 at_115 rfl (pc' := 117) rfl ?_
      refine s_ifle W37 at_117 (by decide) (pc1 := 131) (by decide) (pc2 := 120) rfl (fun q => absurd q (by decide)) ?_
      intro q117
      refine s_aload W37 at_120 rfl rfl (pc' := 122) rfl ?_
      refine s_aload W37 at_122 rfl rfl (pc' := 124) rfl ?_
      refine s_iconst W37 at_124 (v := (0 : Int32)) (by decide) (pc' := 125) rfl ?_
      refine gLdA W37 fx41 rfl ⟨by decide, by decide⟩ (v := (.ref b2)) rfl at_125 (pc' := 126) rfl ?_
      refine s_lloadN W37 at_126 rfl (pc' := 127) rfl ?_
      refine gVirtual W37 HX.1 (w_82 hw) (w_83 hw) (fun s hZ => notFace_of_selects (args := #[]) (mv hZ (w_85 hw))) (w_85 hw) (w_84 hw) (w_36 hw) (w_86 hw) (by decide) pd_21 (ct_ins0 hw hEL [] b36 dA hA eA b2 kd kh ke x0 [(.long (0 : Int64)), (.long (0 : Int64)), (.long (0 : Int64)), (.long (0 : Int64)), (.long (0 : Int64)), (.long (0 : Int64)), (.long (0 : Int64)), (.long (0 : Int64)), (.long (0 : Int64)), (.long (0 : Int64)), (.long (0 : Int64)), (.long (0 : Int64)), (.long (0 : Int64)), (.long (0 : Int64)), (.long (0 : Int64)), (.long (0 : Int64))] [(.int (0 : Int32)), (.int (1 : Int32)), (.int (2 : Int32)), (.int (3 : Int32)), (.int (4 : Int32)), (.int (5 : Int32)), (.int (6 : Int32)), (.int (7 : Int32)), (.int (8 : Int32)), (.int (9 : Int32)), (.int (10 : Int32)), (.int (11 : Int32)), (.int (12 : Int32)), (.int (13 : Int32)), (.int (14 : Int32)), (.int (15 : Int32))] [.null, .null, .null, .null, .null, .null, .null, .null, .null, .null, .null, .null, .null, .null, .null, .null] h37 HX HN n0_b36 n0_dA n0_hA n0_eA Hd Hh He HO fx38 Hz rfl rfl rfl rfl) (by simp) at_127 (pc' := 130) rfl rfl (argsL := [(.ref b2), (.long x0)]) rfl rfl (rest := []) rfl (wt := 0) (Nat.le_of_eq rfl) (by decide) (by decide) (by decide) (by decide) ?_
      rintro v111 T111 h111 W111 z111 ⟨ri0, rfl, Ki0, HXi0, Fzi0, Vei0, Vdi0, Vhi0⟩
      replace Vdi0 : Arv Z h111 dA kd .long 16 [(.long x0), (.long (0 : Int64)), (.long (0 : Int64)), (.long (0 : Int64)), (.long (0 : Int64)), (.long (0 : Int64)), (.long (0 : Int64)), (.long (0 : Int64)), (.long (0 : Int64)), (.long (0 : Int64)), (.long (0 : Int64)), (.long (0 : Int64)), (.long (0 : Int64)), (.long (0 : Int64)), (.long (0 : Int64)), (.long (0 : Int64))] (.long 0) := Vdi0
      replace Vhi0 : Arv Z h111 hA kh .int 16 [(.int (0 : Int32)), (.int (1 : Int32)), (.int (2 : Int32)), (.int (3 : Int32)), (.int (4 : Int32)), (.int (5 : Int32)), (.int (6 : Int32)), (.int (7 : Int32)), (.int (8 : Int32)), (.int (9 : Int32)), (.int (10 : Int32)), (.int (11 : Int32)), (.int (12 : Int32)), (.int (13 : Int32)), (.int (14 : Int32)), (.int (15 : Int32))] (.int 0) := Vhi0
      replace Vei0 : Arv Z h111 eA ke (.object "java/lang/Object") 16 [(.ref b2), .null, .null, .null, .null, .null, .null, .null, .null, .null, .null, .null, .null, .null, .null, .null] .null := Vei0
      show Go p e below _ T111 (mkF m 130 #[.val (.int cn), .val (.long x0), .second, .val (.long x1), .second, .val (.long x2), .second, .val (.int rm), .val (.int (3 : Int32)), .val (.int rmv), .val (.ref b1), .val (.ref b32), .val (.ref b36), .unset, .unset, .unset, .unset] [(.int ri0)])
      refine s_pop W111 at_130 rfl (pc' := 131) rfl ?_
      refine s_iload W111 at_131 rfl (pc' := 133) rfl ?_
      refine s_iconst W111 at_133 (v := (1 : Int32)) (by decide) (pc' := 134) rfl ?_
      refine s_icmple W111 at_134 (by decide) (pc1 := 148) (by decide) (pc2 := 137) rfl (fun q => absurd q (by decide)) ?_
      intro q134
      refine s_aload W111 at_137 rfl rfl (pc' := 139) rfl ?_
      refine s_aload W111 at_139 rfl rfl (pc' := 141) rfl ?_
      refine s_iconst W111 at_141 (v := (1 : Int32)) (by decide) (pc' := 142) rfl ?_
      have fx112 := (fx41.keep Ki0 (ninS (ane (by omega)) (ninS (ane (by omega)) (ninS (ane (by omega)) (ninS (ane (by omega)) nin0)))))
      refine gLdA W111 fx112 rfl ⟨by decide, by decide⟩ (v := (.ref b12)) rfl at_142 (pc' := 143) rfl ?_
      refine s_lloadN W111 at_143 rfl (pc' := 144) rfl ?_
      have fx113 := (fx39.keep Ki0)
      refine gVirtual W111 HXi0.1 (w_82 hw) (w_83 hw) (fun s hZ => notFace_of_selects (args := #[]) (mv hZ (w_85 hw))) (w_85 hw) (w_84 hw) (w_36 hw) (w_86 hw) (by decide) pd_21 (ct_ins1 hw hEL [] b36 dA hA eA b12 kd kh ke x1 x0 (0 : Int32) [(.long x0), (.long (0 : Int64)), (.long (0 : Int64)), (.long (0 : Int64)), (.long (0 : Int64)), (.long (0 : Int64)), (.long (0 : Int64)), (.long (0 : Int64)), (.long (0 : Int64)), (.long (0 : Int64)), (.long (0 : Int64)), (.long (0 : Int64)), (.long (0 : Int64)), (.long (0 : Int64)), (.long (0 : Int64)), (.long (0 : Int64))] [(.int (0 : Int32)), (.int (1 : Int32)), (.int (2 : Int32)), (.int (3 : Int32)), (.int (4 : Int32)), (.int (5 : Int32)), (.int (6 : Int32)), (.int (7 : Int32)), (.int (8 : Int32)), (.int (9 : Int32)), (.int (10 : Int32)), (.int (11 : Int32)), (.int (12 : Int32)), (.int (13 : Int32)), (.int (14 : Int32)), (.int (15 : Int32))] [(.ref b2), .null, .null, .null, .null, .null, .null, .null, .null, .null, .null, .null, .null, .null, .null, .null] h111 HXi0 HN n0_b36 n0_dA n0_hA n0_eA Vdi0 Vhi0 Vei0 HO fx113 Fzi0 rfl rfl rfl rfl rfl rfl) (by simp) at_144 (pc' := 147) rfl rfl (argsL := [(.ref b12), (.long x1)]) rfl rfl (rest := []) rfl (wt := 0) (Nat.le_of_eq rfl) (by decide) (by decide) (by decide) (by decide) ?_
      rintro v114 T114 h114 W114 z114 ⟨ri1, rfl, Ki1, HXi1, Fzi1, Vei1, Qi1⟩
      by_cases ci1 : x1 < x0
      · rw [if_pos ci1] at Qi1
        obtain ⟨Vdi1, Vhi1⟩ := Qi1
        have mi1 := lt64 ci1
        replace Vdi1 : Arv Z h114 dA kd .long 16 [(.long x1), (.long x0), (.long (0 : Int64)), (.long (0 : Int64)), (.long (0 : Int64)), (.long (0 : Int64)), (.long (0 : Int64)), (.long (0 : Int64)), (.long (0 : Int64)), (.long (0 : Int64)), (.long (0 : Int64)), (.long (0 : Int64)), (.long (0 : Int64)), (.long (0 : Int64)), (.long (0 : Int64)), (.long (0 : Int64))] (.long 0) := Vdi1
        replace Vhi1 : Arv Z h114 hA kh .int 16 [(.int (1 : Int32)), (.int (0 : Int32)), (.int (2 : Int32)), (.int (3 : Int32)), (.int (4 : Int32)), (.int (5 : Int32)), (.int (6 : Int32)), (.int (7 : Int32)), (.int (8 : Int32)), (.int (9 : Int32)), (.int (10 : Int32)), (.int (11 : Int32)), (.int (12 : Int32)), (.int (13 : Int32)), (.int (14 : Int32)), (.int (15 : Int32))] (.int 0) := Vhi1
        replace Vei1 : Arv Z h114 eA ke (.object "java/lang/Object") 16 [(.ref b2), (.ref b12), .null, .null, .null, .null, .null, .null, .null, .null, .null, .null, .null, .null, .null, .null] .null := Vei1
        show Go p e below _ T114 (mkF m 147 #[.val (.int cn), .val (.long x0), .second, .val (.long x1), .second, .val (.long x2), .second, .val (.int rm), .val (.int (3 : Int32)), .val (.int rmv), .val (.ref b1), .val (.ref b32), .val (.ref b36), .unset, .unset, .unset, .unset] [(.int ri1)])
        refine s_pop W114 at_147 rfl (pc' := 148) rfl ?_
        refine s_iload W114 at_148 rfl (pc' := 150) rfl ?_
        refine s_iconst W114 at_150 (v := (2 : Int32)) (by decide) (pc' := 151) rfl ?_
        refine s_icmple W114 at_151 (by decide) (pc1 := 166) (by decide) (pc2 := 154) rfl (fun q => absurd q (by decide)) ?_
        intro q151
        refine s_aload W114 at_154 rfl rfl (pc' := 156) rfl ?_
        refine s_aload W114 at_156 rfl rfl (pc' := 158) rfl ?_
        refine s_iconst W114 at_158 (v := (2 : Int32)) (by decide) (pc' := 159) rfl ?_
        have fx115 := (fx112.keep Ki1 (ninS (ane (by omega)) (ninS (ane (by omega)) (ninS (ane (by omega)) (ninS (ane (by omega)) nin0)))))
        refine gLdA W114 fx115 rfl ⟨by decide, by decide⟩ (v := (.ref b22)) rfl at_159 (pc' := 160) rfl ?_
        refine s_lload W114 at_160 rfl (pc' := 162) rfl ?_
        have fx116 := ((fx40.keep Ki0).keep Ki1)
        refine gVirtual W114 HXi1.1 (w_82 hw) (w_83 hw) (fun s hZ => notFace_of_selects (args := #[]) (mv hZ (w_85 hw))) (w_85 hw) (w_84 hw) (w_36 hw) (w_86 hw) (by decide) pd_21 (ct_ins2 hw hEL [] b36 dA hA eA b22 kd kh ke x2 x1 (1 : Int32) [(.long x1), (.long x0), (.long (0 : Int64)), (.long (0 : Int64)), (.long (0 : Int64)), (.long (0 : Int64)), (.long (0 : Int64)), (.long (0 : Int64)), (.long (0 : Int64)), (.long (0 : Int64)), (.long (0 : Int64)), (.long (0 : Int64)), (.long (0 : Int64)), (.long (0 : Int64)), (.long (0 : Int64)), (.long (0 : Int64))] [(.int (1 : Int32)), (.int (0 : Int32)), (.int (2 : Int32)), (.int (3 : Int32)), (.int (4 : Int32)), (.int (5 : Int32)), (.int (6 : Int32)), (.int (7 : Int32)), (.int (8 : Int32)), (.int (9 : Int32)), (.int (10 : Int32)), (.int (11 : Int32)), (.int (12 : Int32)), (.int (13 : Int32)), (.int (14 : Int32)), (.int (15 : Int32))] [(.ref b2), (.ref b12), .null, .null, .null, .null, .null, .null, .null, .null, .null, .null, .null, .null, .null, .null] h114 HXi1 HN n0_b36 n0_dA n0_hA n0_eA Vdi1 Vhi1 Vei1 HO fx116 Fzi1 rfl rfl rfl rfl rfl rfl) (by simp) at_162 (pc' := 165) rfl rfl (argsL := [(.ref b22), (.long x2)]) rfl rfl (rest := []) rfl (wt := 0) (Nat.le_of_eq rfl) (by decide) (by decide) (by decide) (by decide) ?_
        rintro v117 T117 h117 W117 z117 ⟨ri2, rfl, Ki2, HXi2, Fzi2, Vei2, Qi2⟩
        by_cases ci2 : x2 < x1
        · rw [if_pos ci2] at Qi2
          obtain ⟨Vdi2, Vhi2⟩ := Qi2
          have mi2 := lt64 ci2
          replace Vdi2 : Arv Z h117 dA kd .long 16 [(.long x2), (.long x0), (.long x1), (.long (0 : Int64)), (.long (0 : Int64)), (.long (0 : Int64)), (.long (0 : Int64)), (.long (0 : Int64)), (.long (0 : Int64)), (.long (0 : Int64)), (.long (0 : Int64)), (.long (0 : Int64)), (.long (0 : Int64)), (.long (0 : Int64)), (.long (0 : Int64)), (.long (0 : Int64))] (.long 0) := Vdi2
          replace Vhi2 : Arv Z h117 hA kh .int 16 [(.int (2 : Int32)), (.int (0 : Int32)), (.int (1 : Int32)), (.int (3 : Int32)), (.int (4 : Int32)), (.int (5 : Int32)), (.int (6 : Int32)), (.int (7 : Int32)), (.int (8 : Int32)), (.int (9 : Int32)), (.int (10 : Int32)), (.int (11 : Int32)), (.int (12 : Int32)), (.int (13 : Int32)), (.int (14 : Int32)), (.int (15 : Int32))] (.int 0) := Vhi2
          replace Vei2 : Arv Z h117 eA ke (.object "java/lang/Object") 16 [(.ref b2), (.ref b12), (.ref b22), .null, .null, .null, .null, .null, .null, .null, .null, .null, .null, .null, .null, .null] .null := Vei2
          show Go p e below _ T117 (mkF m 165 #[.val (.int cn), .val (.long x0), .second, .val (.long x1), .second, .val (.long x2), .second, .val (.int rm), .val (.int (3 : Int32)), .val (.int rmv), .val (.ref b1), .val (.ref b32), .val (.ref b36), .unset, .unset, .unset, .unset] [(.int ri2)])
          refine s_pop W117 at_165 rfl (pc' := 166) rfl ?_
          refine s_iconst W117 at_166 (v := (-1 : Int32)) (by decide) (pc' := 167) rfl ?_
          refine s_istore W117 at_167 (l' := #[.val (.int cn), .val (.long x0), .second, .val (.long x1), .second, .val (.long x2), .second, .val (.int rm), .val (.int (3 : Int32)), .val (.int rmv), .val (.ref b1), .val (.ref b32), .val (.ref b36), .val (.int (-1 : Int32)), .unset, .unset, .unset]) rfl (pc' := 169) rfl ?_
          refine s_iload W117 at_169 rfl (pc' := 171) rfl ?_
          refine s_ifeq W117 at_171 (by decide) (pc1 := 207) (by decide) (pc2 := 174) rfl ?_ ?_
          · intro q171
            refine s_iload W117 at_207 rfl (pc' := 209) rfl ?_
            refine s_ifeq W117 at_209 (by decide) (pc1 := 219) (by decide) (pc2 := 212) rfl ?_ (fun q => (q q171).elim)
            intro q209
            refine s_iload W117 at_219 rfl (pc' := 221) rfl ?_
            refine s_istore W117 at_221 (l' := #[.val (.int cn), .val (.long x0), .second, .val (.long x1), .second, .val (.long x2), .second, .val (.int rm), .val (.int (3 : Int32)), .val (.int rmv), .val (.ref b1), .val (.ref b32), .val (.ref b36), .val (.int (-1 : Int32)), .val (.int (3 : Int32)), .unset, .unset]) rfl (pc' := 223) rfl ?_
            have fx118 := (fx115.keep Ki2 (ninS (ane (by omega)) (ninS (ane (by omega)) (ninS (ane (by omega)) (ninS (ane (by omega)) nin0)))))
            have fx119 := (((fx42.keep Ki0 (ninS (ane (by omega)) (ninS (ane (by omega)) (ninS (ane (by omega)) (ninS (ane (by omega)) nin0))))).keep Ki1 (ninS (ane (by omega)) (ninS (ane (by omega)) (ninS (ane (by omega)) (ninS (ane (by omega)) nin0))))).keep Ki2 (ninS (ane (by omega)) (ninS (ane (by omega)) (ninS (ane (by omega)) (ninS (ane (by omega)) nin0)))))
            have fx120 := (((fx38.keep Ki0).keep Ki1).keep Ki2)
            have fx121 := ((fx113.keep Ki1).keep Ki2)
            have fx122 := (fx116.keep Ki2)
            exact tailB T117 h117 3 (-1 : Int32) (fun i => [2, 0, 1].getD i 0) [(.int (2 : Int32)), (.int (0 : Int32)), (.int (1 : Int32)), (.int (3 : Int32)), (.int (4 : Int32)), (.int (5 : Int32)), (.int (6 : Int32)), (.int (7 : Int32)), (.int (8 : Int32)), (.int (9 : Int32)), (.int (10 : Int32)), (.int (11 : Int32)), (.int (12 : Int32)), (.int (13 : Int32)), (.int (14 : Int32)), (.int (15 : Int32))] [(.ref b2), (.ref b12), (.ref b22), .null, .null, .null, .null, .null, .null, .null, .null, .null, .null, .null, .null, .null] W117 HXi2 Fzi2 Vhi2 Vei2 fx118 fx119 fx120 fx121 fx122 (by decide) (by intro i hi; rcases (by omega : i = 0 ∨ i = 1 ∨ i = 2) with rfl | rfl | rfl <;> first | (exact absurd hi (by decide)) | exact ⟨rfl, by decide, by decide, rfl⟩) (by intro i j hi hj q; rcases (by omega : i = 0 ∨ i = 1 ∨ i = 2) with rfl | rfl | rfl <;> rcases (by omega : j = 0 ∨ j = 1 ∨ j = 2) with rfl | rfl | rfl <;> first | rfl | exact absurd q (by decide) | (exact absurd hi (by decide)) | (exact absurd hj (by decide))) (fun _ => min3 (f := fun t => [x0, x1, x2].getD ((fun i => [2, 0, 1].getD i 0) 0) 0 ≤ [x0, x1, x2].getD t 0) (by decide) (fun _ _ => show x2 ≤ x0 from le64 (by omega)) (fun _ _ => show x2 ≤ x1 from le64 (by omega)) (fun _ _ => show x2 ≤ x2 from le64 (by omega)))
          · intro q171
            refine s_aload W117 at_174 rfl rfl (pc' := 176) rfl ?_
            refine s_iload W117 at_176 rfl (pc' := 178) rfl ?_
            refine s_ldcI W117 (w_110 hw) at_178 (pc' := 180) rfl ?_
            refine s_iand W117 at_180 (pc' := 181) rfl ?_
            refine s_iload W117 at_181 rfl (pc' := 183) rfl ?_
            refine s_irem W117 at_183 (by decide) (pc' := 184) rfl ?_
            obtain ⟨r, hr, er⟩ := remL rm (n := 3) (by decide) (by decide)
            rw [show (rm &&& (2147483647 : Int32)) % (3 : Int32) = Int32.ofNat r from er]
            rcases (by omega : r = 0 ∨ r = 1 ∨ r = 2) with rfl | rfl | rfl
            · show Go p e below _ T117 (mkF m 184 #[.val (.int cn), .val (.long x0), .second, .val (.long x1), .second, .val (.long x2), .second, .val (.int rm), .val (.int (3 : Int32)), .val (.int rmv), .val (.ref b1), .val (.ref b32), .val (.ref b36), .val (.int (-1 : Int32)), .unset, .unset, .unset] [(.int (0 : Int32)), (.ref b36)])
              refine gVirtual W117 HXi2.1 (w_111 hw) (w_112 hw) (fun s hZ => notFace_of_selects (args := #[]) (mv hZ (w_114 hw))) (w_114 hw) (w_113 hw) (w_36 hw) (w_115 hw) (by decide) pd_10 (ct_rem30 hw hEL [] b36 dA hA eA b22 kd kh ke x1 x0 (2 : Int32) (1 : Int32) (0 : Int32) 2 [(.long x2), (.long x0), (.long x1), (.long (0 : Int64)), (.long (0 : Int64)), (.long (0 : Int64)), (.long (0 : Int64)), (.long (0 : Int64)), (.long (0 : Int64)), (.long (0 : Int64)), (.long (0 : Int64)), (.long (0 : Int64)), (.long (0 : Int64)), (.long (0 : Int64)), (.long (0 : Int64)), (.long (0 : Int64))] [(.int (2 : Int32)), (.int (0 : Int32)), (.int (1 : Int32)), (.int (3 : Int32)), (.int (4 : Int32)), (.int (5 : Int32)), (.int (6 : Int32)), (.int (7 : Int32)), (.int (8 : Int32)), (.int (9 : Int32)), (.int (10 : Int32)), (.int (11 : Int32)), (.int (12 : Int32)), (.int (13 : Int32)), (.int (14 : Int32)), (.int (15 : Int32))] [(.ref b2), (.ref b12), (.ref b22), .null, .null, .null, .null, .null, .null, .null, .null, .null, .null, .null, .null, .null] h117 HXi2 HN n0_b36 n0_dA n0_hA n0_eA Vdi2 Vhi2 Vei2 Fzi2 rfl rfl rfl rfl (by decide) (by decide) rfl rfl rfl rfl rfl) (by simp) at_184 (pc' := 187) rfl rfl (argsL := [(.int (0 : Int32))]) rfl rfl (rest := []) rfl (wt := 0) (Nat.le_of_eq rfl) (by decide) (by decide) (by decide) (by decide) ?_
              rintro v123 T123 h123 W123 z123 ⟨rfl, Kr, HXr, Fzr, Ver, Qr⟩
              by_cases cr : x0 < x1
              · rw [if_pos cr] at Qr
                obtain ⟨Vdr, Vhr⟩ := Qr
                have mr := lt64 cr
                replace Vdr : Arv Z h123 dA kd .long 16 [(.long x0), (.long x1), (.long x1), (.long (0 : Int64)), (.long (0 : Int64)), (.long (0 : Int64)), (.long (0 : Int64)), (.long (0 : Int64)), (.long (0 : Int64)), (.long (0 : Int64)), (.long (0 : Int64)), (.long (0 : Int64)), (.long (0 : Int64)), (.long (0 : Int64)), (.long (0 : Int64)), (.long (0 : Int64))] (.long 0) := Vdr
                replace Vhr : Arv Z h123 hA kh .int 16 [(.int (0 : Int32)), (.int (1 : Int32)), (.int (2 : Int32)), (.int (3 : Int32)), (.int (4 : Int32)), (.int (5 : Int32)), (.int (6 : Int32)), (.int (7 : Int32)), (.int (8 : Int32)), (.int (9 : Int32)), (.int (10 : Int32)), (.int (11 : Int32)), (.int (12 : Int32)), (.int (13 : Int32)), (.int (14 : Int32)), (.int (15 : Int32))] (.int 0) := Vhr
                replace Ver : Arv Z h123 eA ke (.object "java/lang/Object") 16 [(.ref b2), (.ref b12), .null, .null, .null, .null, .null, .null, .null, .null, .null, .null, .null, .null, .null, .null] .null := Ver
                show Go p e below _ T123 (mkF m 187 #[.val (.int cn), .val (.long x0), .second, .val (.long x1), .second, .val (.long x2), .second, .val (.int rm), .val (.int (3 : Int32)), .val (.int rmv), .val (.ref b1), .val (.ref b32), .val (.ref b36), .val (.int (-1 : Int32)), .unset, .unset, .unset] [(.ref b22)])
                refine s_astore W123 at_187 rfl (l' := #[.val (.int cn), .val (.long x0), .second, .val (.long x1), .second, .val (.long x2), .second, .val (.int rm), .val (.int (3 : Int32)), .val (.int rmv), .val (.ref b1), .val (.ref b32), .val (.ref b36), .val (.int (-1 : Int32)), .val (.ref b22), .unset, .unset]) rfl (pc' := 189) rfl ?_
                refine s_aload W123 at_189 rfl rfl (pc' := 191) rfl ?_
                refine s_aload W123 at_191 rfl rfl (pc' := 193) rfl ?_
                refine s_iload W123 at_193 rfl (pc' := 195) rfl ?_
                have fx124 := ((fx115.keep Ki2 (ninS (ane (by omega)) (ninS (ane (by omega)) (ninS (ane (by omega)) (ninS (ane (by omega)) nin0))))).keep Kr (ninS (ane (by omega)) (ninS (ane (by omega)) (ninS (ane (by omega)) (ninS (ane (by omega)) nin0)))))
                refine gStatic W123 (w_125 hw) (w_126 hw) (w_80 hw) (w_127 hw) (by decide) pd_15 (ct_fnd hw hEL [] b1 k1 b2 b12 b22 (3 : Int32) 3 2 h123 d01 d02 d12 fx124 (by decide) (by decide) (by decide)) (by simp) at_195 (pc' := 198) rfl rfl (argsL := [(.ref b22), (.ref b1), (.int (3 : Int32))]) rfl rfl (rest := []) rfl (wt := 0) (Nat.le_of_eq rfl) (by decide) (by decide) (by decide) (by decide) ?_
                rintro v125 T125 h125 W125 z125 ⟨rfl, rfl⟩
                show Go p e below _ T125 (mkF m 198 #[.val (.int cn), .val (.long x0), .second, .val (.long x1), .second, .val (.long x2), .second, .val (.int rm), .val (.int (3 : Int32)), .val (.int rmv), .val (.ref b1), .val (.ref b32), .val (.ref b36), .val (.int (-1 : Int32)), .val (.ref b22), .unset, .unset] [(.int (2 : Int32))])
                refine s_istore W125 at_198 (l' := #[.val (.int cn), .val (.long x0), .second, .val (.long x1), .second, .val (.long x2), .second, .val (.int rm), .val (.int (3 : Int32)), .val (.int rmv), .val (.ref b1), .val (.ref b32), .val (.ref b36), .val (.int (2 : Int32)), .val (.ref b22), .unset, .unset]) rfl (pc' := 200) rfl ?_
                refine s_iload W125 at_200 rfl (pc' := 202) rfl ?_
                refine s_ifge W125 at_202 (by decide) (pc1 := 207) (by decide) (pc2 := 205) rfl ?_ (fun q => absurd q (by decide))
                intro q202
                refine s_iload W125 at_207 rfl (pc' := 209) rfl ?_
                refine s_ifeq W125 at_209 (by decide) (pc1 := 219) (by decide) (pc2 := 212) rfl (fun q => absurd q q171) ?_
                intro q209
                refine s_iload W125 at_212 rfl (pc' := 214) rfl ?_
                refine s_iconst W125 at_214 (v := (1 : Int32)) (by decide) (pc' := 215) rfl ?_
                refine s_isub W125 at_215 (pc' := 216) rfl ?_
                rw [show ((3 : Int32) - (1 : Int32)) = (2 : Int32) from by decide]
                refine s_goto W125 at_216 (by decide) (pc' := 221) (by decide) ?_
                refine s_istore W125 at_221 (l' := #[.val (.int cn), .val (.long x0), .second, .val (.long x1), .second, .val (.long x2), .second, .val (.int rm), .val (.int (3 : Int32)), .val (.int rmv), .val (.ref b1), .val (.ref b32), .val (.ref b36), .val (.int (2 : Int32)), .val (.int (2 : Int32)), .unset, .unset]) rfl (pc' := 223) rfl ?_
                have fx126 := ((((fx42.keep Ki0 (ninS (ane (by omega)) (ninS (ane (by omega)) (ninS (ane (by omega)) (ninS (ane (by omega)) nin0))))).keep Ki1 (ninS (ane (by omega)) (ninS (ane (by omega)) (ninS (ane (by omega)) (ninS (ane (by omega)) nin0))))).keep Ki2 (ninS (ane (by omega)) (ninS (ane (by omega)) (ninS (ane (by omega)) (ninS (ane (by omega)) nin0))))).keep Kr (ninS (ane (by omega)) (ninS (ane (by omega)) (ninS (ane (by omega)) (ninS (ane (by omega)) nin0)))))
                have fx127 := ((((fx38.keep Ki0).keep Ki1).keep Ki2).keep Kr)
                have fx128 := (((fx113.keep Ki1).keep Ki2).keep Kr)
                have fx129 := ((fx116.keep Ki2).keep Kr)
                exact tailB T125 h123 2 (2 : Int32) (fun i => [0, 1, 2].getD i 0) [(.int (0 : Int32)), (.int (1 : Int32)), (.int (2 : Int32)), (.int (3 : Int32)), (.int (4 : Int32)), (.int (5 : Int32)), (.int (6 : Int32)), (.int (7 : Int32)), (.int (8 : Int32)), (.int (9 : Int32)), (.int (10 : Int32)), (.int (11 : Int32)), (.int (12 : Int32)), (.int (13 : Int32)), (.int (14 : Int32)), (.int (15 : Int32))] [(.ref b2), (.ref b12), .null, .null, .null, .null, .null, .null, .null, .null, .null, .null, .null, .null, .null, .null] W125 HXr Fzr Vhr Ver fx124 fx126 fx127 fx128 fx129 (by decide) (by intro i hi; rcases (by omega : i = 0 ∨ i = 1 ∨ i = 2) with rfl | rfl | rfl <;> first | (exact absurd hi (by decide)) | exact ⟨rfl, by decide, by decide, rfl⟩) (by intro i j hi hj q; rcases (by omega : i = 0 ∨ i = 1 ∨ i = 2) with rfl | rfl | rfl <;> rcases (by omega : j = 0 ∨ j = 1 ∨ j = 2) with rfl | rfl | rfl <;> first | rfl | exact absurd q (by decide) | (exact absurd hi (by decide)) | (exact absurd hj (by decide))) (fun _ => min3 (f := fun t => [x0, x1, x2].getD ((fun i => [0, 1, 2].getD i 0) 0) 0 ≤ [x0, x1, x2].getD t 0) (by decide) (fun _ _ => show x0 ≤ x0 from le64 (by omega)) (fun _ _ => show x0 ≤ x1 from le64 (by omega)) (fun _ r => absurd rfl r))
              · rw [if_neg cr] at Qr
                obtain ⟨Vdr, Vhr⟩ := Qr
                have mr := nlt64 cr
                replace Vdr : Arv Z h123 dA kd .long 16 [(.long x1), (.long x0), (.long x1), (.long (0 : Int64)), (.long (0 : Int64)), (.long (0 : Int64)), (.long (0 : Int64)), (.long (0 : Int64)), (.long (0 : Int64)), (.long (0 : Int64)), (.long (0 : Int64)), (.long (0 : Int64)), (.long (0 : Int64)), (.long (0 : Int64)), (.long (0 : Int64)), (.long (0 : Int64))] (.long 0) := Vdr
                replace Vhr : Arv Z h123 hA kh .int 16 [(.int (1 : Int32)), (.int (0 : Int32)), (.int (2 : Int32)), (.int (3 : Int32)), (.int (4 : Int32)), (.int (5 : Int32)), (.int (6 : Int32)), (.int (7 : Int32)), (.int (8 : Int32)), (.int (9 : Int32)), (.int (10 : Int32)), (.int (11 : Int32)), (.int (12 : Int32)), (.int (13 : Int32)), (.int (14 : Int32)), (.int (15 : Int32))] (.int 0) := Vhr
                replace Ver : Arv Z h123 eA ke (.object "java/lang/Object") 16 [(.ref b2), (.ref b12), .null, .null, .null, .null, .null, .null, .null, .null, .null, .null, .null, .null, .null, .null] .null := Ver
                show Go p e below _ T123 (mkF m 187 #[.val (.int cn), .val (.long x0), .second, .val (.long x1), .second, .val (.long x2), .second, .val (.int rm), .val (.int (3 : Int32)), .val (.int rmv), .val (.ref b1), .val (.ref b32), .val (.ref b36), .val (.int (-1 : Int32)), .unset, .unset, .unset] [(.ref b22)])
                refine s_astore W123 at_187 rfl (l' := #[.val (.int cn), .val (.long x0), .second, .val (.long x1), .second, .val (.long x2), .second, .val (.int rm), .val (.int (3 : Int32)), .val (.int rmv), .val (.ref b1), .val (.ref b32), .val (.ref b36), .val (.int (-1 : Int32)), .val (.ref b22), .unset, .unset]) rfl (pc' := 189) rfl ?_
                refine s_aload W123 at_189 rfl rfl (pc' := 191) rfl ?_
                refine s_aload W123 at_191 rfl rfl (pc' := 193) rfl ?_
                refine s_iload W123 at_193 rfl (pc' := 195) rfl ?_
                have fx130 := ((fx115.keep Ki2 (ninS (ane (by omega)) (ninS (ane (by omega)) (ninS (ane (by omega)) (ninS (ane (by omega)) nin0))))).keep Kr (ninS (ane (by omega)) (ninS (ane (by omega)) (ninS (ane (by omega)) (ninS (ane (by omega)) nin0)))))
                refine gStatic W123 (w_125 hw) (w_126 hw) (w_80 hw) (w_127 hw) (by decide) pd_15 (ct_fnd hw hEL [] b1 k1 b2 b12 b22 (3 : Int32) 3 2 h123 d01 d02 d12 fx130 (by decide) (by decide) (by decide)) (by simp) at_195 (pc' := 198) rfl rfl (argsL := [(.ref b22), (.ref b1), (.int (3 : Int32))]) rfl rfl (rest := []) rfl (wt := 0) (Nat.le_of_eq rfl) (by decide) (by decide) (by decide) (by decide) ?_
                rintro v131 T131 h131 W131 z131 ⟨rfl, rfl⟩
                show Go p e below _ T131 (mkF m 198 #[.val (.int cn), .val (.long x0), .second, .val (.long x1), .second, .val (.long x2), .second, .val (.int rm), .val (.int (3 : Int32)), .val (.int rmv), .val (.ref b1), .val (.ref b32), .val (.ref b36), .val (.int (-1 : Int32)), .val (.ref b22), .unset, .unset] [(.int (2 : Int32))])
                refine s_istore W131 at_198 (l' := #[.val (.int cn), .val (.long x0), .second, .val (.long x1), .second, .val (.long x2), .second, .val (.int rm), .val (.int (3 : Int32)), .val (.int rmv), .val (.ref b1), .val (.ref b32), .val (.ref b36), .val (.int (2 : Int32)), .val (.ref b22), .unset, .unset]) rfl (pc' := 200) rfl ?_
                refine s_iload W131 at_200 rfl (pc' := 202) rfl ?_
                refine s_ifge W131 at_202 (by decide) (pc1 := 207) (by decide) (pc2 := 205) rfl ?_ (fun q => absurd q (by decide))
                intro q202
                refine s_iload W131 at_207 rfl (pc' := 209) rfl ?_
                refine s_ifeq W131 at_209 (by decide) (pc1 := 219) (by decide) (pc2 := 212) rfl (fun q => absurd q q171) ?_
                intro q209
                refine s_iload W131 at_212 rfl (pc' := 214) rfl ?_
                refine s_iconst W131 at_214 (v := (1 : Int32)) (by decide) (pc' := 215) rfl ?_
                refine s_isub W131 at_215 (pc' := 216) rfl ?_
                rw [show ((3 : Int32) - (1 : Int32)) = (2 : Int32) from by decide]
                refine s_goto W131 at_216 (by decide) (pc' := 221) (by decide) ?_
                refine s_istore W131 at_221 (l' := #[.val (.int cn), .val (.long x0), .second, .val (.long x1), .second, .val (.long x2), .second, .val (.int rm), .val (.int (3 : Int32)), .val (.int rmv), .val (.ref b1), .val (.ref b32), .val (.ref b36), .val (.int (2 : Int32)), .val (.int (2 : Int32)), .unset, .unset]) rfl (pc' := 223) rfl ?_
                have fx132 := ((((fx42.keep Ki0 (ninS (ane (by omega)) (ninS (ane (by omega)) (ninS (ane (by omega)) (ninS (ane (by omega)) nin0))))).keep Ki1 (ninS (ane (by omega)) (ninS (ane (by omega)) (ninS (ane (by omega)) (ninS (ane (by omega)) nin0))))).keep Ki2 (ninS (ane (by omega)) (ninS (ane (by omega)) (ninS (ane (by omega)) (ninS (ane (by omega)) nin0))))).keep Kr (ninS (ane (by omega)) (ninS (ane (by omega)) (ninS (ane (by omega)) (ninS (ane (by omega)) nin0)))))
                have fx133 := ((((fx38.keep Ki0).keep Ki1).keep Ki2).keep Kr)
                have fx134 := (((fx113.keep Ki1).keep Ki2).keep Kr)
                have fx135 := ((fx116.keep Ki2).keep Kr)
                exact tailB T131 h123 2 (2 : Int32) (fun i => [1, 0, 2].getD i 0) [(.int (1 : Int32)), (.int (0 : Int32)), (.int (2 : Int32)), (.int (3 : Int32)), (.int (4 : Int32)), (.int (5 : Int32)), (.int (6 : Int32)), (.int (7 : Int32)), (.int (8 : Int32)), (.int (9 : Int32)), (.int (10 : Int32)), (.int (11 : Int32)), (.int (12 : Int32)), (.int (13 : Int32)), (.int (14 : Int32)), (.int (15 : Int32))] [(.ref b2), (.ref b12), .null, .null, .null, .null, .null, .null, .null, .null, .null, .null, .null, .null, .null, .null] W131 HXr Fzr Vhr Ver fx130 fx132 fx133 fx134 fx135 (by decide) (by intro i hi; rcases (by omega : i = 0 ∨ i = 1 ∨ i = 2) with rfl | rfl | rfl <;> first | (exact absurd hi (by decide)) | exact ⟨rfl, by decide, by decide, rfl⟩) (by intro i j hi hj q; rcases (by omega : i = 0 ∨ i = 1 ∨ i = 2) with rfl | rfl | rfl <;> rcases (by omega : j = 0 ∨ j = 1 ∨ j = 2) with rfl | rfl | rfl <;> first | rfl | exact absurd q (by decide) | (exact absurd hi (by decide)) | (exact absurd hj (by decide))) (fun _ => min3 (f := fun t => [x0, x1, x2].getD ((fun i => [1, 0, 2].getD i 0) 0) 0 ≤ [x0, x1, x2].getD t 0) (by decide) (fun _ _ => show x1 ≤ x0 from le64 (by omega)) (fun _ _ => show x1 ≤ x1 from le64 (by omega)) (fun _ r => absurd rfl r))
            · show Go p e below _ T117 (mkF m 184 #[.val (.int cn), .val (.long x0), .second, .val (.long x1), .second, .val (.long x2), .second, .val (.int rm), .val (.int (3 : Int32)), .val (.int rmv), .val (.ref b1), .val (.ref b32), .val (.ref b36), .val (.int (-1 : Int32)), .unset, .unset, .unset] [(.int (1 : Int32)), (.ref b36)])
              refine gVirtual W117 HXi2.1 (w_111 hw) (w_112 hw) (fun s hZ => notFace_of_selects (args := #[]) (mv hZ (w_114 hw))) (w_114 hw) (w_113 hw) (w_36 hw) (w_115 hw) (by decide) pd_10 (ct_rem31 hw hEL [] b36 dA hA eA b2 kd kh ke x1 x2 (0 : Int32) (1 : Int32) (2 : Int32) 0 [(.long x2), (.long x0), (.long x1), (.long (0 : Int64)), (.long (0 : Int64)), (.long (0 : Int64)), (.long (0 : Int64)), (.long (0 : Int64)), (.long (0 : Int64)), (.long (0 : Int64)), (.long (0 : Int64)), (.long (0 : Int64)), (.long (0 : Int64)), (.long (0 : Int64)), (.long (0 : Int64)), (.long (0 : Int64))] [(.int (2 : Int32)), (.int (0 : Int32)), (.int (1 : Int32)), (.int (3 : Int32)), (.int (4 : Int32)), (.int (5 : Int32)), (.int (6 : Int32)), (.int (7 : Int32)), (.int (8 : Int32)), (.int (9 : Int32)), (.int (10 : Int32)), (.int (11 : Int32)), (.int (12 : Int32)), (.int (13 : Int32)), (.int (14 : Int32)), (.int (15 : Int32))] [(.ref b2), (.ref b12), (.ref b22), .null, .null, .null, .null, .null, .null, .null, .null, .null, .null, .null, .null, .null] h117 HXi2 HN n0_b36 n0_dA n0_hA n0_eA Vdi2 Vhi2 Vei2 Fzi2 rfl rfl rfl rfl (by decide) (by decide) rfl rfl rfl rfl rfl (nlt64' (by omega))) (by simp) at_184 (pc' := 187) rfl rfl (argsL := [(.int (1 : Int32))]) rfl rfl (rest := []) rfl (wt := 0) (Nat.le_of_eq rfl) (by decide) (by decide) (by decide) (by decide) ?_
              rintro v136 T136 h136 W136 z136 ⟨rfl, Kr, HXr, Fzr, Ver, Vdr, Vhr⟩
              replace Vdr : Arv Z h136 dA kd .long 16 [(.long x2), (.long x1), (.long x1), (.long (0 : Int64)), (.long (0 : Int64)), (.long (0 : Int64)), (.long (0 : Int64)), (.long (0 : Int64)), (.long (0 : Int64)), (.long (0 : Int64)), (.long (0 : Int64)), (.long (0 : Int64)), (.long (0 : Int64)), (.long (0 : Int64)), (.long (0 : Int64)), (.long (0 : Int64))] (.long 0) := Vdr
              replace Vhr : Arv Z h136 hA kh .int 16 [(.int (2 : Int32)), (.int (1 : Int32)), (.int (0 : Int32)), (.int (3 : Int32)), (.int (4 : Int32)), (.int (5 : Int32)), (.int (6 : Int32)), (.int (7 : Int32)), (.int (8 : Int32)), (.int (9 : Int32)), (.int (10 : Int32)), (.int (11 : Int32)), (.int (12 : Int32)), (.int (13 : Int32)), (.int (14 : Int32)), (.int (15 : Int32))] (.int 0) := Vhr
              replace Ver : Arv Z h136 eA ke (.object "java/lang/Object") 16 [.null, (.ref b12), (.ref b22), .null, .null, .null, .null, .null, .null, .null, .null, .null, .null, .null, .null, .null] .null := Ver
              show Go p e below _ T136 (mkF m 187 #[.val (.int cn), .val (.long x0), .second, .val (.long x1), .second, .val (.long x2), .second, .val (.int rm), .val (.int (3 : Int32)), .val (.int rmv), .val (.ref b1), .val (.ref b32), .val (.ref b36), .val (.int (-1 : Int32)), .unset, .unset, .unset] [(.ref b2)])
              refine s_astore W136 at_187 rfl (l' := #[.val (.int cn), .val (.long x0), .second, .val (.long x1), .second, .val (.long x2), .second, .val (.int rm), .val (.int (3 : Int32)), .val (.int rmv), .val (.ref b1), .val (.ref b32), .val (.ref b36), .val (.int (-1 : Int32)), .val (.ref b2), .unset, .unset]) rfl (pc' := 189) rfl ?_
              refine s_aload W136 at_189 rfl rfl (pc' := 191) rfl ?_
              refine s_aload W136 at_191 rfl rfl (pc' := 193) rfl ?_
              refine s_iload W136 at_193 rfl (pc' := 195) rfl ?_
              have fx137 := ((fx115.keep Ki2 (ninS (ane (by omega)) (ninS (ane (by omega)) (ninS (ane (by omega)) (ninS (ane (by omega)) nin0))))).keep Kr (ninS (ane (by omega)) (ninS (ane (by omega)) (ninS (ane (by omega)) (ninS (ane (by omega)) nin0)))))
              refine gStatic W136 (w_125 hw) (w_126 hw) (w_80 hw) (w_127 hw) (by decide) pd_15 (ct_fnd hw hEL [] b1 k1 b2 b12 b22 (3 : Int32) 3 0 h136 d01 d02 d12 fx137 (by decide) (by decide) (by decide)) (by simp) at_195 (pc' := 198) rfl rfl (argsL := [(.ref b2), (.ref b1), (.int (3 : Int32))]) rfl rfl (rest := []) rfl (wt := 0) (Nat.le_of_eq rfl) (by decide) (by decide) (by decide) (by decide) ?_
              rintro v138 T138 h138 W138 z138 ⟨rfl, rfl⟩
              show Go p e below _ T138 (mkF m 198 #[.val (.int cn), .val (.long x0), .second, .val (.long x1), .second, .val (.long x2), .second, .val (.int rm), .val (.int (3 : Int32)), .val (.int rmv), .val (.ref b1), .val (.ref b32), .val (.ref b36), .val (.int (-1 : Int32)), .val (.ref b2), .unset, .unset] [(.int (0 : Int32))])
              refine s_istore W138 at_198 (l' := #[.val (.int cn), .val (.long x0), .second, .val (.long x1), .second, .val (.long x2), .second, .val (.int rm), .val (.int (3 : Int32)), .val (.int rmv), .val (.ref b1), .val (.ref b32), .val (.ref b36), .val (.int (0 : Int32)), .val (.ref b2), .unset, .unset]) rfl (pc' := 200) rfl ?_
              refine s_iload W138 at_200 rfl (pc' := 202) rfl ?_
              refine s_ifge W138 at_202 (by decide) (pc1 := 207) (by decide) (pc2 := 205) rfl ?_ (fun q => absurd q (by decide))
              intro q202
              refine s_iload W138 at_207 rfl (pc' := 209) rfl ?_
              refine s_ifeq W138 at_209 (by decide) (pc1 := 219) (by decide) (pc2 := 212) rfl (fun q => absurd q q171) ?_
              intro q209
              refine s_iload W138 at_212 rfl (pc' := 214) rfl ?_
              refine s_iconst W138 at_214 (v := (1 : Int32)) (by decide) (pc' := 215) rfl ?_
              refine s_isub W138 at_215 (pc' := 216) rfl ?_
              rw [show ((3 : Int32) - (1 : Int32)) = (2 : Int32) from by decide]
              refine s_goto W138 at_216 (by decide) (pc' := 221) (by decide) ?_
              refine s_istore W138 at_221 (l' := #[.val (.int cn), .val (.long x0), .second, .val (.long x1), .second, .val (.long x2), .second, .val (.int rm), .val (.int (3 : Int32)), .val (.int rmv), .val (.ref b1), .val (.ref b32), .val (.ref b36), .val (.int (0 : Int32)), .val (.int (2 : Int32)), .unset, .unset]) rfl (pc' := 223) rfl ?_
              have fx139 := ((((fx42.keep Ki0 (ninS (ane (by omega)) (ninS (ane (by omega)) (ninS (ane (by omega)) (ninS (ane (by omega)) nin0))))).keep Ki1 (ninS (ane (by omega)) (ninS (ane (by omega)) (ninS (ane (by omega)) (ninS (ane (by omega)) nin0))))).keep Ki2 (ninS (ane (by omega)) (ninS (ane (by omega)) (ninS (ane (by omega)) (ninS (ane (by omega)) nin0))))).keep Kr (ninS (ane (by omega)) (ninS (ane (by omega)) (ninS (ane (by omega)) (ninS (ane (by omega)) nin0)))))
              have fx140 := ((((fx38.keep Ki0).keep Ki1).keep Ki2).keep Kr)
              have fx141 := (((fx113.keep Ki1).keep Ki2).keep Kr)
              have fx142 := ((fx116.keep Ki2).keep Kr)
              exact tailB T138 h136 2 (0 : Int32) (fun i => [2, 1, 0].getD i 0) [(.int (2 : Int32)), (.int (1 : Int32)), (.int (0 : Int32)), (.int (3 : Int32)), (.int (4 : Int32)), (.int (5 : Int32)), (.int (6 : Int32)), (.int (7 : Int32)), (.int (8 : Int32)), (.int (9 : Int32)), (.int (10 : Int32)), (.int (11 : Int32)), (.int (12 : Int32)), (.int (13 : Int32)), (.int (14 : Int32)), (.int (15 : Int32))] [.null, (.ref b12), (.ref b22), .null, .null, .null, .null, .null, .null, .null, .null, .null, .null, .null, .null, .null] W138 HXr Fzr Vhr Ver fx137 fx139 fx140 fx141 fx142 (by decide) (by intro i hi; rcases (by omega : i = 0 ∨ i = 1 ∨ i = 2) with rfl | rfl | rfl <;> first | (exact absurd hi (by decide)) | exact ⟨rfl, by decide, by decide, rfl⟩) (by intro i j hi hj q; rcases (by omega : i = 0 ∨ i = 1 ∨ i = 2) with rfl | rfl | rfl <;> rcases (by omega : j = 0 ∨ j = 1 ∨ j = 2) with rfl | rfl | rfl <;> first | rfl | exact absurd q (by decide) | (exact absurd hi (by decide)) | (exact absurd hj (by decide))) (fun _ => min3 (f := fun t => [x0, x1, x2].getD ((fun i => [2, 1, 0].getD i 0) 0) 0 ≤ [x0, x1, x2].getD t 0) (by decide) (fun _ r => absurd rfl r) (fun _ _ => show x2 ≤ x1 from le64 (by omega)) (fun _ _ => show x2 ≤ x2 from le64 (by omega)))
            · show Go p e below _ T117 (mkF m 184 #[.val (.int cn), .val (.long x0), .second, .val (.long x1), .second, .val (.long x2), .second, .val (.int rm), .val (.int (3 : Int32)), .val (.int rmv), .val (.ref b1), .val (.ref b32), .val (.ref b36), .val (.int (-1 : Int32)), .unset, .unset, .unset] [(.int (2 : Int32)), (.ref b36)])
              refine gVirtual W117 HXi2.1 (w_111 hw) (w_112 hw) (fun s hZ => notFace_of_selects (args := #[]) (mv hZ (w_114 hw))) (w_114 hw) (w_113 hw) (w_36 hw) (w_115 hw) (by decide) pd_10 (ct_rem32 hw hEL [] b36 dA hA eA b12 kd kh ke x1 (1 : Int32) (1 : Int32) 1 [(.long x2), (.long x0), (.long x1), (.long (0 : Int64)), (.long (0 : Int64)), (.long (0 : Int64)), (.long (0 : Int64)), (.long (0 : Int64)), (.long (0 : Int64)), (.long (0 : Int64)), (.long (0 : Int64)), (.long (0 : Int64)), (.long (0 : Int64)), (.long (0 : Int64)), (.long (0 : Int64)), (.long (0 : Int64))] [(.int (2 : Int32)), (.int (0 : Int32)), (.int (1 : Int32)), (.int (3 : Int32)), (.int (4 : Int32)), (.int (5 : Int32)), (.int (6 : Int32)), (.int (7 : Int32)), (.int (8 : Int32)), (.int (9 : Int32)), (.int (10 : Int32)), (.int (11 : Int32)), (.int (12 : Int32)), (.int (13 : Int32)), (.int (14 : Int32)), (.int (15 : Int32))] [(.ref b2), (.ref b12), (.ref b22), .null, .null, .null, .null, .null, .null, .null, .null, .null, .null, .null, .null, .null] h117 HXi2 HN n0_b36 n0_dA n0_hA n0_eA Vdi2 Vhi2 Vei2 Fzi2 rfl rfl rfl rfl (by decide) (by decide) rfl rfl rfl) (by simp) at_184 (pc' := 187) rfl rfl (argsL := [(.int (2 : Int32))]) rfl rfl (rest := []) rfl (wt := 0) (Nat.le_of_eq rfl) (by decide) (by decide) (by decide) (by decide) ?_
              rintro v143 T143 h143 W143 z143 ⟨rfl, Kr, HXr, Fzr, Ver, Vdr, Vhr⟩
              replace Vdr : Arv Z h143 dA kd .long 16 [(.long x2), (.long x0), (.long x1), (.long (0 : Int64)), (.long (0 : Int64)), (.long (0 : Int64)), (.long (0 : Int64)), (.long (0 : Int64)), (.long (0 : Int64)), (.long (0 : Int64)), (.long (0 : Int64)), (.long (0 : Int64)), (.long (0 : Int64)), (.long (0 : Int64)), (.long (0 : Int64)), (.long (0 : Int64))] (.long 0) := Vdr
              replace Vhr : Arv Z h143 hA kh .int 16 [(.int (2 : Int32)), (.int (0 : Int32)), (.int (1 : Int32)), (.int (3 : Int32)), (.int (4 : Int32)), (.int (5 : Int32)), (.int (6 : Int32)), (.int (7 : Int32)), (.int (8 : Int32)), (.int (9 : Int32)), (.int (10 : Int32)), (.int (11 : Int32)), (.int (12 : Int32)), (.int (13 : Int32)), (.int (14 : Int32)), (.int (15 : Int32))] (.int 0) := Vhr
              replace Ver : Arv Z h143 eA ke (.object "java/lang/Object") 16 [(.ref b2), .null, (.ref b22), .null, .null, .null, .null, .null, .null, .null, .null, .null, .null, .null, .null, .null] .null := Ver
              show Go p e below _ T143 (mkF m 187 #[.val (.int cn), .val (.long x0), .second, .val (.long x1), .second, .val (.long x2), .second, .val (.int rm), .val (.int (3 : Int32)), .val (.int rmv), .val (.ref b1), .val (.ref b32), .val (.ref b36), .val (.int (-1 : Int32)), .unset, .unset, .unset] [(.ref b12)])
              refine s_astore W143 at_187 rfl (l' := #[.val (.int cn), .val (.long x0), .second, .val (.long x1), .second, .val (.long x2), .second, .val (.int rm), .val (.int (3 : Int32)), .val (.int rmv), .val (.ref b1), .val (.ref b32), .val (.ref b36), .val (.int (-1 : Int32)), .val (.ref b12), .unset, .unset]) rfl (pc' := 189) rfl ?_
              refine s_aload W143 at_189 rfl rfl (pc' := 191) rfl ?_
              refine s_aload W143 at_191 rfl rfl (pc' := 193) rfl ?_
              refine s_iload W143 at_193 rfl (pc' := 195) rfl ?_
              have fx144 := ((fx115.keep Ki2 (ninS (ane (by omega)) (ninS (ane (by omega)) (ninS (ane (by omega)) (ninS (ane (by omega)) nin0))))).keep Kr (ninS (ane (by omega)) (ninS (ane (by omega)) (ninS (ane (by omega)) (ninS (ane (by omega)) nin0)))))
              refine gStatic W143 (w_125 hw) (w_126 hw) (w_80 hw) (w_127 hw) (by decide) pd_15 (ct_fnd hw hEL [] b1 k1 b2 b12 b22 (3 : Int32) 3 1 h143 d01 d02 d12 fx144 (by decide) (by decide) (by decide)) (by simp) at_195 (pc' := 198) rfl rfl (argsL := [(.ref b12), (.ref b1), (.int (3 : Int32))]) rfl rfl (rest := []) rfl (wt := 0) (Nat.le_of_eq rfl) (by decide) (by decide) (by decide) (by decide) ?_
              rintro v145 T145 h145 W145 z145 ⟨rfl, rfl⟩
              show Go p e below _ T145 (mkF m 198 #[.val (.int cn), .val (.long x0), .second, .val (.long x1), .second, .val (.long x2), .second, .val (.int rm), .val (.int (3 : Int32)), .val (.int rmv), .val (.ref b1), .val (.ref b32), .val (.ref b36), .val (.int (-1 : Int32)), .val (.ref b12), .unset, .unset] [(.int (1 : Int32))])
              refine s_istore W145 at_198 (l' := #[.val (.int cn), .val (.long x0), .second, .val (.long x1), .second, .val (.long x2), .second, .val (.int rm), .val (.int (3 : Int32)), .val (.int rmv), .val (.ref b1), .val (.ref b32), .val (.ref b36), .val (.int (1 : Int32)), .val (.ref b12), .unset, .unset]) rfl (pc' := 200) rfl ?_
              refine s_iload W145 at_200 rfl (pc' := 202) rfl ?_
              refine s_ifge W145 at_202 (by decide) (pc1 := 207) (by decide) (pc2 := 205) rfl ?_ (fun q => absurd q (by decide))
              intro q202
              refine s_iload W145 at_207 rfl (pc' := 209) rfl ?_
              refine s_ifeq W145 at_209 (by decide) (pc1 := 219) (by decide) (pc2 := 212) rfl (fun q => absurd q q171) ?_
              intro q209
              refine s_iload W145 at_212 rfl (pc' := 214) rfl ?_
              refine s_iconst W145 at_214 (v := (1 : Int32)) (by decide) (pc' := 215) rfl ?_
              refine s_isub W145 at_215 (pc' := 216) rfl ?_
              rw [show ((3 : Int32) - (1 : Int32)) = (2 : Int32) from by decide]
              refine s_goto W145 at_216 (by decide) (pc' := 221) (by decide) ?_
              refine s_istore W145 at_221 (l' := #[.val (.int cn), .val (.long x0), .second, .val (.long x1), .second, .val (.long x2), .second, .val (.int rm), .val (.int (3 : Int32)), .val (.int rmv), .val (.ref b1), .val (.ref b32), .val (.ref b36), .val (.int (1 : Int32)), .val (.int (2 : Int32)), .unset, .unset]) rfl (pc' := 223) rfl ?_
              have fx146 := ((((fx42.keep Ki0 (ninS (ane (by omega)) (ninS (ane (by omega)) (ninS (ane (by omega)) (ninS (ane (by omega)) nin0))))).keep Ki1 (ninS (ane (by omega)) (ninS (ane (by omega)) (ninS (ane (by omega)) (ninS (ane (by omega)) nin0))))).keep Ki2 (ninS (ane (by omega)) (ninS (ane (by omega)) (ninS (ane (by omega)) (ninS (ane (by omega)) nin0))))).keep Kr (ninS (ane (by omega)) (ninS (ane (by omega)) (ninS (ane (by omega)) (ninS (ane (by omega)) nin0)))))
              have fx147 := ((((fx38.keep Ki0).keep Ki1).keep Ki2).keep Kr)
              have fx148 := (((fx113.keep Ki1).keep Ki2).keep Kr)
              have fx149 := ((fx116.keep Ki2).keep Kr)
              exact tailB T145 h143 2 (1 : Int32) (fun i => [2, 0, 1].getD i 0) [(.int (2 : Int32)), (.int (0 : Int32)), (.int (1 : Int32)), (.int (3 : Int32)), (.int (4 : Int32)), (.int (5 : Int32)), (.int (6 : Int32)), (.int (7 : Int32)), (.int (8 : Int32)), (.int (9 : Int32)), (.int (10 : Int32)), (.int (11 : Int32)), (.int (12 : Int32)), (.int (13 : Int32)), (.int (14 : Int32)), (.int (15 : Int32))] [(.ref b2), .null, (.ref b22), .null, .null, .null, .null, .null, .null, .null, .null, .null, .null, .null, .null, .null] W145 HXr Fzr Vhr Ver fx144 fx146 fx147 fx148 fx149 (by decide) (by intro i hi; rcases (by omega : i = 0 ∨ i = 1 ∨ i = 2) with rfl | rfl | rfl <;> first | (exact absurd hi (by decide)) | exact ⟨rfl, by decide, by decide, rfl⟩) (by intro i j hi hj q; rcases (by omega : i = 0 ∨ i = 1 ∨ i = 2) with rfl | rfl | rfl <;> rcases (by omega : j = 0 ∨ j = 1 ∨ j = 2) with rfl | rfl | rfl <;> first | rfl | exact absurd q (by decide) | (exact absurd hi (by decide)) | (exact absurd hj (by decide))) (fun _ => min3 (f := fun t => [x0, x1, x2].getD ((fun i => [2, 0, 1].getD i 0) 0) 0 ≤ [x0, x1, x2].getD t 0) (by decide) (fun _ _ => show x2 ≤ x0 from le64 (by omega)) (fun _ r => absurd rfl r) (fun _ _ => show x2 ≤ x2 from le64 (by omega)))
        · rw [if_neg ci2] at Qi2
          obtain ⟨Vdi2, Vhi2⟩ := Qi2
          have mi2 := nlt64 ci2
          replace Vdi2 : Arv Z h117 dA kd .long 16 [(.long x1), (.long x0), (.long x2), (.long (0 : Int64)), (.long (0 : Int64)), (.long (0 : Int64)), (.long (0 : Int64)), (.long (0 : Int64)), (.long (0 : Int64)), (.long (0 : Int64)), (.long (0 : Int64)), (.long (0 : Int64)), (.long (0 : Int64)), (.long (0 : Int64)), (.long (0 : Int64)), (.long (0 : Int64))] (.long 0) := Vdi2
          replace Vhi2 : Arv Z h117 hA kh .int 16 [(.int (1 : Int32)), (.int (0 : Int32)), (.int (2 : Int32)), (.int (3 : Int32)), (.int (4 : Int32)), (.int (5 : Int32)), (.int (6 : Int32)), (.int (7 : Int32)), (.int (8 : Int32)), (.int (9 : Int32)), (.int (10 : Int32)), (.int (11 : Int32)), (.int (12 : Int32)), (.int (13 : Int32)), (.int (14 : Int32)), (.int (15 : Int32))] (.int 0) := Vhi2
          replace Vei2 : Arv Z h117 eA ke (.object "java/lang/Object") 16 [(.ref b2), (.ref b12), (.ref b22), .null, .null, .null, .null, .null, .null, .null, .null, .null, .null, .null, .null, .null] .null := Vei2
          show Go p e below _ T117 (mkF m 165 #[.val (.int cn), .val (.long x0), .second, .val (.long x1), .second, .val (.long x2), .second, .val (.int rm), .val (.int (3 : Int32)), .val (.int rmv), .val (.ref b1), .val (.ref b32), .val (.ref b36), .unset, .unset, .unset, .unset] [(.int ri2)])
          refine s_pop W117 at_165 rfl (pc' := 166) rfl ?_
          refine s_iconst W117 at_166 (v := (-1 : Int32)) (by decide) (pc' := 167) rfl ?_
          refine s_istore W117 at_167 (l' := #[.val (.int cn), .val (.long x0), .second, .val (.long x1), .second, .val (.long x2), .second, .val (.int rm), .val (.int (3 : Int32)), .val (.int rmv), .val (.ref b1), .val (.ref b32), .val (.ref b36), .val (.int (-1 : Int32)), .unset, .unset, .unset]) rfl (pc' := 169) rfl ?_
          refine s_iload W117 at_169 rfl (pc' := 171) rfl ?_
          refine s_ifeq W117 at_171 (by decide) (pc1 := 207) (by decide) (pc2 := 174) rfl ?_ ?_
          · intro q171
            refine s_iload W117 at_207 rfl (pc' := 209) rfl ?_
            refine s_ifeq W117 at_209 (by decide) (pc1 := 219) (by decide) (pc2 := 212) rfl ?_ (fun q => (q q171).elim)
            intro q209
            refine s_iload W117 at_219 rfl (pc' := 221) rfl ?_
            refine s_istore W117 at_221 (l' := #[.val (.int cn), .val (.long x0), .second, .val (.long x1), .second, .val (.long x2), .second, .val (.int rm), .val (.int (3 : Int32)), .val (.int rmv), .val (.ref b1), .val (.ref b32), .val (.ref b36), .val (.int (-1 : Int32)), .val (.int (3 : Int32)), .unset, .unset]) rfl (pc' := 223) rfl ?_
            have fx150 := (fx115.keep Ki2 (ninS (ane (by omega)) (ninS (ane (by omega)) (ninS (ane (by omega)) (ninS (ane (by omega)) nin0)))))
            have fx151 := (((fx42.keep Ki0 (ninS (ane (by omega)) (ninS (ane (by omega)) (ninS (ane (by omega)) (ninS (ane (by omega)) nin0))))).keep Ki1 (ninS (ane (by omega)) (ninS (ane (by omega)) (ninS (ane (by omega)) (ninS (ane (by omega)) nin0))))).keep Ki2 (ninS (ane (by omega)) (ninS (ane (by omega)) (ninS (ane (by omega)) (ninS (ane (by omega)) nin0)))))
            have fx152 := (((fx38.keep Ki0).keep Ki1).keep Ki2)
            have fx153 := ((fx113.keep Ki1).keep Ki2)
            have fx154 := (fx116.keep Ki2)
            exact tailB T117 h117 3 (-1 : Int32) (fun i => [1, 0, 2].getD i 0) [(.int (1 : Int32)), (.int (0 : Int32)), (.int (2 : Int32)), (.int (3 : Int32)), (.int (4 : Int32)), (.int (5 : Int32)), (.int (6 : Int32)), (.int (7 : Int32)), (.int (8 : Int32)), (.int (9 : Int32)), (.int (10 : Int32)), (.int (11 : Int32)), (.int (12 : Int32)), (.int (13 : Int32)), (.int (14 : Int32)), (.int (15 : Int32))] [(.ref b2), (.ref b12), (.ref b22), .null, .null, .null, .null, .null, .null, .null, .null, .null, .null, .null, .null, .null] W117 HXi2 Fzi2 Vhi2 Vei2 fx150 fx151 fx152 fx153 fx154 (by decide) (by intro i hi; rcases (by omega : i = 0 ∨ i = 1 ∨ i = 2) with rfl | rfl | rfl <;> first | (exact absurd hi (by decide)) | exact ⟨rfl, by decide, by decide, rfl⟩) (by intro i j hi hj q; rcases (by omega : i = 0 ∨ i = 1 ∨ i = 2) with rfl | rfl | rfl <;> rcases (by omega : j = 0 ∨ j = 1 ∨ j = 2) with rfl | rfl | rfl <;> first | rfl | exact absurd q (by decide) | (exact absurd hi (by decide)) | (exact absurd hj (by decide))) (fun _ => min3 (f := fun t => [x0, x1, x2].getD ((fun i => [1, 0, 2].getD i 0) 0) 0 ≤ [x0, x1, x2].getD t 0) (by decide) (fun _ _ => show x1 ≤ x0 from le64 (by omega)) (fun _ _ => show x1 ≤ x1 from le64 (by omega)) (fun _ _ => show x1 ≤ x2 from le64 (by omega)))
          · intro q171
            refine s_aload W117 at_174 rfl rfl (pc' := 176) rfl ?_
            refine s_iload W117 at_176 rfl (pc' := 178) rfl ?_
            refine s_ldcI W117 (w_110 hw) at_178 (pc' := 180) rfl ?_
            refine s_iand W117 at_180 (pc' := 181) rfl ?_
            refine s_iload W117 at_181 rfl (pc' := 183) rfl ?_
            refine s_irem W117 at_183 (by decide) (pc' := 184) rfl ?_
            obtain ⟨r, hr, er⟩ := remL rm (n := 3) (by decide) (by decide)
            rw [show (rm &&& (2147483647 : Int32)) % (3 : Int32) = Int32.ofNat r from er]
            rcases (by omega : r = 0 ∨ r = 1 ∨ r = 2) with rfl | rfl | rfl
            · show Go p e below _ T117 (mkF m 184 #[.val (.int cn), .val (.long x0), .second, .val (.long x1), .second, .val (.long x2), .second, .val (.int rm), .val (.int (3 : Int32)), .val (.int rmv), .val (.ref b1), .val (.ref b32), .val (.ref b36), .val (.int (-1 : Int32)), .unset, .unset, .unset] [(.int (0 : Int32)), (.ref b36)])
              refine gVirtual W117 HXi2.1 (w_111 hw) (w_112 hw) (fun s hZ => notFace_of_selects (args := #[]) (mv hZ (w_114 hw))) (w_114 hw) (w_113 hw) (w_36 hw) (w_115 hw) (by decide) pd_10 (ct_rem30 hw hEL [] b36 dA hA eA b12 kd kh ke x2 x0 (1 : Int32) (2 : Int32) (0 : Int32) 1 [(.long x1), (.long x0), (.long x2), (.long (0 : Int64)), (.long (0 : Int64)), (.long (0 : Int64)), (.long (0 : Int64)), (.long (0 : Int64)), (.long (0 : Int64)), (.long (0 : Int64)), (.long (0 : Int64)), (.long (0 : Int64)), (.long (0 : Int64)), (.long (0 : Int64)), (.long (0 : Int64)), (.long (0 : Int64))] [(.int (1 : Int32)), (.int (0 : Int32)), (.int (2 : Int32)), (.int (3 : Int32)), (.int (4 : Int32)), (.int (5 : Int32)), (.int (6 : Int32)), (.int (7 : Int32)), (.int (8 : Int32)), (.int (9 : Int32)), (.int (10 : Int32)), (.int (11 : Int32)), (.int (12 : Int32)), (.int (13 : Int32)), (.int (14 : Int32)), (.int (15 : Int32))] [(.ref b2), (.ref b12), (.ref b22), .null, .null, .null, .null, .null, .null, .null, .null, .null, .null, .null, .null, .null] h117 HXi2 HN n0_b36 n0_dA n0_hA n0_eA Vdi2 Vhi2 Vei2 Fzi2 rfl rfl rfl rfl (by decide) (by decide) rfl rfl rfl rfl rfl) (by simp) at_184 (pc' := 187) rfl rfl (argsL := [(.int (0 : Int32))]) rfl rfl (rest := []) rfl (wt := 0) (Nat.le_of_eq rfl) (by decide) (by decide) (by decide) (by decide) ?_
              rintro v155 T155 h155 W155 z155 ⟨rfl, Kr, HXr, Fzr, Ver, Qr⟩
              by_cases cr : x0 < x2
              · rw [if_pos cr] at Qr
                obtain ⟨Vdr, Vhr⟩ := Qr
                have mr := lt64 cr
                replace Vdr : Arv Z h155 dA kd .long 16 [(.long x0), (.long x2), (.long x2), (.long (0 : Int64)), (.long (0 : Int64)), (.long (0 : Int64)), (.long (0 : Int64)), (.long (0 : Int64)), (.long (0 : Int64)), (.long (0 : Int64)), (.long (0 : Int64)), (.long (0 : Int64)), (.long (0 : Int64)), (.long (0 : Int64)), (.long (0 : Int64)), (.long (0 : Int64))] (.long 0) := Vdr
                replace Vhr : Arv Z h155 hA kh .int 16 [(.int (0 : Int32)), (.int (2 : Int32)), (.int (1 : Int32)), (.int (3 : Int32)), (.int (4 : Int32)), (.int (5 : Int32)), (.int (6 : Int32)), (.int (7 : Int32)), (.int (8 : Int32)), (.int (9 : Int32)), (.int (10 : Int32)), (.int (11 : Int32)), (.int (12 : Int32)), (.int (13 : Int32)), (.int (14 : Int32)), (.int (15 : Int32))] (.int 0) := Vhr
                replace Ver : Arv Z h155 eA ke (.object "java/lang/Object") 16 [(.ref b2), .null, (.ref b22), .null, .null, .null, .null, .null, .null, .null, .null, .null, .null, .null, .null, .null] .null := Ver
                show Go p e below _ T155 (mkF m 187 #[.val (.int cn), .val (.long x0), .second, .val (.long x1), .second, .val (.long x2), .second, .val (.int rm), .val (.int (3 : Int32)), .val (.int rmv), .val (.ref b1), .val (.ref b32), .val (.ref b36), .val (.int (-1 : Int32)), .unset, .unset, .unset] [(.ref b12)])
                refine s_astore W155 at_187 rfl (l' := #[.val (.int cn), .val (.long x0), .second, .val (.long x1), .second, .val (.long x2), .second, .val (.int rm), .val (.int (3 : Int32)), .val (.int rmv), .val (.ref b1), .val (.ref b32), .val (.ref b36), .val (.int (-1 : Int32)), .val (.ref b12), .unset, .unset]) rfl (pc' := 189) rfl ?_
                refine s_aload W155 at_189 rfl rfl (pc' := 191) rfl ?_
                refine s_aload W155 at_191 rfl rfl (pc' := 193) rfl ?_
                refine s_iload W155 at_193 rfl (pc' := 195) rfl ?_
                have fx156 := ((fx115.keep Ki2 (ninS (ane (by omega)) (ninS (ane (by omega)) (ninS (ane (by omega)) (ninS (ane (by omega)) nin0))))).keep Kr (ninS (ane (by omega)) (ninS (ane (by omega)) (ninS (ane (by omega)) (ninS (ane (by omega)) nin0)))))
                refine gStatic W155 (w_125 hw) (w_126 hw) (w_80 hw) (w_127 hw) (by decide) pd_15 (ct_fnd hw hEL [] b1 k1 b2 b12 b22 (3 : Int32) 3 1 h155 d01 d02 d12 fx156 (by decide) (by decide) (by decide)) (by simp) at_195 (pc' := 198) rfl rfl (argsL := [(.ref b12), (.ref b1), (.int (3 : Int32))]) rfl rfl (rest := []) rfl (wt := 0) (Nat.le_of_eq rfl) (by decide) (by decide) (by decide) (by decide) ?_
                rintro v157 T157 h157 W157 z157 ⟨rfl, rfl⟩
                show Go p e below _ T157 (mkF m 198 #[.val (.int cn), .val (.long x0), .second, .val (.long x1), .second, .val (.long x2), .second, .val (.int rm), .val (.int (3 : Int32)), .val (.int rmv), .val (.ref b1), .val (.ref b32), .val (.ref b36), .val (.int (-1 : Int32)), .val (.ref b12), .unset, .unset] [(.int (1 : Int32))])
                refine s_istore W157 at_198 (l' := #[.val (.int cn), .val (.long x0), .second, .val (.long x1), .second, .val (.long x2), .second, .val (.int rm), .val (.int (3 : Int32)), .val (.int rmv), .val (.ref b1), .val (.ref b32), .val (.ref b36), .val (.int (1 : Int32)), .val (.ref b12), .unset, .unset]) rfl (pc' := 200) rfl ?_
                refine s_iload W157 at_200 rfl (pc' := 202) rfl ?_
                refine s_ifge W157 at_202 (by decide) (pc1 := 207) (by decide) (pc2 := 205) rfl ?_ (fun q => absurd q (by decide))
                intro q202
                refine s_iload W157 at_207 rfl (pc' := 209) rfl ?_
                refine s_ifeq W157 at_209 (by decide) (pc1 := 219) (by decide) (pc2 := 212) rfl (fun q => absurd q q171) ?_
                intro q209
                refine s_iload W157 at_212 rfl (pc' := 214) rfl ?_
                refine s_iconst W157 at_214 (v := (1 : Int32)) (by decide) (pc' := 215) rfl ?_
                refine s_isub W157 at_215 (pc' := 216) rfl ?_
                rw [show ((3 : Int32) - (1 : Int32)) = (2 : Int32) from by decide]
                refine s_goto W157 at_216 (by decide) (pc' := 221) (by decide) ?_
                refine s_istore W157 at_221 (l' := #[.val (.int cn), .val (.long x0), .second, .val (.long x1), .second, .val (.long x2), .second, .val (.int rm), .val (.int (3 : Int32)), .val (.int rmv), .val (.ref b1), .val (.ref b32), .val (.ref b36), .val (.int (1 : Int32)), .val (.int (2 : Int32)), .unset, .unset]) rfl (pc' := 223) rfl ?_
                have fx158 := ((((fx42.keep Ki0 (ninS (ane (by omega)) (ninS (ane (by omega)) (ninS (ane (by omega)) (ninS (ane (by omega)) nin0))))).keep Ki1 (ninS (ane (by omega)) (ninS (ane (by omega)) (ninS (ane (by omega)) (ninS (ane (by omega)) nin0))))).keep Ki2 (ninS (ane (by omega)) (ninS (ane (by omega)) (ninS (ane (by omega)) (ninS (ane (by omega)) nin0))))).keep Kr (ninS (ane (by omega)) (ninS (ane (by omega)) (ninS (ane (by omega)) (ninS (ane (by omega)) nin0)))))
                have fx159 := ((((fx38.keep Ki0).keep Ki1).keep Ki2).keep Kr)
                have fx160 := (((fx113.keep Ki1).keep Ki2).keep Kr)
                have fx161 := ((fx116.keep Ki2).keep Kr)
                exact tailB T157 h155 2 (1 : Int32) (fun i => [0, 2, 1].getD i 0) [(.int (0 : Int32)), (.int (2 : Int32)), (.int (1 : Int32)), (.int (3 : Int32)), (.int (4 : Int32)), (.int (5 : Int32)), (.int (6 : Int32)), (.int (7 : Int32)), (.int (8 : Int32)), (.int (9 : Int32)), (.int (10 : Int32)), (.int (11 : Int32)), (.int (12 : Int32)), (.int (13 : Int32)), (.int (14 : Int32)), (.int (15 : Int32))] [(.ref b2), .null, (.ref b22), .null, .null, .null, .null, .null, .null, .null, .null, .null, .null, .null, .null, .null] W157 HXr Fzr Vhr Ver fx156 fx158 fx159 fx160 fx161 (by decide) (by intro i hi; rcases (by omega : i = 0 ∨ i = 1 ∨ i = 2) with rfl | rfl | rfl <;> first | (exact absurd hi (by decide)) | exact ⟨rfl, by decide, by decide, rfl⟩) (by intro i j hi hj q; rcases (by omega : i = 0 ∨ i = 1 ∨ i = 2) with rfl | rfl | rfl <;> rcases (by omega : j = 0 ∨ j = 1 ∨ j = 2) with rfl | rfl | rfl <;> first | rfl | exact absurd q (by decide) | (exact absurd hi (by decide)) | (exact absurd hj (by decide))) (fun _ => min3 (f := fun t => [x0, x1, x2].getD ((fun i => [0, 2, 1].getD i 0) 0) 0 ≤ [x0, x1, x2].getD t 0) (by decide) (fun _ _ => show x0 ≤ x0 from le64 (by omega)) (fun _ r => absurd rfl r) (fun _ _ => show x0 ≤ x2 from le64 (by omega)))
              · rw [if_neg cr] at Qr
                obtain ⟨Vdr, Vhr⟩ := Qr
                have mr := nlt64 cr
                replace Vdr : Arv Z h155 dA kd .long 16 [(.long x2), (.long x0), (.long x2), (.long (0 : Int64)), (.long (0 : Int64)), (.long (0 : Int64)), (.long (0 : Int64)), (.long (0 : Int64)), (.long (0 : Int64)), (.long (0 : Int64)), (.long (0 : Int64)), (.long (0 : Int64)), (.long (0 : Int64)), (.long (0 : Int64)), (.long (0 : Int64)), (.long (0 : Int64))] (.long 0) := Vdr
                replace Vhr : Arv Z h155 hA kh .int 16 [(.int (2 : Int32)), (.int (0 : Int32)), (.int (1 : Int32)), (.int (3 : Int32)), (.int (4 : Int32)), (.int (5 : Int32)), (.int (6 : Int32)), (.int (7 : Int32)), (.int (8 : Int32)), (.int (9 : Int32)), (.int (10 : Int32)), (.int (11 : Int32)), (.int (12 : Int32)), (.int (13 : Int32)), (.int (14 : Int32)), (.int (15 : Int32))] (.int 0) := Vhr
                replace Ver : Arv Z h155 eA ke (.object "java/lang/Object") 16 [(.ref b2), .null, (.ref b22), .null, .null, .null, .null, .null, .null, .null, .null, .null, .null, .null, .null, .null] .null := Ver
                show Go p e below _ T155 (mkF m 187 #[.val (.int cn), .val (.long x0), .second, .val (.long x1), .second, .val (.long x2), .second, .val (.int rm), .val (.int (3 : Int32)), .val (.int rmv), .val (.ref b1), .val (.ref b32), .val (.ref b36), .val (.int (-1 : Int32)), .unset, .unset, .unset] [(.ref b12)])
                refine s_astore W155 at_187 rfl (l' := #[.val (.int cn), .val (.long x0), .second, .val (.long x1), .second, .val (.long x2), .second, .val (.int rm), .val (.int (3 : Int32)), .val (.int rmv), .val (.ref b1), .val (.ref b32), .val (.ref b36), .val (.int (-1 : Int32)), .val (.ref b12), .unset, .unset]) rfl (pc' := 189) rfl ?_
                refine s_aload W155 at_189 rfl rfl (pc' := 191) rfl ?_
                refine s_aload W155 at_191 rfl rfl (pc' := 193) rfl ?_
                refine s_iload W155 at_193 rfl (pc' := 195) rfl ?_
                have fx162 := ((fx115.keep Ki2 (ninS (ane (by omega)) (ninS (ane (by omega)) (ninS (ane (by omega)) (ninS (ane (by omega)) nin0))))).keep Kr (ninS (ane (by omega)) (ninS (ane (by omega)) (ninS (ane (by omega)) (ninS (ane (by omega)) nin0)))))
                refine gStatic W155 (w_125 hw) (w_126 hw) (w_80 hw) (w_127 hw) (by decide) pd_15 (ct_fnd hw hEL [] b1 k1 b2 b12 b22 (3 : Int32) 3 1 h155 d01 d02 d12 fx162 (by decide) (by decide) (by decide)) (by simp) at_195 (pc' := 198) rfl rfl (argsL := [(.ref b12), (.ref b1), (.int (3 : Int32))]) rfl rfl (rest := []) rfl (wt := 0) (Nat.le_of_eq rfl) (by decide) (by decide) (by decide) (by decide) ?_
                rintro v163 T163 h163 W163 z163 ⟨rfl, rfl⟩
                show Go p e below _ T163 (mkF m 198 #[.val (.int cn), .val (.long x0), .second, .val (.long x1), .second, .val (.long x2), .second, .val (.int rm), .val (.int (3 : Int32)), .val (.int rmv), .val (.ref b1), .val (.ref b32), .val (.ref b36), .val (.int (-1 : Int32)), .val (.ref b12), .unset, .unset] [(.int (1 : Int32))])
                refine s_istore W163 at_198 (l' := #[.val (.int cn), .val (.long x0), .second, .val (.long x1), .second, .val (.long x2), .second, .val (.int rm), .val (.int (3 : Int32)), .val (.int rmv), .val (.ref b1), .val (.ref b32), .val (.ref b36), .val (.int (1 : Int32)), .val (.ref b12), .unset, .unset]) rfl (pc' := 200) rfl ?_
                refine s_iload W163 at_200 rfl (pc' := 202) rfl ?_
                refine s_ifge W163 at_202 (by decide) (pc1 := 207) (by decide) (pc2 := 205) rfl ?_ (fun q => absurd q (by decide))
                intro q202
                refine s_iload W163 at_207 rfl (pc' := 209) rfl ?_
                refine s_ifeq W163 at_209 (by decide) (pc1 := 219) (by decide) (pc2 := 212) rfl (fun q => absurd q q171) ?_
                intro q209
                refine s_iload W163 at_212 rfl (pc' := 214) rfl ?_
                refine s_iconst W163 at_214 (v := (1 : Int32)) (by decide) (pc' := 215) rfl ?_
                refine s_isub W163 at_215 (pc' := 216) rfl ?_
                rw [show ((3 : Int32) - (1 : Int32)) = (2 : Int32) from by decide]
                refine s_goto W163 at_216 (by decide) (pc' := 221) (by decide) ?_
                refine s_istore W163 at_221 (l' := #[.val (.int cn), .val (.long x0), .second, .val (.long x1), .second, .val (.long x2), .second, .val (.int rm), .val (.int (3 : Int32)), .val (.int rmv), .val (.ref b1), .val (.ref b32), .val (.ref b36), .val (.int (1 : Int32)), .val (.int (2 : Int32)), .unset, .unset]) rfl (pc' := 223) rfl ?_
                have fx164 := ((((fx42.keep Ki0 (ninS (ane (by omega)) (ninS (ane (by omega)) (ninS (ane (by omega)) (ninS (ane (by omega)) nin0))))).keep Ki1 (ninS (ane (by omega)) (ninS (ane (by omega)) (ninS (ane (by omega)) (ninS (ane (by omega)) nin0))))).keep Ki2 (ninS (ane (by omega)) (ninS (ane (by omega)) (ninS (ane (by omega)) (ninS (ane (by omega)) nin0))))).keep Kr (ninS (ane (by omega)) (ninS (ane (by omega)) (ninS (ane (by omega)) (ninS (ane (by omega)) nin0)))))
                have fx165 := ((((fx38.keep Ki0).keep Ki1).keep Ki2).keep Kr)
                have fx166 := (((fx113.keep Ki1).keep Ki2).keep Kr)
                have fx167 := ((fx116.keep Ki2).keep Kr)
                exact tailB T163 h155 2 (1 : Int32) (fun i => [2, 0, 1].getD i 0) [(.int (2 : Int32)), (.int (0 : Int32)), (.int (1 : Int32)), (.int (3 : Int32)), (.int (4 : Int32)), (.int (5 : Int32)), (.int (6 : Int32)), (.int (7 : Int32)), (.int (8 : Int32)), (.int (9 : Int32)), (.int (10 : Int32)), (.int (11 : Int32)), (.int (12 : Int32)), (.int (13 : Int32)), (.int (14 : Int32)), (.int (15 : Int32))] [(.ref b2), .null, (.ref b22), .null, .null, .null, .null, .null, .null, .null, .null, .null, .null, .null, .null, .null] W163 HXr Fzr Vhr Ver fx162 fx164 fx165 fx166 fx167 (by decide) (by intro i hi; rcases (by omega : i = 0 ∨ i = 1 ∨ i = 2) with rfl | rfl | rfl <;> first | (exact absurd hi (by decide)) | exact ⟨rfl, by decide, by decide, rfl⟩) (by intro i j hi hj q; rcases (by omega : i = 0 ∨ i = 1 ∨ i = 2) with rfl | rfl | rfl <;> rcases (by omega : j = 0 ∨ j = 1 ∨ j = 2) with rfl | rfl | rfl <;> first | rfl | exact absurd q (by decide) | (exact absurd hi (by decide)) | (exact absurd hj (by decide))) (fun _ => min3 (f := fun t => [x0, x1, x2].getD ((fun i => [2, 0, 1].getD i 0) 0) 0 ≤ [x0, x1, x2].getD t 0) (by decide) (fun _ _ => show x2 ≤ x0 from le64 (by omega)) (fun _ r => absurd rfl r) (fun _ _ => show x2 ≤ x2 from le64 (by omega)))
            · show Go p e below _ T117 (mkF m 184 #[.val (.int cn), .val (.long x0), .second, .val (.long x1), .second, .val (.long x2), .second, .val (.int rm), .val (.int (3 : Int32)), .val (.int rmv), .val (.ref b1), .val (.ref b32), .val (.ref b36), .val (.int (-1 : Int32)), .unset, .unset, .unset] [(.int (1 : Int32)), (.ref b36)])
              refine gVirtual W117 HXi2.1 (w_111 hw) (w_112 hw) (fun s hZ => notFace_of_selects (args := #[]) (mv hZ (w_114 hw))) (w_114 hw) (w_113 hw) (w_36 hw) (w_115 hw) (by decide) pd_10 (ct_rem31 hw hEL [] b36 dA hA eA b2 kd kh ke x2 x1 (0 : Int32) (2 : Int32) (1 : Int32) 0 [(.long x1), (.long x0), (.long x2), (.long (0 : Int64)), (.long (0 : Int64)), (.long (0 : Int64)), (.long (0 : Int64)), (.long (0 : Int64)), (.long (0 : Int64)), (.long (0 : Int64)), (.long (0 : Int64)), (.long (0 : Int64)), (.long (0 : Int64)), (.long (0 : Int64)), (.long (0 : Int64)), (.long (0 : Int64))] [(.int (1 : Int32)), (.int (0 : Int32)), (.int (2 : Int32)), (.int (3 : Int32)), (.int (4 : Int32)), (.int (5 : Int32)), (.int (6 : Int32)), (.int (7 : Int32)), (.int (8 : Int32)), (.int (9 : Int32)), (.int (10 : Int32)), (.int (11 : Int32)), (.int (12 : Int32)), (.int (13 : Int32)), (.int (14 : Int32)), (.int (15 : Int32))] [(.ref b2), (.ref b12), (.ref b22), .null, .null, .null, .null, .null, .null, .null, .null, .null, .null, .null, .null, .null] h117 HXi2 HN n0_b36 n0_dA n0_hA n0_eA Vdi2 Vhi2 Vei2 Fzi2 rfl rfl rfl rfl (by decide) (by decide) rfl rfl rfl rfl rfl (nlt64' (by omega))) (by simp) at_184 (pc' := 187) rfl rfl (argsL := [(.int (1 : Int32))]) rfl rfl (rest := []) rfl (wt := 0) (Nat.le_of_eq rfl) (by decide) (by decide) (by decide) (by decide) ?_
              rintro v168 T168 h168 W168 z168 ⟨rfl, Kr, HXr, Fzr, Ver, Vdr, Vhr⟩
              replace Vdr : Arv Z h168 dA kd .long 16 [(.long x1), (.long x2), (.long x2), (.long (0 : Int64)), (.long (0 : Int64)), (.long (0 : Int64)), (.long (0 : Int64)), (.long (0 : Int64)), (.long (0 : Int64)), (.long (0 : Int64)), (.long (0 : Int64)), (.long (0 : Int64)), (.long (0 : Int64)), (.long (0 : Int64)), (.long (0 : Int64)), (.long (0 : Int64))] (.long 0) := Vdr
              replace Vhr : Arv Z h168 hA kh .int 16 [(.int (1 : Int32)), (.int (2 : Int32)), (.int (0 : Int32)), (.int (3 : Int32)), (.int (4 : Int32)), (.int (5 : Int32)), (.int (6 : Int32)), (.int (7 : Int32)), (.int (8 : Int32)), (.int (9 : Int32)), (.int (10 : Int32)), (.int (11 : Int32)), (.int (12 : Int32)), (.int (13 : Int32)), (.int (14 : Int32)), (.int (15 : Int32))] (.int 0) := Vhr
              replace Ver : Arv Z h168 eA ke (.object "java/lang/Object") 16 [.null, (.ref b12), (.ref b22), .null, .null, .null, .null, .null, .null, .null, .null, .null, .null, .null, .null, .null] .null := Ver
              show Go p e below _ T168 (mkF m 187 #[.val (.int cn), .val (.long x0), .second, .val (.long x1), .second, .val (.long x2), .second, .val (.int rm), .val (.int (3 : Int32)), .val (.int rmv), .val (.ref b1), .val (.ref b32), .val (.ref b36), .val (.int (-1 : Int32)), .unset, .unset, .unset] [(.ref b2)])
              refine s_astore W168 at_187 rfl (l' := #[.val (.int cn), .val (.long x0), .second, .val (.long x1), .second, .val (.long x2), .second, .val (.int rm), .val (.int (3 : Int32)), .val (.int rmv), .val (.ref b1), .val (.ref b32), .val (.ref b36), .val (.int (-1 : Int32)), .val (.ref b2), .unset, .unset]) rfl (pc' := 189) rfl ?_
              refine s_aload W168 at_189 rfl rfl (pc' := 191) rfl ?_
              refine s_aload W168 at_191 rfl rfl (pc' := 193) rfl ?_
              refine s_iload W168 at_193 rfl (pc' := 195) rfl ?_
              have fx169 := ((fx115.keep Ki2 (ninS (ane (by omega)) (ninS (ane (by omega)) (ninS (ane (by omega)) (ninS (ane (by omega)) nin0))))).keep Kr (ninS (ane (by omega)) (ninS (ane (by omega)) (ninS (ane (by omega)) (ninS (ane (by omega)) nin0)))))
              refine gStatic W168 (w_125 hw) (w_126 hw) (w_80 hw) (w_127 hw) (by decide) pd_15 (ct_fnd hw hEL [] b1 k1 b2 b12 b22 (3 : Int32) 3 0 h168 d01 d02 d12 fx169 (by decide) (by decide) (by decide)) (by simp) at_195 (pc' := 198) rfl rfl (argsL := [(.ref b2), (.ref b1), (.int (3 : Int32))]) rfl rfl (rest := []) rfl (wt := 0) (Nat.le_of_eq rfl) (by decide) (by decide) (by decide) (by decide) ?_
              rintro v170 T170 h170 W170 z170 ⟨rfl, rfl⟩
              show Go p e below _ T170 (mkF m 198 #[.val (.int cn), .val (.long x0), .second, .val (.long x1), .second, .val (.long x2), .second, .val (.int rm), .val (.int (3 : Int32)), .val (.int rmv), .val (.ref b1), .val (.ref b32), .val (.ref b36), .val (.int (-1 : Int32)), .val (.ref b2), .unset, .unset] [(.int (0 : Int32))])
              refine s_istore W170 at_198 (l' := #[.val (.int cn), .val (.long x0), .second, .val (.long x1), .second, .val (.long x2), .second, .val (.int rm), .val (.int (3 : Int32)), .val (.int rmv), .val (.ref b1), .val (.ref b32), .val (.ref b36), .val (.int (0 : Int32)), .val (.ref b2), .unset, .unset]) rfl (pc' := 200) rfl ?_
              refine s_iload W170 at_200 rfl (pc' := 202) rfl ?_
              refine s_ifge W170 at_202 (by decide) (pc1 := 207) (by decide) (pc2 := 205) rfl ?_ (fun q => absurd q (by decide))
              intro q202
              refine s_iload W170 at_207 rfl (pc' := 209) rfl ?_
              refine s_ifeq W170 at_209 (by decide) (pc1 := 219) (by decide) (pc2 := 212) rfl (fun q => absurd q q171) ?_
              intro q209
              refine s_iload W170 at_212 rfl (pc' := 214) rfl ?_
              refine s_iconst W170 at_214 (v := (1 : Int32)) (by decide) (pc' := 215) rfl ?_
              refine s_isub W170 at_215 (pc' := 216) rfl ?_
              rw [show ((3 : Int32) - (1 : Int32)) = (2 : Int32) from by decide]
              refine s_goto W170 at_216 (by decide) (pc' := 221) (by decide) ?_
              refine s_istore W170 at_221 (l' := #[.val (.int cn), .val (.long x0), .second, .val (.long x1), .second, .val (.long x2), .second, .val (.int rm), .val (.int (3 : Int32)), .val (.int rmv), .val (.ref b1), .val (.ref b32), .val (.ref b36), .val (.int (0 : Int32)), .val (.int (2 : Int32)), .unset, .unset]) rfl (pc' := 223) rfl ?_
              have fx171 := ((((fx42.keep Ki0 (ninS (ane (by omega)) (ninS (ane (by omega)) (ninS (ane (by omega)) (ninS (ane (by omega)) nin0))))).keep Ki1 (ninS (ane (by omega)) (ninS (ane (by omega)) (ninS (ane (by omega)) (ninS (ane (by omega)) nin0))))).keep Ki2 (ninS (ane (by omega)) (ninS (ane (by omega)) (ninS (ane (by omega)) (ninS (ane (by omega)) nin0))))).keep Kr (ninS (ane (by omega)) (ninS (ane (by omega)) (ninS (ane (by omega)) (ninS (ane (by omega)) nin0)))))
              have fx172 := ((((fx38.keep Ki0).keep Ki1).keep Ki2).keep Kr)
              have fx173 := (((fx113.keep Ki1).keep Ki2).keep Kr)
              have fx174 := ((fx116.keep Ki2).keep Kr)
              exact tailB T170 h168 2 (0 : Int32) (fun i => [1, 2, 0].getD i 0) [(.int (1 : Int32)), (.int (2 : Int32)), (.int (0 : Int32)), (.int (3 : Int32)), (.int (4 : Int32)), (.int (5 : Int32)), (.int (6 : Int32)), (.int (7 : Int32)), (.int (8 : Int32)), (.int (9 : Int32)), (.int (10 : Int32)), (.int (11 : Int32)), (.int (12 : Int32)), (.int (13 : Int32)), (.int (14 : Int32)), (.int (15 : Int32))] [.null, (.ref b12), (.ref b22), .null, .null, .null, .null, .null, .null, .null, .null, .null, .null, .null, .null, .null] W170 HXr Fzr Vhr Ver fx169 fx171 fx172 fx173 fx174 (by decide) (by intro i hi; rcases (by omega : i = 0 ∨ i = 1 ∨ i = 2) with rfl | rfl | rfl <;> first | (exact absurd hi (by decide)) | exact ⟨rfl, by decide, by decide, rfl⟩) (by intro i j hi hj q; rcases (by omega : i = 0 ∨ i = 1 ∨ i = 2) with rfl | rfl | rfl <;> rcases (by omega : j = 0 ∨ j = 1 ∨ j = 2) with rfl | rfl | rfl <;> first | rfl | exact absurd q (by decide) | (exact absurd hi (by decide)) | (exact absurd hj (by decide))) (fun _ => min3 (f := fun t => [x0, x1, x2].getD ((fun i => [1, 2, 0].getD i 0) 0) 0 ≤ [x0, x1, x2].getD t 0) (by decide) (fun _ r => absurd rfl r) (fun _ _ => show x1 ≤ x1 from le64 (by omega)) (fun _ _ => show x1 ≤ x2 from le64 (by omega)))
            · show Go p e below _ T117 (mkF m 184 #[.val (.int cn), .val (.long x0), .second, .val (.long x1), .second, .val (.long x2), .second, .val (.int rm), .val (.int (3 : Int32)), .val (.int rmv), .val (.ref b1), .val (.ref b32), .val (.ref b36), .val (.int (-1 : Int32)), .unset, .unset, .unset] [(.int (2 : Int32)), (.ref b36)])
              refine gVirtual W117 HXi2.1 (w_111 hw) (w_112 hw) (fun s hZ => notFace_of_selects (args := #[]) (mv hZ (w_114 hw))) (w_114 hw) (w_113 hw) (w_36 hw) (w_115 hw) (by decide) pd_10 (ct_rem32 hw hEL [] b36 dA hA eA b22 kd kh ke x2 (2 : Int32) (2 : Int32) 2 [(.long x1), (.long x0), (.long x2), (.long (0 : Int64)), (.long (0 : Int64)), (.long (0 : Int64)), (.long (0 : Int64)), (.long (0 : Int64)), (.long (0 : Int64)), (.long (0 : Int64)), (.long (0 : Int64)), (.long (0 : Int64)), (.long (0 : Int64)), (.long (0 : Int64)), (.long (0 : Int64)), (.long (0 : Int64))] [(.int (1 : Int32)), (.int (0 : Int32)), (.int (2 : Int32)), (.int (3 : Int32)), (.int (4 : Int32)), (.int (5 : Int32)), (.int (6 : Int32)), (.int (7 : Int32)), (.int (8 : Int32)), (.int (9 : Int32)), (.int (10 : Int32)), (.int (11 : Int32)), (.int (12 : Int32)), (.int (13 : Int32)), (.int (14 : Int32)), (.int (15 : Int32))] [(.ref b2), (.ref b12), (.ref b22), .null, .null, .null, .null, .null, .null, .null, .null, .null, .null, .null, .null, .null] h117 HXi2 HN n0_b36 n0_dA n0_hA n0_eA Vdi2 Vhi2 Vei2 Fzi2 rfl rfl rfl rfl (by decide) (by decide) rfl rfl rfl) (by simp) at_184 (pc' := 187) rfl rfl (argsL := [(.int (2 : Int32))]) rfl rfl (rest := []) rfl (wt := 0) (Nat.le_of_eq rfl) (by decide) (by decide) (by decide) (by decide) ?_
              rintro v175 T175 h175 W175 z175 ⟨rfl, Kr, HXr, Fzr, Ver, Vdr, Vhr⟩
              replace Vdr : Arv Z h175 dA kd .long 16 [(.long x1), (.long x0), (.long x2), (.long (0 : Int64)), (.long (0 : Int64)), (.long (0 : Int64)), (.long (0 : Int64)), (.long (0 : Int64)), (.long (0 : Int64)), (.long (0 : Int64)), (.long (0 : Int64)), (.long (0 : Int64)), (.long (0 : Int64)), (.long (0 : Int64)), (.long (0 : Int64)), (.long (0 : Int64))] (.long 0) := Vdr
              replace Vhr : Arv Z h175 hA kh .int 16 [(.int (1 : Int32)), (.int (0 : Int32)), (.int (2 : Int32)), (.int (3 : Int32)), (.int (4 : Int32)), (.int (5 : Int32)), (.int (6 : Int32)), (.int (7 : Int32)), (.int (8 : Int32)), (.int (9 : Int32)), (.int (10 : Int32)), (.int (11 : Int32)), (.int (12 : Int32)), (.int (13 : Int32)), (.int (14 : Int32)), (.int (15 : Int32))] (.int 0) := Vhr
              replace Ver : Arv Z h175 eA ke (.object "java/lang/Object") 16 [(.ref b2), (.ref b12), .null, .null, .null, .null, .null, .null, .null, .null, .null, .null, .null, .null, .null, .null] .null := Ver
              show Go p e below _ T175 (mkF m 187 #[.val (.int cn), .val (.long x0), .second, .val (.long x1), .second, .val (.long x2), .second, .val (.int rm), .val (.int (3 : Int32)), .val (.int rmv), .val (.ref b1), .val (.ref b32), .val (.ref b36), .val (.int (-1 : Int32)), .unset, .unset, .unset] [(.ref b22)])
              refine s_astore W175 at_187 rfl (l' := #[.val (.int cn), .val (.long x0), .second, .val (.long x1), .second, .val (.long x2), .second, .val (.int rm), .val (.int (3 : Int32)), .val (.int rmv), .val (.ref b1), .val (.ref b32), .val (.ref b36), .val (.int (-1 : Int32)), .val (.ref b22), .unset, .unset]) rfl (pc' := 189) rfl ?_
              refine s_aload W175 at_189 rfl rfl (pc' := 191) rfl ?_
              refine s_aload W175 at_191 rfl rfl (pc' := 193) rfl ?_
              refine s_iload W175 at_193 rfl (pc' := 195) rfl ?_
              have fx176 := ((fx115.keep Ki2 (ninS (ane (by omega)) (ninS (ane (by omega)) (ninS (ane (by omega)) (ninS (ane (by omega)) nin0))))).keep Kr (ninS (ane (by omega)) (ninS (ane (by omega)) (ninS (ane (by omega)) (ninS (ane (by omega)) nin0)))))
              refine gStatic W175 (w_125 hw) (w_126 hw) (w_80 hw) (w_127 hw) (by decide) pd_15 (ct_fnd hw hEL [] b1 k1 b2 b12 b22 (3 : Int32) 3 2 h175 d01 d02 d12 fx176 (by decide) (by decide) (by decide)) (by simp) at_195 (pc' := 198) rfl rfl (argsL := [(.ref b22), (.ref b1), (.int (3 : Int32))]) rfl rfl (rest := []) rfl (wt := 0) (Nat.le_of_eq rfl) (by decide) (by decide) (by decide) (by decide) ?_
              rintro v177 T177 h177 W177 z177 ⟨rfl, rfl⟩
              show Go p e below _ T177 (mkF m 198 #[.val (.int cn), .val (.long x0), .second, .val (.long x1), .second, .val (.long x2), .second, .val (.int rm), .val (.int (3 : Int32)), .val (.int rmv), .val (.ref b1), .val (.ref b32), .val (.ref b36), .val (.int (-1 : Int32)), .val (.ref b22), .unset, .unset] [(.int (2 : Int32))])
              refine s_istore W177 at_198 (l' := #[.val (.int cn), .val (.long x0), .second, .val (.long x1), .second, .val (.long x2), .second, .val (.int rm), .val (.int (3 : Int32)), .val (.int rmv), .val (.ref b1), .val (.ref b32), .val (.ref b36), .val (.int (2 : Int32)), .val (.ref b22), .unset, .unset]) rfl (pc' := 200) rfl ?_
              refine s_iload W177 at_200 rfl (pc' := 202) rfl ?_
              refine s_ifge W177 at_202 (by decide) (pc1 := 207) (by decide) (pc2 := 205) rfl ?_ (fun q => absurd q (by decide))
              intro q202
              refine s_iload W177 at_207 rfl (pc' := 209) rfl ?_
              refine s_ifeq W177 at_209 (by decide) (pc1 := 219) (by decide) (pc2 := 212) rfl (fun q => absurd q q171) ?_
              intro q209
              refine s_iload W177 at_212 rfl (pc' := 214) rfl ?_
              refine s_iconst W177 at_214 (v := (1 : Int32)) (by decide) (pc' := 215) rfl ?_
              refine s_isub W177 at_215 (pc' := 216) rfl ?_
              rw [show ((3 : Int32) - (1 : Int32)) = (2 : Int32) from by decide]
              refine s_goto W177 at_216 (by decide) (pc' := 221) (by decide) ?_
              refine s_istore W177 at_221 (l' := #[.val (.int cn), .val (.long x0), .second, .val (.long x1), .second, .val (.long x2), .second, .val (.int rm), .val (.int (3 : Int32)), .val (.int rmv), .val (.ref b1), .val (.ref b32), .val (.ref b36), .val (.int (2 : Int32)), .val (.int (2 : Int32)), .unset, .unset]) rfl (pc' := 223) rfl ?_
              have fx178 := ((((fx42.keep Ki0 (ninS (ane (by omega)) (ninS (ane (by omega)) (ninS (ane (by omega)) (ninS (ane (by omega)) nin0))))).keep Ki1 (ninS (ane (by omega)) (ninS (ane (by omega)) (ninS (ane (by omega)) (ninS (ane (by omega)) nin0))))).keep Ki2 (ninS (ane (by omega)) (ninS (ane (by omega)) (ninS (ane (by omega)) (ninS (ane (by omega)) nin0))))).keep Kr (ninS (ane (by omega)) (ninS (ane (by omega)) (ninS (ane (by omega)) (ninS (ane (by omega)) nin0)))))
              have fx179 := ((((fx38.keep Ki0).keep Ki1).keep Ki2).keep Kr)
              have fx180 := (((fx113.keep Ki1).keep Ki2).keep Kr)
              have fx181 := ((fx116.keep Ki2).keep Kr)
              exact tailB T177 h175 2 (2 : Int32) (fun i => [1, 0, 2].getD i 0) [(.int (1 : Int32)), (.int (0 : Int32)), (.int (2 : Int32)), (.int (3 : Int32)), (.int (4 : Int32)), (.int (5 : Int32)), (.int (6 : Int32)), (.int (7 : Int32)), (.int (8 : Int32)), (.int (9 : Int32)), (.int (10 : Int32)), (.int (11 : Int32)), (.int (12 : Int32)), (.int (13 : Int32)), (.int (14 : Int32)), (.int (15 : Int32))] [(.ref b2), (.ref b12), .null, .null, .null, .null, .null, .null, .null, .null, .null, .null, .null, .null, .null, .null] W177 HXr Fzr Vhr Ver fx176 fx178 fx179 fx180 fx181 (by decide) (by intro i hi; rcases (by omega : i = 0 ∨ i = 1 ∨ i = 2) with rfl | rfl | rfl <;> first | (exact absurd hi (by decide)) | exact ⟨rfl, by decide, by decide, rfl⟩) (by intro i j hi hj q; rcases (by omega : i = 0 ∨ i = 1 ∨ i = 2) with rfl | rfl | rfl <;> rcases (by omega : j = 0 ∨ j = 1 ∨ j = 2) with rfl | rfl | rfl <;> first | rfl | exact absurd q (by decide) | (exact absurd hi (by decide)) | (exact absurd hj (by decide))) (fun _ => min3 (f := fun t => [x0, x1, x2].getD ((fun i => [1, 0, 2].getD i 0) 0) 0 ≤ [x0, x1, x2].getD t 0) (by decide) (fun _ _ => show x1 ≤ x0 from le64 (by omega)) (fun _ _ => show x1 ≤ x1 from le64 (by omega)) (fun _ r => absurd rfl r))
      · rw [if_neg ci1] at Qi1
        obtain ⟨Vdi1, Vhi1⟩ := Qi1
        have mi1 := nlt64 ci1
        replace Vdi1 : Arv Z h114 dA kd .long 16 [(.long x0), (.long x1), (.long (0 : Int64)), (.long (0 : Int64)), (.long (0 : Int64)), (.long (0 : Int64)), (.long (0 : Int64)), (.long (0 : Int64)), (.long (0 : Int64)), (.long (0 : Int64)), (.long (0 : Int64)), (.long (0 : Int64)), (.long (0 : Int64)), (.long (0 : Int64)), (.long (0 : Int64)), (.long (0 : Int64))] (.long 0) := Vdi1
        replace Vhi1 : Arv Z h114 hA kh .int 16 [(.int (0 : Int32)), (.int (1 : Int32)), (.int (2 : Int32)), (.int (3 : Int32)), (.int (4 : Int32)), (.int (5 : Int32)), (.int (6 : Int32)), (.int (7 : Int32)), (.int (8 : Int32)), (.int (9 : Int32)), (.int (10 : Int32)), (.int (11 : Int32)), (.int (12 : Int32)), (.int (13 : Int32)), (.int (14 : Int32)), (.int (15 : Int32))] (.int 0) := Vhi1
        replace Vei1 : Arv Z h114 eA ke (.object "java/lang/Object") 16 [(.ref b2), (.ref b12), .null, .null, .null, .null, .null, .null, .null, .null, .null, .null, .null, .null, .null, .null] .null := Vei1
        show Go p e below _ T114 (mkF m 147 #[.val (.int cn), .val (.long x0), .second, .val (.long x1), .second, .val (.long x2), .second, .val (.int rm), .val (.int (3 : Int32)), .val (.int rmv), .val (.ref b1), .val (.ref b32), .val (.ref b36), .unset, .unset, .unset, .unset] [(.int ri1)])
        refine s_pop W114 at_147 rfl (pc' := 148) rfl ?_
        refine s_iload W114 at_148 rfl (pc' := 150) rfl ?_
        refine s_iconst W114 at_150 (v := (2 : Int32)) (by decide) (pc' := 151) rfl ?_
        refine s_icmple W114 at_151 (by decide) (pc1 := 166) (by decide) (pc2 := 154) rfl (fun q => absurd q (by decide)) ?_
        intro q151
        refine s_aload W114 at_154 rfl rfl (pc' := 156) rfl ?_
        refine s_aload W114 at_156 rfl rfl (pc' := 158) rfl ?_
        refine s_iconst W114 at_158 (v := (2 : Int32)) (by decide) (pc' := 159) rfl ?_
        have fx182 := (fx112.keep Ki1 (ninS (ane (by omega)) (ninS (ane (by omega)) (ninS (ane (by omega)) (ninS (ane (by omega)) nin0)))))
        refine gLdA W114 fx182 rfl ⟨by decide, by decide⟩ (v := (.ref b22)) rfl at_159 (pc' := 160) rfl ?_
        refine s_lload W114 at_160 rfl (pc' := 162) rfl ?_
        have fx183 := ((fx40.keep Ki0).keep Ki1)
        refine gVirtual W114 HXi1.1 (w_82 hw) (w_83 hw) (fun s hZ => notFace_of_selects (args := #[]) (mv hZ (w_85 hw))) (w_85 hw) (w_84 hw) (w_36 hw) (w_86 hw) (by decide) pd_21 (ct_ins2 hw hEL [] b36 dA hA eA b22 kd kh ke x2 x0 (0 : Int32) [(.long x0), (.long x1), (.long (0 : Int64)), (.long (0 : Int64)), (.long (0 : Int64)), (.long (0 : Int64)), (.long (0 : Int64)), (.long (0 : Int64)), (.long (0 : Int64)), (.long (0 : Int64)), (.long (0 : Int64)), (.long (0 : Int64)), (.long (0 : Int64)), (.long (0 : Int64)), (.long (0 : Int64)), (.long (0 : Int64))] [(.int (0 : Int32)), (.int (1 : Int32)), (.int (2 : Int32)), (.int (3 : Int32)), (.int (4 : Int32)), (.int (5 : Int32)), (.int (6 : Int32)), (.int (7 : Int32)), (.int (8 : Int32)), (.int (9 : Int32)), (.int (10 : Int32)), (.int (11 : Int32)), (.int (12 : Int32)), (.int (13 : Int32)), (.int (14 : Int32)), (.int (15 : Int32))] [(.ref b2), (.ref b12), .null, .null, .null, .null, .null, .null, .null, .null, .null, .null, .null, .null, .null, .null] h114 HXi1 HN n0_b36 n0_dA n0_hA n0_eA Vdi1 Vhi1 Vei1 HO fx183 Fzi1 rfl rfl rfl rfl rfl rfl) (by simp) at_162 (pc' := 165) rfl rfl (argsL := [(.ref b22), (.long x2)]) rfl rfl (rest := []) rfl (wt := 0) (Nat.le_of_eq rfl) (by decide) (by decide) (by decide) (by decide) ?_
        rintro v184 T184 h184 W184 z184 ⟨ri2, rfl, Ki2, HXi2, Fzi2, Vei2, Qi2⟩
        by_cases ci2 : x2 < x0
        · rw [if_pos ci2] at Qi2
          obtain ⟨Vdi2, Vhi2⟩ := Qi2
          have mi2 := lt64 ci2
          replace Vdi2 : Arv Z h184 dA kd .long 16 [(.long x2), (.long x1), (.long x0), (.long (0 : Int64)), (.long (0 : Int64)), (.long (0 : Int64)), (.long (0 : Int64)), (.long (0 : Int64)), (.long (0 : Int64)), (.long (0 : Int64)), (.long (0 : Int64)), (.long (0 : Int64)), (.long (0 : Int64)), (.long (0 : Int64)), (.long (0 : Int64)), (.long (0 : Int64))] (.long 0) := Vdi2
          replace Vhi2 : Arv Z h184 hA kh .int 16 [(.int (2 : Int32)), (.int (1 : Int32)), (.int (0 : Int32)), (.int (3 : Int32)), (.int (4 : Int32)), (.int (5 : Int32)), (.int (6 : Int32)), (.int (7 : Int32)), (.int (8 : Int32)), (.int (9 : Int32)), (.int (10 : Int32)), (.int (11 : Int32)), (.int (12 : Int32)), (.int (13 : Int32)), (.int (14 : Int32)), (.int (15 : Int32))] (.int 0) := Vhi2
          replace Vei2 : Arv Z h184 eA ke (.object "java/lang/Object") 16 [(.ref b2), (.ref b12), (.ref b22), .null, .null, .null, .null, .null, .null, .null, .null, .null, .null, .null, .null, .null] .null := Vei2
          show Go p e below _ T184 (mkF m 165 #[.val (.int cn), .val (.long x0), .second, .val (.long x1), .second, .val (.long x2), .second, .val (.int rm), .val (.int (3 : Int32)), .val (.int rmv), .val (.ref b1), .val (.ref b32), .val (.ref b36), .unset, .unset, .unset, .unset] [(.int ri2)])
          refine s_pop W184 at_165 rfl (pc' := 166) rfl ?_
          refine s_iconst W184 at_166 (v := (-1 : Int32)) (by decide) (pc' := 167) rfl ?_
          refine s_istore W184 at_167 (l' := #[.val (.int cn), .val (.long x0), .second, .val (.long x1), .second, .val (.long x2), .second, .val (.int rm), .val (.int (3 : Int32)), .val (.int rmv), .val (.ref b1), .val (.ref b32), .val (.ref b36), .val (.int (-1 : Int32)), .unset, .unset, .unset]) rfl (pc' := 169) rfl ?_
          refine s_iload W184 at_169 rfl (pc' := 171) rfl ?_
          refine s_ifeq W184 at_171 (by decide) (pc1 := 207) (by decide) (pc2 := 174) rfl ?_ ?_
          · intro q171
            refine s_iload W184 at_207 rfl (pc' := 209) rfl ?_
            refine s_ifeq W184 at_209 (by decide) (pc1 := 219) (by decide) (pc2 := 212) rfl ?_ (fun q => (q q171).elim)
            intro q209
            refine s_iload W184 at_219 rfl (pc' := 221) rfl ?_
            refine s_istore W184 at_221 (l' := #[.val (.int cn), .val (.long x0), .second, .val (.long x1), .second, .val (.long x2), .second, .val (.int rm), .val (.int (3 : Int32)), .val (.int rmv), .val (.ref b1), .val (.ref b32), .val (.ref b36), .val (.int (-1 : Int32)), .val (.int (3 : Int32)), .unset, .unset]) rfl (pc' := 223) rfl ?_
            have fx185 := (fx182.keep Ki2 (ninS (ane (by omega)) (ninS (ane (by omega)) (ninS (ane (by omega)) (ninS (ane (by omega)) nin0)))))
            have fx186 := (((fx42.keep Ki0 (ninS (ane (by omega)) (ninS (ane (by omega)) (ninS (ane (by omega)) (ninS (ane (by omega)) nin0))))).keep Ki1 (ninS (ane (by omega)) (ninS (ane (by omega)) (ninS (ane (by omega)) (ninS (ane (by omega)) nin0))))).keep Ki2 (ninS (ane (by omega)) (ninS (ane (by omega)) (ninS (ane (by omega)) (ninS (ane (by omega)) nin0)))))
            have fx187 := (((fx38.keep Ki0).keep Ki1).keep Ki2)
            have fx188 := ((fx113.keep Ki1).keep Ki2)
            have fx189 := (fx183.keep Ki2)
            exact tailB T184 h184 3 (-1 : Int32) (fun i => [2, 1, 0].getD i 0) [(.int (2 : Int32)), (.int (1 : Int32)), (.int (0 : Int32)), (.int (3 : Int32)), (.int (4 : Int32)), (.int (5 : Int32)), (.int (6 : Int32)), (.int (7 : Int32)), (.int (8 : Int32)), (.int (9 : Int32)), (.int (10 : Int32)), (.int (11 : Int32)), (.int (12 : Int32)), (.int (13 : Int32)), (.int (14 : Int32)), (.int (15 : Int32))] [(.ref b2), (.ref b12), (.ref b22), .null, .null, .null, .null, .null, .null, .null, .null, .null, .null, .null, .null, .null] W184 HXi2 Fzi2 Vhi2 Vei2 fx185 fx186 fx187 fx188 fx189 (by decide) (by intro i hi; rcases (by omega : i = 0 ∨ i = 1 ∨ i = 2) with rfl | rfl | rfl <;> first | (exact absurd hi (by decide)) | exact ⟨rfl, by decide, by decide, rfl⟩) (by intro i j hi hj q; rcases (by omega : i = 0 ∨ i = 1 ∨ i = 2) with rfl | rfl | rfl <;> rcases (by omega : j = 0 ∨ j = 1 ∨ j = 2) with rfl | rfl | rfl <;> first | rfl | exact absurd q (by decide) | (exact absurd hi (by decide)) | (exact absurd hj (by decide))) (fun _ => min3 (f := fun t => [x0, x1, x2].getD ((fun i => [2, 1, 0].getD i 0) 0) 0 ≤ [x0, x1, x2].getD t 0) (by decide) (fun _ _ => show x2 ≤ x0 from le64 (by omega)) (fun _ _ => show x2 ≤ x1 from le64 (by omega)) (fun _ _ => show x2 ≤ x2 from le64 (by omega)))
          · intro q171
            refine s_aload W184 at_174 rfl rfl (pc' := 176) rfl ?_
            refine s_iload W184 at_176 rfl (pc' := 178) rfl ?_
            refine s_ldcI W184 (w_110 hw) at_178 (pc' := 180) rfl ?_
            refine s_iand W184 at_180 (pc' := 181) rfl ?_
            refine s_iload W184 at_181 rfl (pc' := 183) rfl ?_
            refine s_irem W184 at_183 (by decide) (pc' := 184) rfl ?_
            obtain ⟨r, hr, er⟩ := remL rm (n := 3) (by decide) (by decide)
            rw [show (rm &&& (2147483647 : Int32)) % (3 : Int32) = Int32.ofNat r from er]
            rcases (by omega : r = 0 ∨ r = 1 ∨ r = 2) with rfl | rfl | rfl
            · show Go p e below _ T184 (mkF m 184 #[.val (.int cn), .val (.long x0), .second, .val (.long x1), .second, .val (.long x2), .second, .val (.int rm), .val (.int (3 : Int32)), .val (.int rmv), .val (.ref b1), .val (.ref b32), .val (.ref b36), .val (.int (-1 : Int32)), .unset, .unset, .unset] [(.int (0 : Int32)), (.ref b36)])
              refine gVirtual W184 HXi2.1 (w_111 hw) (w_112 hw) (fun s hZ => notFace_of_selects (args := #[]) (mv hZ (w_114 hw))) (w_114 hw) (w_113 hw) (w_36 hw) (w_115 hw) (by decide) pd_10 (ct_rem30 hw hEL [] b36 dA hA eA b22 kd kh ke x0 x1 (2 : Int32) (0 : Int32) (1 : Int32) 2 [(.long x2), (.long x1), (.long x0), (.long (0 : Int64)), (.long (0 : Int64)), (.long (0 : Int64)), (.long (0 : Int64)), (.long (0 : Int64)), (.long (0 : Int64)), (.long (0 : Int64)), (.long (0 : Int64)), (.long (0 : Int64)), (.long (0 : Int64)), (.long (0 : Int64)), (.long (0 : Int64)), (.long (0 : Int64))] [(.int (2 : Int32)), (.int (1 : Int32)), (.int (0 : Int32)), (.int (3 : Int32)), (.int (4 : Int32)), (.int (5 : Int32)), (.int (6 : Int32)), (.int (7 : Int32)), (.int (8 : Int32)), (.int (9 : Int32)), (.int (10 : Int32)), (.int (11 : Int32)), (.int (12 : Int32)), (.int (13 : Int32)), (.int (14 : Int32)), (.int (15 : Int32))] [(.ref b2), (.ref b12), (.ref b22), .null, .null, .null, .null, .null, .null, .null, .null, .null, .null, .null, .null, .null] h184 HXi2 HN n0_b36 n0_dA n0_hA n0_eA Vdi2 Vhi2 Vei2 Fzi2 rfl rfl rfl rfl (by decide) (by decide) rfl rfl rfl rfl rfl) (by simp) at_184 (pc' := 187) rfl rfl (argsL := [(.int (0 : Int32))]) rfl rfl (rest := []) rfl (wt := 0) (Nat.le_of_eq rfl) (by decide) (by decide) (by decide) (by decide) ?_
              rintro v190 T190 h190 W190 z190 ⟨rfl, Kr, HXr, Fzr, Ver, Qr⟩
              by_cases cr : x1 < x0
              · rw [if_pos cr] at Qr
                obtain ⟨Vdr, Vhr⟩ := Qr
                have mr := lt64 cr
                replace Vdr : Arv Z h190 dA kd .long 16 [(.long x1), (.long x0), (.long x0), (.long (0 : Int64)), (.long (0 : Int64)), (.long (0 : Int64)), (.long (0 : Int64)), (.long (0 : Int64)), (.long (0 : Int64)), (.long (0 : Int64)), (.long (0 : Int64)), (.long (0 : Int64)), (.long (0 : Int64)), (.long (0 : Int64)), (.long (0 : Int64)), (.long (0 : Int64))] (.long 0) := Vdr
                replace Vhr : Arv Z h190 hA kh .int 16 [(.int (1 : Int32)), (.int (0 : Int32)), (.int (2 : Int32)), (.int (3 : Int32)), (.int (4 : Int32)), (.int (5 : Int32)), (.int (6 : Int32)), (.int (7 : Int32)), (.int (8 : Int32)), (.int (9 : Int32)), (.int (10 : Int32)), (.int (11 : Int32)), (.int (12 : Int32)), (.int (13 : Int32)), (.int (14 : Int32)), (.int (15 : Int32))] (.int 0) := Vhr
                replace Ver : Arv Z h190 eA ke (.object "java/lang/Object") 16 [(.ref b2), (.ref b12), .null, .null, .null, .null, .null, .null, .null, .null, .null, .null, .null, .null, .null, .null] .null := Ver
                show Go p e below _ T190 (mkF m 187 #[.val (.int cn), .val (.long x0), .second, .val (.long x1), .second, .val (.long x2), .second, .val (.int rm), .val (.int (3 : Int32)), .val (.int rmv), .val (.ref b1), .val (.ref b32), .val (.ref b36), .val (.int (-1 : Int32)), .unset, .unset, .unset] [(.ref b22)])
                refine s_astore W190 at_187 rfl (l' := #[.val (.int cn), .val (.long x0), .second, .val (.long x1), .second, .val (.long x2), .second, .val (.int rm), .val (.int (3 : Int32)), .val (.int rmv), .val (.ref b1), .val (.ref b32), .val (.ref b36), .val (.int (-1 : Int32)), .val (.ref b22), .unset, .unset]) rfl (pc' := 189) rfl ?_
                refine s_aload W190 at_189 rfl rfl (pc' := 191) rfl ?_
                refine s_aload W190 at_191 rfl rfl (pc' := 193) rfl ?_
                refine s_iload W190 at_193 rfl (pc' := 195) rfl ?_
                have fx191 := ((fx182.keep Ki2 (ninS (ane (by omega)) (ninS (ane (by omega)) (ninS (ane (by omega)) (ninS (ane (by omega)) nin0))))).keep Kr (ninS (ane (by omega)) (ninS (ane (by omega)) (ninS (ane (by omega)) (ninS (ane (by omega)) nin0)))))
                refine gStatic W190 (w_125 hw) (w_126 hw) (w_80 hw) (w_127 hw) (by decide) pd_15 (ct_fnd hw hEL [] b1 k1 b2 b12 b22 (3 : Int32) 3 2 h190 d01 d02 d12 fx191 (by decide) (by decide) (by decide)) (by simp) at_195 (pc' := 198) rfl rfl (argsL := [(.ref b22), (.ref b1), (.int (3 : Int32))]) rfl rfl (rest := []) rfl (wt := 0) (Nat.le_of_eq rfl) (by decide) (by decide) (by decide) (by decide) ?_
                rintro v192 T192 h192 W192 z192 ⟨rfl, rfl⟩
                show Go p e below _ T192 (mkF m 198 #[.val (.int cn), .val (.long x0), .second, .val (.long x1), .second, .val (.long x2), .second, .val (.int rm), .val (.int (3 : Int32)), .val (.int rmv), .val (.ref b1), .val (.ref b32), .val (.ref b36), .val (.int (-1 : Int32)), .val (.ref b22), .unset, .unset] [(.int (2 : Int32))])
                refine s_istore W192 at_198 (l' := #[.val (.int cn), .val (.long x0), .second, .val (.long x1), .second, .val (.long x2), .second, .val (.int rm), .val (.int (3 : Int32)), .val (.int rmv), .val (.ref b1), .val (.ref b32), .val (.ref b36), .val (.int (2 : Int32)), .val (.ref b22), .unset, .unset]) rfl (pc' := 200) rfl ?_
                refine s_iload W192 at_200 rfl (pc' := 202) rfl ?_
                refine s_ifge W192 at_202 (by decide) (pc1 := 207) (by decide) (pc2 := 205) rfl ?_ (fun q => absurd q (by decide))
                intro q202
                refine s_iload W192 at_207 rfl (pc' := 209) rfl ?_
                refine s_ifeq W192 at_209 (by decide) (pc1 := 219) (by decide) (pc2 := 212) rfl (fun q => absurd q q171) ?_
                intro q209
                refine s_iload W192 at_212 rfl (pc' := 214) rfl ?_
                refine s_iconst W192 at_214 (v := (1 : Int32)) (by decide) (pc' := 215) rfl ?_
                refine s_isub W192 at_215 (pc' := 216) rfl ?_
                rw [show ((3 : Int32) - (1 : Int32)) = (2 : Int32) from by decide]
                refine s_goto W192 at_216 (by decide) (pc' := 221) (by decide) ?_
                refine s_istore W192 at_221 (l' := #[.val (.int cn), .val (.long x0), .second, .val (.long x1), .second, .val (.long x2), .second, .val (.int rm), .val (.int (3 : Int32)), .val (.int rmv), .val (.ref b1), .val (.ref b32), .val (.ref b36), .val (.int (2 : Int32)), .val (.int (2 : Int32)), .unset, .unset]) rfl (pc' := 223) rfl ?_
                have fx193 := ((((fx42.keep Ki0 (ninS (ane (by omega)) (ninS (ane (by omega)) (ninS (ane (by omega)) (ninS (ane (by omega)) nin0))))).keep Ki1 (ninS (ane (by omega)) (ninS (ane (by omega)) (ninS (ane (by omega)) (ninS (ane (by omega)) nin0))))).keep Ki2 (ninS (ane (by omega)) (ninS (ane (by omega)) (ninS (ane (by omega)) (ninS (ane (by omega)) nin0))))).keep Kr (ninS (ane (by omega)) (ninS (ane (by omega)) (ninS (ane (by omega)) (ninS (ane (by omega)) nin0)))))
                have fx194 := ((((fx38.keep Ki0).keep Ki1).keep Ki2).keep Kr)
                have fx195 := (((fx113.keep Ki1).keep Ki2).keep Kr)
                have fx196 := ((fx183.keep Ki2).keep Kr)
                exact tailB T192 h190 2 (2 : Int32) (fun i => [1, 0, 2].getD i 0) [(.int (1 : Int32)), (.int (0 : Int32)), (.int (2 : Int32)), (.int (3 : Int32)), (.int (4 : Int32)), (.int (5 : Int32)), (.int (6 : Int32)), (.int (7 : Int32)), (.int (8 : Int32)), (.int (9 : Int32)), (.int (10 : Int32)), (.int (11 : Int32)), (.int (12 : Int32)), (.int (13 : Int32)), (.int (14 : Int32)), (.int (15 : Int32))] [(.ref b2), (.ref b12), .null, .null, .null, .null, .null, .null, .null, .null, .null, .null, .null, .null, .null, .null] W192 HXr Fzr Vhr Ver fx191 fx193 fx194 fx195 fx196 (by decide) (by intro i hi; rcases (by omega : i = 0 ∨ i = 1 ∨ i = 2) with rfl | rfl | rfl <;> first | (exact absurd hi (by decide)) | exact ⟨rfl, by decide, by decide, rfl⟩) (by intro i j hi hj q; rcases (by omega : i = 0 ∨ i = 1 ∨ i = 2) with rfl | rfl | rfl <;> rcases (by omega : j = 0 ∨ j = 1 ∨ j = 2) with rfl | rfl | rfl <;> first | rfl | exact absurd q (by decide) | (exact absurd hi (by decide)) | (exact absurd hj (by decide))) (fun _ => min3 (f := fun t => [x0, x1, x2].getD ((fun i => [1, 0, 2].getD i 0) 0) 0 ≤ [x0, x1, x2].getD t 0) (by decide) (fun _ _ => show x1 ≤ x0 from le64 (by omega)) (fun _ _ => show x1 ≤ x1 from le64 (by omega)) (fun _ r => absurd rfl r))
              · rw [if_neg cr] at Qr
                obtain ⟨Vdr, Vhr⟩ := Qr
                have mr := nlt64 cr
                replace Vdr : Arv Z h190 dA kd .long 16 [(.long x0), (.long x1), (.long x0), (.long (0 : Int64)), (.long (0 : Int64)), (.long (0 : Int64)), (.long (0 : Int64)), (.long (0 : Int64)), (.long (0 : Int64)), (.long (0 : Int64)), (.long (0 : Int64)), (.long (0 : Int64)), (.long (0 : Int64)), (.long (0 : Int64)), (.long (0 : Int64)), (.long (0 : Int64))] (.long 0) := Vdr
                replace Vhr : Arv Z h190 hA kh .int 16 [(.int (0 : Int32)), (.int (1 : Int32)), (.int (2 : Int32)), (.int (3 : Int32)), (.int (4 : Int32)), (.int (5 : Int32)), (.int (6 : Int32)), (.int (7 : Int32)), (.int (8 : Int32)), (.int (9 : Int32)), (.int (10 : Int32)), (.int (11 : Int32)), (.int (12 : Int32)), (.int (13 : Int32)), (.int (14 : Int32)), (.int (15 : Int32))] (.int 0) := Vhr
                replace Ver : Arv Z h190 eA ke (.object "java/lang/Object") 16 [(.ref b2), (.ref b12), .null, .null, .null, .null, .null, .null, .null, .null, .null, .null, .null, .null, .null, .null] .null := Ver
                show Go p e below _ T190 (mkF m 187 #[.val (.int cn), .val (.long x0), .second, .val (.long x1), .second, .val (.long x2), .second, .val (.int rm), .val (.int (3 : Int32)), .val (.int rmv), .val (.ref b1), .val (.ref b32), .val (.ref b36), .val (.int (-1 : Int32)), .unset, .unset, .unset] [(.ref b22)])
                refine s_astore W190 at_187 rfl (l' := #[.val (.int cn), .val (.long x0), .second, .val (.long x1), .second, .val (.long x2), .second, .val (.int rm), .val (.int (3 : Int32)), .val (.int rmv), .val (.ref b1), .val (.ref b32), .val (.ref b36), .val (.int (-1 : Int32)), .val (.ref b22), .unset, .unset]) rfl (pc' := 189) rfl ?_
                refine s_aload W190 at_189 rfl rfl (pc' := 191) rfl ?_
                refine s_aload W190 at_191 rfl rfl (pc' := 193) rfl ?_
                refine s_iload W190 at_193 rfl (pc' := 195) rfl ?_
                have fx197 := ((fx182.keep Ki2 (ninS (ane (by omega)) (ninS (ane (by omega)) (ninS (ane (by omega)) (ninS (ane (by omega)) nin0))))).keep Kr (ninS (ane (by omega)) (ninS (ane (by omega)) (ninS (ane (by omega)) (ninS (ane (by omega)) nin0)))))
                refine gStatic W190 (w_125 hw) (w_126 hw) (w_80 hw) (w_127 hw) (by decide) pd_15 (ct_fnd hw hEL [] b1 k1 b2 b12 b22 (3 : Int32) 3 2 h190 d01 d02 d12 fx197 (by decide) (by decide) (by decide)) (by simp) at_195 (pc' := 198) rfl rfl (argsL := [(.ref b22), (.ref b1), (.int (3 : Int32))]) rfl rfl (rest := []) rfl (wt := 0) (Nat.le_of_eq rfl) (by decide) (by decide) (by decide) (by decide) ?_
                rintro v198 T198 h198 W198 z198 ⟨rfl, rfl⟩
                show Go p e below _ T198 (mkF m 198 #[.val (.int cn), .val (.long x0), .second, .val (.long x1), .second, .val (.long x2), .second, .val (.int rm), .val (.int (3 : Int32)), .val (.int rmv), .val (.ref b1), .val (.ref b32), .val (.ref b36), .val (.int (-1 : Int32)), .val (.ref b22), .unset, .unset] [(.int (2 : Int32))])
                refine s_istore W198 at_198 (l' := #[.val (.int cn), .val (.long x0), .second, .val (.long x1), .second, .val (.long x2), .second, .val (.int rm), .val (.int (3 : Int32)), .val (.int rmv), .val (.ref b1), .val (.ref b32), .val (.ref b36), .val (.int (2 : Int32)), .val (.ref b22), .unset, .unset]) rfl (pc' := 200) rfl ?_
                refine s_iload W198 at_200 rfl (pc' := 202) rfl ?_
                refine s_ifge W198 at_202 (by decide) (pc1 := 207) (by decide) (pc2 := 205) rfl ?_ (fun q => absurd q (by decide))
                intro q202
                refine s_iload W198 at_207 rfl (pc' := 209) rfl ?_
                refine s_ifeq W198 at_209 (by decide) (pc1 := 219) (by decide) (pc2 := 212) rfl (fun q => absurd q q171) ?_
                intro q209
                refine s_iload W198 at_212 rfl (pc' := 214) rfl ?_
                refine s_iconst W198 at_214 (v := (1 : Int32)) (by decide) (pc' := 215) rfl ?_
                refine s_isub W198 at_215 (pc' := 216) rfl ?_
                rw [show ((3 : Int32) - (1 : Int32)) = (2 : Int32) from by decide]
                refine s_goto W198 at_216 (by decide) (pc' := 221) (by decide) ?_
                refine s_istore W198 at_221 (l' := #[.val (.int cn), .val (.long x0), .second, .val (.long x1), .second, .val (.long x2), .second, .val (.int rm), .val (.int (3 : Int32)), .val (.int rmv), .val (.ref b1), .val (.ref b32), .val (.ref b36), .val (.int (2 : Int32)), .val (.int (2 : Int32)), .unset, .unset]) rfl (pc' := 223) rfl ?_
                have fx199 := ((((fx42.keep Ki0 (ninS (ane (by omega)) (ninS (ane (by omega)) (ninS (ane (by omega)) (ninS (ane (by omega)) nin0))))).keep Ki1 (ninS (ane (by omega)) (ninS (ane (by omega)) (ninS (ane (by omega)) (ninS (ane (by omega)) nin0))))).keep Ki2 (ninS (ane (by omega)) (ninS (ane (by omega)) (ninS (ane (by omega)) (ninS (ane (by omega)) nin0))))).keep Kr (ninS (ane (by omega)) (ninS (ane (by omega)) (ninS (ane (by omega)) (ninS (ane (by omega)) nin0)))))
                have fx200 := ((((fx38.keep Ki0).keep Ki1).keep Ki2).keep Kr)
                have fx201 := (((fx113.keep Ki1).keep Ki2).keep Kr)
                have fx202 := ((fx183.keep Ki2).keep Kr)
                exact tailB T198 h190 2 (2 : Int32) (fun i => [0, 1, 2].getD i 0) [(.int (0 : Int32)), (.int (1 : Int32)), (.int (2 : Int32)), (.int (3 : Int32)), (.int (4 : Int32)), (.int (5 : Int32)), (.int (6 : Int32)), (.int (7 : Int32)), (.int (8 : Int32)), (.int (9 : Int32)), (.int (10 : Int32)), (.int (11 : Int32)), (.int (12 : Int32)), (.int (13 : Int32)), (.int (14 : Int32)), (.int (15 : Int32))] [(.ref b2), (.ref b12), .null, .null, .null, .null, .null, .null, .null, .null, .null, .null, .null, .null, .null, .null] W198 HXr Fzr Vhr Ver fx197 fx199 fx200 fx201 fx202 (by decide) (by intro i hi; rcases (by omega : i = 0 ∨ i = 1 ∨ i = 2) with rfl | rfl | rfl <;> first | (exact absurd hi (by decide)) | exact ⟨rfl, by decide, by decide, rfl⟩) (by intro i j hi hj q; rcases (by omega : i = 0 ∨ i = 1 ∨ i = 2) with rfl | rfl | rfl <;> rcases (by omega : j = 0 ∨ j = 1 ∨ j = 2) with rfl | rfl | rfl <;> first | rfl | exact absurd q (by decide) | (exact absurd hi (by decide)) | (exact absurd hj (by decide))) (fun _ => min3 (f := fun t => [x0, x1, x2].getD ((fun i => [0, 1, 2].getD i 0) 0) 0 ≤ [x0, x1, x2].getD t 0) (by decide) (fun _ _ => show x0 ≤ x0 from le64 (by omega)) (fun _ _ => show x0 ≤ x1 from le64 (by omega)) (fun _ r => absurd rfl r))
            · show Go p e below _ T184 (mkF m 184 #[.val (.int cn), .val (.long x0), .second, .val (.long x1), .second, .val (.long x2), .second, .val (.int rm), .val (.int (3 : Int32)), .val (.int rmv), .val (.ref b1), .val (.ref b32), .val (.ref b36), .val (.int (-1 : Int32)), .unset, .unset, .unset] [(.int (1 : Int32)), (.ref b36)])
              refine gVirtual W184 HXi2.1 (w_111 hw) (w_112 hw) (fun s hZ => notFace_of_selects (args := #[]) (mv hZ (w_114 hw))) (w_114 hw) (w_113 hw) (w_36 hw) (w_115 hw) (by decide) pd_10 (ct_rem31 hw hEL [] b36 dA hA eA b12 kd kh ke x0 x2 (1 : Int32) (0 : Int32) (2 : Int32) 1 [(.long x2), (.long x1), (.long x0), (.long (0 : Int64)), (.long (0 : Int64)), (.long (0 : Int64)), (.long (0 : Int64)), (.long (0 : Int64)), (.long (0 : Int64)), (.long (0 : Int64)), (.long (0 : Int64)), (.long (0 : Int64)), (.long (0 : Int64)), (.long (0 : Int64)), (.long (0 : Int64)), (.long (0 : Int64))] [(.int (2 : Int32)), (.int (1 : Int32)), (.int (0 : Int32)), (.int (3 : Int32)), (.int (4 : Int32)), (.int (5 : Int32)), (.int (6 : Int32)), (.int (7 : Int32)), (.int (8 : Int32)), (.int (9 : Int32)), (.int (10 : Int32)), (.int (11 : Int32)), (.int (12 : Int32)), (.int (13 : Int32)), (.int (14 : Int32)), (.int (15 : Int32))] [(.ref b2), (.ref b12), (.ref b22), .null, .null, .null, .null, .null, .null, .null, .null, .null, .null, .null, .null, .null] h184 HXi2 HN n0_b36 n0_dA n0_hA n0_eA Vdi2 Vhi2 Vei2 Fzi2 rfl rfl rfl rfl (by decide) (by decide) rfl rfl rfl rfl rfl (nlt64' (by omega))) (by simp) at_184 (pc' := 187) rfl rfl (argsL := [(.int (1 : Int32))]) rfl rfl (rest := []) rfl (wt := 0) (Nat.le_of_eq rfl) (by decide) (by decide) (by decide) (by decide) ?_
              rintro v203 T203 h203 W203 z203 ⟨rfl, Kr, HXr, Fzr, Ver, Vdr, Vhr⟩
              replace Vdr : Arv Z h203 dA kd .long 16 [(.long x2), (.long x0), (.long x0), (.long (0 : Int64)), (.long (0 : Int64)), (.long (0 : Int64)), (.long (0 : Int64)), (.long (0 : Int64)), (.long (0 : Int64)), (.long (0 : Int64)), (.long (0 : Int64)), (.long (0 : Int64)), (.long (0 : Int64)), (.long (0 : Int64)), (.long (0 : Int64)), (.long (0 : Int64))] (.long 0) := Vdr
              replace Vhr : Arv Z h203 hA kh .int 16 [(.int (2 : Int32)), (.int (0 : Int32)), (.int (1 : Int32)), (.int (3 : Int32)), (.int (4 : Int32)), (.int (5 : Int32)), (.int (6 : Int32)), (.int (7 : Int32)), (.int (8 : Int32)), (.int (9 : Int32)), (.int (10 : Int32)), (.int (11 : Int32)), (.int (12 : Int32)), (.int (13 : Int32)), (.int (14 : Int32)), (.int (15 : Int32))] (.int 0) := Vhr
              replace Ver : Arv Z h203 eA ke (.object "java/lang/Object") 16 [(.ref b2), .null, (.ref b22), .null, .null, .null, .null, .null, .null, .null, .null, .null, .null, .null, .null, .null] .null := Ver
              show Go p e below _ T203 (mkF m 187 #[.val (.int cn), .val (.long x0), .second, .val (.long x1), .second, .val (.long x2), .second, .val (.int rm), .val (.int (3 : Int32)), .val (.int rmv), .val (.ref b1), .val (.ref b32), .val (.ref b36), .val (.int (-1 : Int32)), .unset, .unset, .unset] [(.ref b12)])
              refine s_astore W203 at_187 rfl (l' := #[.val (.int cn), .val (.long x0), .second, .val (.long x1), .second, .val (.long x2), .second, .val (.int rm), .val (.int (3 : Int32)), .val (.int rmv), .val (.ref b1), .val (.ref b32), .val (.ref b36), .val (.int (-1 : Int32)), .val (.ref b12), .unset, .unset]) rfl (pc' := 189) rfl ?_
              refine s_aload W203 at_189 rfl rfl (pc' := 191) rfl ?_
              refine s_aload W203 at_191 rfl rfl (pc' := 193) rfl ?_
              refine s_iload W203 at_193 rfl (pc' := 195) rfl ?_
              have fx204 := ((fx182.keep Ki2 (ninS (ane (by omega)) (ninS (ane (by omega)) (ninS (ane (by omega)) (ninS (ane (by omega)) nin0))))).keep Kr (ninS (ane (by omega)) (ninS (ane (by omega)) (ninS (ane (by omega)) (ninS (ane (by omega)) nin0)))))
              refine gStatic W203 (w_125 hw) (w_126 hw) (w_80 hw) (w_127 hw) (by decide) pd_15 (ct_fnd hw hEL [] b1 k1 b2 b12 b22 (3 : Int32) 3 1 h203 d01 d02 d12 fx204 (by decide) (by decide) (by decide)) (by simp) at_195 (pc' := 198) rfl rfl (argsL := [(.ref b12), (.ref b1), (.int (3 : Int32))]) rfl rfl (rest := []) rfl (wt := 0) (Nat.le_of_eq rfl) (by decide) (by decide) (by decide) (by decide) ?_
              rintro v205 T205 h205 W205 z205 ⟨rfl, rfl⟩
              show Go p e below _ T205 (mkF m 198 #[.val (.int cn), .val (.long x0), .second, .val (.long x1), .second, .val (.long x2), .second, .val (.int rm), .val (.int (3 : Int32)), .val (.int rmv), .val (.ref b1), .val (.ref b32), .val (.ref b36), .val (.int (-1 : Int32)), .val (.ref b12), .unset, .unset] [(.int (1 : Int32))])
              refine s_istore W205 at_198 (l' := #[.val (.int cn), .val (.long x0), .second, .val (.long x1), .second, .val (.long x2), .second, .val (.int rm), .val (.int (3 : Int32)), .val (.int rmv), .val (.ref b1), .val (.ref b32), .val (.ref b36), .val (.int (1 : Int32)), .val (.ref b12), .unset, .unset]) rfl (pc' := 200) rfl ?_
              refine s_iload W205 at_200 rfl (pc' := 202) rfl ?_
              refine s_ifge W205 at_202 (by decide) (pc1 := 207) (by decide) (pc2 := 205) rfl ?_ (fun q => absurd q (by decide))
              intro q202
              refine s_iload W205 at_207 rfl (pc' := 209) rfl ?_
              refine s_ifeq W205 at_209 (by decide) (pc1 := 219) (by decide) (pc2 := 212) rfl (fun q => absurd q q171) ?_
              intro q209
              refine s_iload W205 at_212 rfl (pc' := 214) rfl ?_
              refine s_iconst W205 at_214 (v := (1 : Int32)) (by decide) (pc' := 215) rfl ?_
              refine s_isub W205 at_215 (pc' := 216) rfl ?_
              rw [show ((3 : Int32) - (1 : Int32)) = (2 : Int32) from by decide]
              refine s_goto W205 at_216 (by decide) (pc' := 221) (by decide) ?_
              refine s_istore W205 at_221 (l' := #[.val (.int cn), .val (.long x0), .second, .val (.long x1), .second, .val (.long x2), .second, .val (.int rm), .val (.int (3 : Int32)), .val (.int rmv), .val (.ref b1), .val (.ref b32), .val (.ref b36), .val (.int (1 : Int32)), .val (.int (2 : Int32)), .unset, .unset]) rfl (pc' := 223) rfl ?_
              have fx206 := ((((fx42.keep Ki0 (ninS (ane (by omega)) (ninS (ane (by omega)) (ninS (ane (by omega)) (ninS (ane (by omega)) nin0))))).keep Ki1 (ninS (ane (by omega)) (ninS (ane (by omega)) (ninS (ane (by omega)) (ninS (ane (by omega)) nin0))))).keep Ki2 (ninS (ane (by omega)) (ninS (ane (by omega)) (ninS (ane (by omega)) (ninS (ane (by omega)) nin0))))).keep Kr (ninS (ane (by omega)) (ninS (ane (by omega)) (ninS (ane (by omega)) (ninS (ane (by omega)) nin0)))))
              have fx207 := ((((fx38.keep Ki0).keep Ki1).keep Ki2).keep Kr)
              have fx208 := (((fx113.keep Ki1).keep Ki2).keep Kr)
              have fx209 := ((fx183.keep Ki2).keep Kr)
              exact tailB T205 h203 2 (1 : Int32) (fun i => [2, 0, 1].getD i 0) [(.int (2 : Int32)), (.int (0 : Int32)), (.int (1 : Int32)), (.int (3 : Int32)), (.int (4 : Int32)), (.int (5 : Int32)), (.int (6 : Int32)), (.int (7 : Int32)), (.int (8 : Int32)), (.int (9 : Int32)), (.int (10 : Int32)), (.int (11 : Int32)), (.int (12 : Int32)), (.int (13 : Int32)), (.int (14 : Int32)), (.int (15 : Int32))] [(.ref b2), .null, (.ref b22), .null, .null, .null, .null, .null, .null, .null, .null, .null, .null, .null, .null, .null] W205 HXr Fzr Vhr Ver fx204 fx206 fx207 fx208 fx209 (by decide) (by intro i hi; rcases (by omega : i = 0 ∨ i = 1 ∨ i = 2) with rfl | rfl | rfl <;> first | (exact absurd hi (by decide)) | exact ⟨rfl, by decide, by decide, rfl⟩) (by intro i j hi hj q; rcases (by omega : i = 0 ∨ i = 1 ∨ i = 2) with rfl | rfl | rfl <;> rcases (by omega : j = 0 ∨ j = 1 ∨ j = 2) with rfl | rfl | rfl <;> first | rfl | exact absurd q (by decide) | (exact absurd hi (by decide)) | (exact absurd hj (by decide))) (fun _ => min3 (f := fun t => [x0, x1, x2].getD ((fun i => [2, 0, 1].getD i 0) 0) 0 ≤ [x0, x1, x2].getD t 0) (by decide) (fun _ _ => show x2 ≤ x0 from le64 (by omega)) (fun _ r => absurd rfl r) (fun _ _ => show x2 ≤ x2 from le64 (by omega)))
            · show Go p e below _ T184 (mkF m 184 #[.val (.int cn), .val (.long x0), .second, .val (.long x1), .second, .val (.long x2), .second, .val (.int rm), .val (.int (3 : Int32)), .val (.int rmv), .val (.ref b1), .val (.ref b32), .val (.ref b36), .val (.int (-1 : Int32)), .unset, .unset, .unset] [(.int (2 : Int32)), (.ref b36)])
              refine gVirtual W184 HXi2.1 (w_111 hw) (w_112 hw) (fun s hZ => notFace_of_selects (args := #[]) (mv hZ (w_114 hw))) (w_114 hw) (w_113 hw) (w_36 hw) (w_115 hw) (by decide) pd_10 (ct_rem32 hw hEL [] b36 dA hA eA b2 kd kh ke x0 (0 : Int32) (0 : Int32) 0 [(.long x2), (.long x1), (.long x0), (.long (0 : Int64)), (.long (0 : Int64)), (.long (0 : Int64)), (.long (0 : Int64)), (.long (0 : Int64)), (.long (0 : Int64)), (.long (0 : Int64)), (.long (0 : Int64)), (.long (0 : Int64)), (.long (0 : Int64)), (.long (0 : Int64)), (.long (0 : Int64)), (.long (0 : Int64))] [(.int (2 : Int32)), (.int (1 : Int32)), (.int (0 : Int32)), (.int (3 : Int32)), (.int (4 : Int32)), (.int (5 : Int32)), (.int (6 : Int32)), (.int (7 : Int32)), (.int (8 : Int32)), (.int (9 : Int32)), (.int (10 : Int32)), (.int (11 : Int32)), (.int (12 : Int32)), (.int (13 : Int32)), (.int (14 : Int32)), (.int (15 : Int32))] [(.ref b2), (.ref b12), (.ref b22), .null, .null, .null, .null, .null, .null, .null, .null, .null, .null, .null, .null, .null] h184 HXi2 HN n0_b36 n0_dA n0_hA n0_eA Vdi2 Vhi2 Vei2 Fzi2 rfl rfl rfl rfl (by decide) (by decide) rfl rfl rfl) (by simp) at_184 (pc' := 187) rfl rfl (argsL := [(.int (2 : Int32))]) rfl rfl (rest := []) rfl (wt := 0) (Nat.le_of_eq rfl) (by decide) (by decide) (by decide) (by decide) ?_
              rintro v210 T210 h210 W210 z210 ⟨rfl, Kr, HXr, Fzr, Ver, Vdr, Vhr⟩
              replace Vdr : Arv Z h210 dA kd .long 16 [(.long x2), (.long x1), (.long x0), (.long (0 : Int64)), (.long (0 : Int64)), (.long (0 : Int64)), (.long (0 : Int64)), (.long (0 : Int64)), (.long (0 : Int64)), (.long (0 : Int64)), (.long (0 : Int64)), (.long (0 : Int64)), (.long (0 : Int64)), (.long (0 : Int64)), (.long (0 : Int64)), (.long (0 : Int64))] (.long 0) := Vdr
              replace Vhr : Arv Z h210 hA kh .int 16 [(.int (2 : Int32)), (.int (1 : Int32)), (.int (0 : Int32)), (.int (3 : Int32)), (.int (4 : Int32)), (.int (5 : Int32)), (.int (6 : Int32)), (.int (7 : Int32)), (.int (8 : Int32)), (.int (9 : Int32)), (.int (10 : Int32)), (.int (11 : Int32)), (.int (12 : Int32)), (.int (13 : Int32)), (.int (14 : Int32)), (.int (15 : Int32))] (.int 0) := Vhr
              replace Ver : Arv Z h210 eA ke (.object "java/lang/Object") 16 [.null, (.ref b12), (.ref b22), .null, .null, .null, .null, .null, .null, .null, .null, .null, .null, .null, .null, .null] .null := Ver
              show Go p e below _ T210 (mkF m 187 #[.val (.int cn), .val (.long x0), .second, .val (.long x1), .second, .val (.long x2), .second, .val (.int rm), .val (.int (3 : Int32)), .val (.int rmv), .val (.ref b1), .val (.ref b32), .val (.ref b36), .val (.int (-1 : Int32)), .unset, .unset, .unset] [(.ref b2)])
              refine s_astore W210 at_187 rfl (l' := #[.val (.int cn), .val (.long x0), .second, .val (.long x1), .second, .val (.long x2), .second, .val (.int rm), .val (.int (3 : Int32)), .val (.int rmv), .val (.ref b1), .val (.ref b32), .val (.ref b36), .val (.int (-1 : Int32)), .val (.ref b2), .unset, .unset]) rfl (pc' := 189) rfl ?_
              refine s_aload W210 at_189 rfl rfl (pc' := 191) rfl ?_
              refine s_aload W210 at_191 rfl rfl (pc' := 193) rfl ?_
              refine s_iload W210 at_193 rfl (pc' := 195) rfl ?_
              have fx211 := ((fx182.keep Ki2 (ninS (ane (by omega)) (ninS (ane (by omega)) (ninS (ane (by omega)) (ninS (ane (by omega)) nin0))))).keep Kr (ninS (ane (by omega)) (ninS (ane (by omega)) (ninS (ane (by omega)) (ninS (ane (by omega)) nin0)))))
              refine gStatic W210 (w_125 hw) (w_126 hw) (w_80 hw) (w_127 hw) (by decide) pd_15 (ct_fnd hw hEL [] b1 k1 b2 b12 b22 (3 : Int32) 3 0 h210 d01 d02 d12 fx211 (by decide) (by decide) (by decide)) (by simp) at_195 (pc' := 198) rfl rfl (argsL := [(.ref b2), (.ref b1), (.int (3 : Int32))]) rfl rfl (rest := []) rfl (wt := 0) (Nat.le_of_eq rfl) (by decide) (by decide) (by decide) (by decide) ?_
              rintro v212 T212 h212 W212 z212 ⟨rfl, rfl⟩
              show Go p e below _ T212 (mkF m 198 #[.val (.int cn), .val (.long x0), .second, .val (.long x1), .second, .val (.long x2), .second, .val (.int rm), .val (.int (3 : Int32)), .val (.int rmv), .val (.ref b1), .val (.ref b32), .val (.ref b36), .val (.int (-1 : Int32)), .val (.ref b2), .unset, .unset] [(.int (0 : Int32))])
              refine s_istore W212 at_198 (l' := #[.val (.int cn), .val (.long x0), .second, .val (.long x1), .second, .val (.long x2), .second, .val (.int rm), .val (.int (3 : Int32)), .val (.int rmv), .val (.ref b1), .val (.ref b32), .val (.ref b36), .val (.int (0 : Int32)), .val (.ref b2), .unset, .unset]) rfl (pc' := 200) rfl ?_
              refine s_iload W212 at_200 rfl (pc' := 202) rfl ?_
              refine s_ifge W212 at_202 (by decide) (pc1 := 207) (by decide) (pc2 := 205) rfl ?_ (fun q => absurd q (by decide))
              intro q202
              refine s_iload W212 at_207 rfl (pc' := 209) rfl ?_
              refine s_ifeq W212 at_209 (by decide) (pc1 := 219) (by decide) (pc2 := 212) rfl (fun q => absurd q q171) ?_
              intro q209
              refine s_iload W212 at_212 rfl (pc' := 214) rfl ?_
              refine s_iconst W212 at_214 (v := (1 : Int32)) (by decide) (pc' := 215) rfl ?_
              refine s_isub W212 at_215 (pc' := 216) rfl ?_
              rw [show ((3 : Int32) - (1 : Int32)) = (2 : Int32) from by decide]
              refine s_goto W212 at_216 (by decide) (pc' := 221) (by decide) ?_
              refine s_istore W212 at_221 (l' := #[.val (.int cn), .val (.long x0), .second, .val (.long x1), .second, .val (.long x2), .second, .val (.int rm), .val (.int (3 : Int32)), .val (.int rmv), .val (.ref b1), .val (.ref b32), .val (.ref b36), .val (.int (0 : Int32)), .val (.int (2 : Int32)), .unset, .unset]) rfl (pc' := 223) rfl ?_
              have fx213 := ((((fx42.keep Ki0 (ninS (ane (by omega)) (ninS (ane (by omega)) (ninS (ane (by omega)) (ninS (ane (by omega)) nin0))))).keep Ki1 (ninS (ane (by omega)) (ninS (ane (by omega)) (ninS (ane (by omega)) (ninS (ane (by omega)) nin0))))).keep Ki2 (ninS (ane (by omega)) (ninS (ane (by omega)) (ninS (ane (by omega)) (ninS (ane (by omega)) nin0))))).keep Kr (ninS (ane (by omega)) (ninS (ane (by omega)) (ninS (ane (by omega)) (ninS (ane (by omega)) nin0)))))
              have fx214 := ((((fx38.keep Ki0).keep Ki1).keep Ki2).keep Kr)
              have fx215 := (((fx113.keep Ki1).keep Ki2).keep Kr)
              have fx216 := ((fx183.keep Ki2).keep Kr)
              exact tailB T212 h210 2 (0 : Int32) (fun i => [2, 1, 0].getD i 0) [(.int (2 : Int32)), (.int (1 : Int32)), (.int (0 : Int32)), (.int (3 : Int32)), (.int (4 : Int32)), (.int (5 : Int32)), (.int (6 : Int32)), (.int (7 : Int32)), (.int (8 : Int32)), (.int (9 : Int32)), (.int (10 : Int32)), (.int (11 : Int32)), (.int (12 : Int32)), (.int (13 : Int32)), (.int (14 : Int32)), (.int (15 : Int32))] [.null, (.ref b12), (.ref b22), .null, .null, .null, .null, .null, .null, .null, .null, .null, .null, .null, .null, .null] W212 HXr Fzr Vhr Ver fx211 fx213 fx214 fx215 fx216 (by decide) (by intro i hi; rcases (by omega : i = 0 ∨ i = 1 ∨ i = 2) with rfl | rfl | rfl <;> first | (exact absurd hi (by decide)) | exact ⟨rfl, by decide, by decide, rfl⟩) (by intro i j hi hj q; rcases (by omega : i = 0 ∨ i = 1 ∨ i = 2) with rfl | rfl | rfl <;> rcases (by omega : j = 0 ∨ j = 1 ∨ j = 2) with rfl | rfl | rfl <;> first | rfl | exact absurd q (by decide) | (exact absurd hi (by decide)) | (exact absurd hj (by decide))) (fun _ => min3 (f := fun t => [x0, x1, x2].getD ((fun i => [2, 1, 0].getD i 0) 0) 0 ≤ [x0, x1, x2].getD t 0) (by decide) (fun _ r => absurd rfl r) (fun _ _ => show x2 ≤ x1 from le64 (by omega)) (fun _ _ => show x2 ≤ x2 from le64 (by omega)))
        · rw [if_neg ci2] at Qi2
          obtain ⟨Vdi2, Vhi2⟩ := Qi2
          have mi2 := nlt64 ci2
          replace Vdi2 : Arv Z h184 dA kd .long 16 [(.long x0), (.long x1), (.long x2), (.long (0 : Int64)), (.long (0 : Int64)), (.long (0 : Int64)), (.long (0 : Int64)), (.long (0 : Int64)), (.long (0 : Int64)), (.long (0 : Int64)), (.long (0 : Int64)), (.long (0 : Int64)), (.long (0 : Int64)), (.long (0 : Int64)), (.long (0 : Int64)), (.long (0 : Int64))] (.long 0) := Vdi2
          replace Vhi2 : Arv Z h184 hA kh .int 16 [(.int (0 : Int32)), (.int (1 : Int32)), (.int (2 : Int32)), (.int (3 : Int32)), (.int (4 : Int32)), (.int (5 : Int32)), (.int (6 : Int32)), (.int (7 : Int32)), (.int (8 : Int32)), (.int (9 : Int32)), (.int (10 : Int32)), (.int (11 : Int32)), (.int (12 : Int32)), (.int (13 : Int32)), (.int (14 : Int32)), (.int (15 : Int32))] (.int 0) := Vhi2
          replace Vei2 : Arv Z h184 eA ke (.object "java/lang/Object") 16 [(.ref b2), (.ref b12), (.ref b22), .null, .null, .null, .null, .null, .null, .null, .null, .null, .null, .null, .null, .null] .null := Vei2
          show Go p e below _ T184 (mkF m 165 #[.val (.int cn), .val (.long x0), .second, .val (.long x1), .second, .val (.long x2), .second, .val (.int rm), .val (.int (3 : Int32)), .val (.int rmv), .val (.ref b1), .val (.ref b32), .val (.ref b36), .unset, .unset, .unset, .unset] [(.int ri2)])
          refine s_pop W184 at_165 rfl (pc' := 166) rfl ?_
          refine s_iconst W184 at_166 (v := (-1 : Int32)) (by decide) (pc' := 167) rfl ?_
          refine s_istore W184 at_167 (l' := #[.val (.int cn), .val (.long x0), .second, .val (.long x1), .second, .val (.long x2), .second, .val (.int rm), .val (.int (3 : Int32)), .val (.int rmv), .val (.ref b1), .val (.ref b32), .val (.ref b36), .val (.int (-1 : Int32)), .unset, .unset, .unset]) rfl (pc' := 169) rfl ?_
          refine s_iload W184 at_169 rfl (pc' := 171) rfl ?_
          refine s_ifeq W184 at_171 (by decide) (pc1 := 207) (by decide) (pc2 := 174) rfl ?_ ?_
          · intro q171
            refine s_iload W184 at_207 rfl (pc' := 209) rfl ?_
            refine s_ifeq W184 at_209 (by decide) (pc1 := 219) (by decide) (pc2 := 212) rfl ?_ (fun q => (q q171).elim)
            intro q209
            refine s_iload W184 at_219 rfl (pc' := 221) rfl ?_
            refine s_istore W184 at_221 (l' := #[.val (.int cn), .val (.long x0), .second, .val (.long x1), .second, .val (.long x2), .second, .val (.int rm), .val (.int (3 : Int32)), .val (.int rmv), .val (.ref b1), .val (.ref b32), .val (.ref b36), .val (.int (-1 : Int32)), .val (.int (3 : Int32)), .unset, .unset]) rfl (pc' := 223) rfl ?_
            have fx217 := (fx182.keep Ki2 (ninS (ane (by omega)) (ninS (ane (by omega)) (ninS (ane (by omega)) (ninS (ane (by omega)) nin0)))))
            have fx218 := (((fx42.keep Ki0 (ninS (ane (by omega)) (ninS (ane (by omega)) (ninS (ane (by omega)) (ninS (ane (by omega)) nin0))))).keep Ki1 (ninS (ane (by omega)) (ninS (ane (by omega)) (ninS (ane (by omega)) (ninS (ane (by omega)) nin0))))).keep Ki2 (ninS (ane (by omega)) (ninS (ane (by omega)) (ninS (ane (by omega)) (ninS (ane (by omega)) nin0)))))
            have fx219 := (((fx38.keep Ki0).keep Ki1).keep Ki2)
            have fx220 := ((fx113.keep Ki1).keep Ki2)
            have fx221 := (fx183.keep Ki2)
            exact tailB T184 h184 3 (-1 : Int32) (fun i => [0, 1, 2].getD i 0) [(.int (0 : Int32)), (.int (1 : Int32)), (.int (2 : Int32)), (.int (3 : Int32)), (.int (4 : Int32)), (.int (5 : Int32)), (.int (6 : Int32)), (.int (7 : Int32)), (.int (8 : Int32)), (.int (9 : Int32)), (.int (10 : Int32)), (.int (11 : Int32)), (.int (12 : Int32)), (.int (13 : Int32)), (.int (14 : Int32)), (.int (15 : Int32))] [(.ref b2), (.ref b12), (.ref b22), .null, .null, .null, .null, .null, .null, .null, .null, .null, .null, .null, .null, .null] W184 HXi2 Fzi2 Vhi2 Vei2 fx217 fx218 fx219 fx220 fx221 (by decide) (by intro i hi; rcases (by omega : i = 0 ∨ i = 1 ∨ i = 2) with rfl | rfl | rfl <;> first | (exact absurd hi (by decide)) | exact ⟨rfl, by decide, by decide, rfl⟩) (by intro i j hi hj q; rcases (by omega : i = 0 ∨ i = 1 ∨ i = 2) with rfl | rfl | rfl <;> rcases (by omega : j = 0 ∨ j = 1 ∨ j = 2) with rfl | rfl | rfl <;> first | rfl | exact absurd q (by decide) | (exact absurd hi (by decide)) | (exact absurd hj (by decide))) (fun _ => min3 (f := fun t => [x0, x1, x2].getD ((fun i => [0, 1, 2].getD i 0) 0) 0 ≤ [x0, x1, x2].getD t 0) (by decide) (fun _ _ => show x0 ≤ x0 from le64 (by omega)) (fun _ _ => show x0 ≤ x1 from le64 (by omega)) (fun _ _ => show x0 ≤ x2 from le64 (by omega)))
          · intro q171
            refine s_aload W184 at_174 rfl rfl (pc' := 176) rfl ?_
            refine s_iload W184 at_176 rfl (pc' := 178) rfl ?_
            refine s_ldcI W184 (w_110 hw) at_178 (pc' := 180) rfl ?_
            refine s_iand W184 at_180 (pc' := 181) rfl ?_
            refine s_iload W184 at_181 rfl (pc' := 183) rfl ?_
            refine s_irem W184 at_183 (by decide) (pc' := 184) rfl ?_
            obtain ⟨r, hr, er⟩ := remL rm (n := 3) (by decide) (by decide)
            rw [show (rm &&& (2147483647 : Int32)) % (3 : Int32) = Int32.ofNat r from er]
            rcases (by omega : r = 0 ∨ r = 1 ∨ r = 2) with rfl | rfl | rfl
            · show Go p e below _ T184 (mkF m 184 #[.val (.int cn), .val (.long x0), .second, .val (.long x1), .second, .val (.long x2), .second, .val (.int rm), .val (.int (3 : Int32)), .val (.int rmv), .val (.ref b1), .val (.ref b32), .val (.ref b36), .val (.int (-1 : Int32)), .unset, .unset, .unset] [(.int (0 : Int32)), (.ref b36)])
              refine gVirtual W184 HXi2.1 (w_111 hw) (w_112 hw) (fun s hZ => notFace_of_selects (args := #[]) (mv hZ (w_114 hw))) (w_114 hw) (w_113 hw) (w_36 hw) (w_115 hw) (by decide) pd_10 (ct_rem30 hw hEL [] b36 dA hA eA b2 kd kh ke x2 x1 (0 : Int32) (2 : Int32) (1 : Int32) 0 [(.long x0), (.long x1), (.long x2), (.long (0 : Int64)), (.long (0 : Int64)), (.long (0 : Int64)), (.long (0 : Int64)), (.long (0 : Int64)), (.long (0 : Int64)), (.long (0 : Int64)), (.long (0 : Int64)), (.long (0 : Int64)), (.long (0 : Int64)), (.long (0 : Int64)), (.long (0 : Int64)), (.long (0 : Int64))] [(.int (0 : Int32)), (.int (1 : Int32)), (.int (2 : Int32)), (.int (3 : Int32)), (.int (4 : Int32)), (.int (5 : Int32)), (.int (6 : Int32)), (.int (7 : Int32)), (.int (8 : Int32)), (.int (9 : Int32)), (.int (10 : Int32)), (.int (11 : Int32)), (.int (12 : Int32)), (.int (13 : Int32)), (.int (14 : Int32)), (.int (15 : Int32))] [(.ref b2), (.ref b12), (.ref b22), .null, .null, .null, .null, .null, .null, .null, .null, .null, .null, .null, .null, .null] h184 HXi2 HN n0_b36 n0_dA n0_hA n0_eA Vdi2 Vhi2 Vei2 Fzi2 rfl rfl rfl rfl (by decide) (by decide) rfl rfl rfl rfl rfl) (by simp) at_184 (pc' := 187) rfl rfl (argsL := [(.int (0 : Int32))]) rfl rfl (rest := []) rfl (wt := 0) (Nat.le_of_eq rfl) (by decide) (by decide) (by decide) (by decide) ?_
              rintro v222 T222 h222 W222 z222 ⟨rfl, Kr, HXr, Fzr, Ver, Qr⟩
              by_cases cr : x1 < x2
              · rw [if_pos cr] at Qr
                obtain ⟨Vdr, Vhr⟩ := Qr
                have mr := lt64 cr
                replace Vdr : Arv Z h222 dA kd .long 16 [(.long x1), (.long x2), (.long x2), (.long (0 : Int64)), (.long (0 : Int64)), (.long (0 : Int64)), (.long (0 : Int64)), (.long (0 : Int64)), (.long (0 : Int64)), (.long (0 : Int64)), (.long (0 : Int64)), (.long (0 : Int64)), (.long (0 : Int64)), (.long (0 : Int64)), (.long (0 : Int64)), (.long (0 : Int64))] (.long 0) := Vdr
                replace Vhr : Arv Z h222 hA kh .int 16 [(.int (1 : Int32)), (.int (2 : Int32)), (.int (0 : Int32)), (.int (3 : Int32)), (.int (4 : Int32)), (.int (5 : Int32)), (.int (6 : Int32)), (.int (7 : Int32)), (.int (8 : Int32)), (.int (9 : Int32)), (.int (10 : Int32)), (.int (11 : Int32)), (.int (12 : Int32)), (.int (13 : Int32)), (.int (14 : Int32)), (.int (15 : Int32))] (.int 0) := Vhr
                replace Ver : Arv Z h222 eA ke (.object "java/lang/Object") 16 [.null, (.ref b12), (.ref b22), .null, .null, .null, .null, .null, .null, .null, .null, .null, .null, .null, .null, .null] .null := Ver
                show Go p e below _ T222 (mkF m 187 #[.val (.int cn), .val (.long x0), .second, .val (.long x1), .second, .val (.long x2), .second, .val (.int rm), .val (.int (3 : Int32)), .val (.int rmv), .val (.ref b1), .val (.ref b32), .val (.ref b36), .val (.int (-1 : Int32)), .unset, .unset, .unset] [(.ref b2)])
                refine s_astore W222 at_187 rfl (l' := #[.val (.int cn), .val (.long x0), .second, .val (.long x1), .second, .val (.long x2), .second, .val (.int rm), .val (.int (3 : Int32)), .val (.int rmv), .val (.ref b1), .val (.ref b32), .val (.ref b36), .val (.int (-1 : Int32)), .val (.ref b2), .unset, .unset]) rfl (pc' := 189) rfl ?_
                refine s_aload W222 at_189 rfl rfl (pc' := 191) rfl ?_
                refine s_aload W222 at_191 rfl rfl (pc' := 193) rfl ?_
                refine s_iload W222 at_193 rfl (pc' := 195) rfl ?_
                have fx223 := ((fx182.keep Ki2 (ninS (ane (by omega)) (ninS (ane (by omega)) (ninS (ane (by omega)) (ninS (ane (by omega)) nin0))))).keep Kr (ninS (ane (by omega)) (ninS (ane (by omega)) (ninS (ane (by omega)) (ninS (ane (by omega)) nin0)))))
                refine gStatic W222 (w_125 hw) (w_126 hw) (w_80 hw) (w_127 hw) (by decide) pd_15 (ct_fnd hw hEL [] b1 k1 b2 b12 b22 (3 : Int32) 3 0 h222 d01 d02 d12 fx223 (by decide) (by decide) (by decide)) (by simp) at_195 (pc' := 198) rfl rfl (argsL := [(.ref b2), (.ref b1), (.int (3 : Int32))]) rfl rfl (rest := []) rfl (wt := 0) (Nat.le_of_eq rfl) (by decide) (by decide) (by decide) (by decide) ?_
                rintro v224 T224 h224 W224 z224 ⟨rfl, rfl⟩
                show Go p e below _ T224 (mkF m 198 #[.val (.int cn), .val (.long x0), .second, .val (.long x1), .second, .val (.long x2), .second, .val (.int rm), .val (.int (3 : Int32)), .val (.int rmv), .val (.ref b1), .val (.ref b32), .val (.ref b36), .val (.int (-1 : Int32)), .val (.ref b2), .unset, .unset] [(.int (0 : Int32))])
                refine s_istore W224 at_198 (l' := #[.val (.int cn), .val (.long x0), .second, .val (.long x1), .second, .val (.long x2), .second, .val (.int rm), .val (.int (3 : Int32)), .val (.int rmv), .val (.ref b1), .val (.ref b32), .val (.ref b36), .val (.int (0 : Int32)), .val (.ref b2), .unset, .unset]) rfl (pc' := 200) rfl ?_
                refine s_iload W224 at_200 rfl (pc' := 202) rfl ?_
                refine s_ifge W224 at_202 (by decide) (pc1 := 207) (by decide) (pc2 := 205) rfl ?_ (fun q => absurd q (by decide))
                intro q202
                refine s_iload W224 at_207 rfl (pc' := 209) rfl ?_
                refine s_ifeq W224 at_209 (by decide) (pc1 := 219) (by decide) (pc2 := 212) rfl (fun q => absurd q q171) ?_
                intro q209
                refine s_iload W224 at_212 rfl (pc' := 214) rfl ?_
                refine s_iconst W224 at_214 (v := (1 : Int32)) (by decide) (pc' := 215) rfl ?_
                refine s_isub W224 at_215 (pc' := 216) rfl ?_
                rw [show ((3 : Int32) - (1 : Int32)) = (2 : Int32) from by decide]
                refine s_goto W224 at_216 (by decide) (pc' := 221) (by decide) ?_
                refine s_istore W224 at_221 (l' := #[.val (.int cn), .val (.long x0), .second, .val (.long x1), .second, .val (.long x2), .second, .val (.int rm), .val (.int (3 : Int32)), .val (.int rmv), .val (.ref b1), .val (.ref b32), .val (.ref b36), .val (.int (0 : Int32)), .val (.int (2 : Int32)), .unset, .unset]) rfl (pc' := 223) rfl ?_
                have fx225 := ((((fx42.keep Ki0 (ninS (ane (by omega)) (ninS (ane (by omega)) (ninS (ane (by omega)) (ninS (ane (by omega)) nin0))))).keep Ki1 (ninS (ane (by omega)) (ninS (ane (by omega)) (ninS (ane (by omega)) (ninS (ane (by omega)) nin0))))).keep Ki2 (ninS (ane (by omega)) (ninS (ane (by omega)) (ninS (ane (by omega)) (ninS (ane (by omega)) nin0))))).keep Kr (ninS (ane (by omega)) (ninS (ane (by omega)) (ninS (ane (by omega)) (ninS (ane (by omega)) nin0)))))
                have fx226 := ((((fx38.keep Ki0).keep Ki1).keep Ki2).keep Kr)
                have fx227 := (((fx113.keep Ki1).keep Ki2).keep Kr)
                have fx228 := ((fx183.keep Ki2).keep Kr)
                exact tailB T224 h222 2 (0 : Int32) (fun i => [1, 2, 0].getD i 0) [(.int (1 : Int32)), (.int (2 : Int32)), (.int (0 : Int32)), (.int (3 : Int32)), (.int (4 : Int32)), (.int (5 : Int32)), (.int (6 : Int32)), (.int (7 : Int32)), (.int (8 : Int32)), (.int (9 : Int32)), (.int (10 : Int32)), (.int (11 : Int32)), (.int (12 : Int32)), (.int (13 : Int32)), (.int (14 : Int32)), (.int (15 : Int32))] [.null, (.ref b12), (.ref b22), .null, .null, .null, .null, .null, .null, .null, .null, .null, .null, .null, .null, .null] W224 HXr Fzr Vhr Ver fx223 fx225 fx226 fx227 fx228 (by decide) (by intro i hi; rcases (by omega : i = 0 ∨ i = 1 ∨ i = 2) with rfl | rfl | rfl <;> first | (exact absurd hi (by decide)) | exact ⟨rfl, by decide, by decide, rfl⟩) (by intro i j hi hj q; rcases (by omega : i = 0 ∨ i = 1 ∨ i = 2) with rfl | rfl | rfl <;> rcases (by omega : j = 0 ∨ j = 1 ∨ j = 2) with rfl | rfl | rfl <;> first | rfl | exact absurd q (by decide) | (exact absurd hi (by decide)) | (exact absurd hj (by decide))) (fun _ => min3 (f := fun t => [x0, x1, x2].getD ((fun i => [1, 2, 0].getD i 0) 0) 0 ≤ [x0, x1, x2].getD t 0) (by decide) (fun _ r => absurd rfl r) (fun _ _ => show x1 ≤ x1 from le64 (by omega)) (fun _ _ => show x1 ≤ x2 from le64 (by omega)))
              · rw [if_neg cr] at Qr
                obtain ⟨Vdr, Vhr⟩ := Qr
                have mr := nlt64 cr
                replace Vdr : Arv Z h222 dA kd .long 16 [(.long x2), (.long x1), (.long x2), (.long (0 : Int64)), (.long (0 : Int64)), (.long (0 : Int64)), (.long (0 : Int64)), (.long (0 : Int64)), (.long (0 : Int64)), (.long (0 : Int64)), (.long (0 : Int64)), (.long (0 : Int64)), (.long (0 : Int64)), (.long (0 : Int64)), (.long (0 : Int64)), (.long (0 : Int64))] (.long 0) := Vdr
                replace Vhr : Arv Z h222 hA kh .int 16 [(.int (2 : Int32)), (.int (1 : Int32)), (.int (0 : Int32)), (.int (3 : Int32)), (.int (4 : Int32)), (.int (5 : Int32)), (.int (6 : Int32)), (.int (7 : Int32)), (.int (8 : Int32)), (.int (9 : Int32)), (.int (10 : Int32)), (.int (11 : Int32)), (.int (12 : Int32)), (.int (13 : Int32)), (.int (14 : Int32)), (.int (15 : Int32))] (.int 0) := Vhr
                replace Ver : Arv Z h222 eA ke (.object "java/lang/Object") 16 [.null, (.ref b12), (.ref b22), .null, .null, .null, .null, .null, .null, .null, .null, .null, .null, .null, .null, .null] .null := Ver
                show Go p e below _ T222 (mkF m 187 #[.val (.int cn), .val (.long x0), .second, .val (.long x1), .second, .val (.long x2), .second, .val (.int rm), .val (.int (3 : Int32)), .val (.int rmv), .val (.ref b1), .val (.ref b32), .val (.ref b36), .val (.int (-1 : Int32)), .unset, .unset, .unset] [(.ref b2)])
                refine s_astore W222 at_187 rfl (l' := #[.val (.int cn), .val (.long x0), .second, .val (.long x1), .second, .val (.long x2), .second, .val (.int rm), .val (.int (3 : Int32)), .val (.int rmv), .val (.ref b1), .val (.ref b32), .val (.ref b36), .val (.int (-1 : Int32)), .val (.ref b2), .unset, .unset]) rfl (pc' := 189) rfl ?_
                refine s_aload W222 at_189 rfl rfl (pc' := 191) rfl ?_
                refine s_aload W222 at_191 rfl rfl (pc' := 193) rfl ?_
                refine s_iload W222 at_193 rfl (pc' := 195) rfl ?_
                have fx229 := ((fx182.keep Ki2 (ninS (ane (by omega)) (ninS (ane (by omega)) (ninS (ane (by omega)) (ninS (ane (by omega)) nin0))))).keep Kr (ninS (ane (by omega)) (ninS (ane (by omega)) (ninS (ane (by omega)) (ninS (ane (by omega)) nin0)))))
                refine gStatic W222 (w_125 hw) (w_126 hw) (w_80 hw) (w_127 hw) (by decide) pd_15 (ct_fnd hw hEL [] b1 k1 b2 b12 b22 (3 : Int32) 3 0 h222 d01 d02 d12 fx229 (by decide) (by decide) (by decide)) (by simp) at_195 (pc' := 198) rfl rfl (argsL := [(.ref b2), (.ref b1), (.int (3 : Int32))]) rfl rfl (rest := []) rfl (wt := 0) (Nat.le_of_eq rfl) (by decide) (by decide) (by decide) (by decide) ?_
                rintro v230 T230 h230 W230 z230 ⟨rfl, rfl⟩
                show Go p e below _ T230 (mkF m 198 #[.val (.int cn), .val (.long x0), .second, .val (.long x1), .second, .val (.long x2), .second, .val (.int rm), .val (.int (3 : Int32)), .val (.int rmv), .val (.ref b1), .val (.ref b32), .val (.ref b36), .val (.int (-1 : Int32)), .val (.ref b2), .unset, .unset] [(.int (0 : Int32))])
                refine s_istore W230 at_198 (l' := #[.val (.int cn), .val (.long x0), .second, .val (.long x1), .second, .val (.long x2), .second, .val (.int rm), .val (.int (3 : Int32)), .val (.int rmv), .val (.ref b1), .val (.ref b32), .val (.ref b36), .val (.int (0 : Int32)), .val (.ref b2), .unset, .unset]) rfl (pc' := 200) rfl ?_
                refine s_iload W230 at_200 rfl (pc' := 202) rfl ?_
                refine s_ifge W230 at_202 (by decide) (pc1 := 207) (by decide) (pc2 := 205) rfl ?_ (fun q => absurd q (by decide))
                intro q202
                refine s_iload W230 at_207 rfl (pc' := 209) rfl ?_
                refine s_ifeq W230 at_209 (by decide) (pc1 := 219) (by decide) (pc2 := 212) rfl (fun q => absurd q q171) ?_
                intro q209
                refine s_iload W230 at_212 rfl (pc' := 214) rfl ?_
                refine s_iconst W230 at_214 (v := (1 : Int32)) (by decide) (pc' := 215) rfl ?_
                refine s_isub W230 at_215 (pc' := 216) rfl ?_
                rw [show ((3 : Int32) - (1 : Int32)) = (2 : Int32) from by decide]
                refine s_goto W230 at_216 (by decide) (pc' := 221) (by decide) ?_
                refine s_istore W230 at_221 (l' := #[.val (.int cn), .val (.long x0), .second, .val (.long x1), .second, .val (.long x2), .second, .val (.int rm), .val (.int (3 : Int32)), .val (.int rmv), .val (.ref b1), .val (.ref b32), .val (.ref b36), .val (.int (0 : Int32)), .val (.int (2 : Int32)), .unset, .unset]) rfl (pc' := 223) rfl ?_
                have fx231 := ((((fx42.keep Ki0 (ninS (ane (by omega)) (ninS (ane (by omega)) (ninS (ane (by omega)) (ninS (ane (by omega)) nin0))))).keep Ki1 (ninS (ane (by omega)) (ninS (ane (by omega)) (ninS (ane (by omega)) (ninS (ane (by omega)) nin0))))).keep Ki2 (ninS (ane (by omega)) (ninS (ane (by omega)) (ninS (ane (by omega)) (ninS (ane (by omega)) nin0))))).keep Kr (ninS (ane (by omega)) (ninS (ane (by omega)) (ninS (ane (by omega)) (ninS (ane (by omega)) nin0)))))
                have fx232 := ((((fx38.keep Ki0).keep Ki1).keep Ki2).keep Kr)
                have fx233 := (((fx113.keep Ki1).keep Ki2).keep Kr)
                have fx234 := ((fx183.keep Ki2).keep Kr)
                exact tailB T230 h222 2 (0 : Int32) (fun i => [2, 1, 0].getD i 0) [(.int (2 : Int32)), (.int (1 : Int32)), (.int (0 : Int32)), (.int (3 : Int32)), (.int (4 : Int32)), (.int (5 : Int32)), (.int (6 : Int32)), (.int (7 : Int32)), (.int (8 : Int32)), (.int (9 : Int32)), (.int (10 : Int32)), (.int (11 : Int32)), (.int (12 : Int32)), (.int (13 : Int32)), (.int (14 : Int32)), (.int (15 : Int32))] [.null, (.ref b12), (.ref b22), .null, .null, .null, .null, .null, .null, .null, .null, .null, .null, .null, .null, .null] W230 HXr Fzr Vhr Ver fx229 fx231 fx232 fx233 fx234 (by decide) (by intro i hi; rcases (by omega : i = 0 ∨ i = 1 ∨ i = 2) with rfl | rfl | rfl <;> first | (exact absurd hi (by decide)) | exact ⟨rfl, by decide, by decide, rfl⟩) (by intro i j hi hj q; rcases (by omega : i = 0 ∨ i = 1 ∨ i = 2) with rfl | rfl | rfl <;> rcases (by omega : j = 0 ∨ j = 1 ∨ j = 2) with rfl | rfl | rfl <;> first | rfl | exact absurd q (by decide) | (exact absurd hi (by decide)) | (exact absurd hj (by decide))) (fun _ => min3 (f := fun t => [x0, x1, x2].getD ((fun i => [2, 1, 0].getD i 0) 0) 0 ≤ [x0, x1, x2].getD t 0) (by decide) (fun _ r => absurd rfl r) (fun _ _ => show x2 ≤ x1 from le64 (by omega)) (fun _ _ => show x2 ≤ x2 from le64 (by omega)))
            · show Go p e below _ T184 (mkF m 184 #[.val (.int cn), .val (.long x0), .second, .val (.long x1), .second, .val (.long x2), .second, .val (.int rm), .val (.int (3 : Int32)), .val (.int rmv), .val (.ref b1), .val (.ref b32), .val (.ref b36), .val (.int (-1 : Int32)), .unset, .unset, .unset] [(.int (1 : Int32)), (.ref b36)])
              refine gVirtual W184 HXi2.1 (w_111 hw) (w_112 hw) (fun s hZ => notFace_of_selects (args := #[]) (mv hZ (w_114 hw))) (w_114 hw) (w_113 hw) (w_36 hw) (w_115 hw) (by decide) pd_10 (ct_rem31 hw hEL [] b36 dA hA eA b12 kd kh ke x2 x0 (1 : Int32) (2 : Int32) (0 : Int32) 1 [(.long x0), (.long x1), (.long x2), (.long (0 : Int64)), (.long (0 : Int64)), (.long (0 : Int64)), (.long (0 : Int64)), (.long (0 : Int64)), (.long (0 : Int64)), (.long (0 : Int64)), (.long (0 : Int64)), (.long (0 : Int64)), (.long (0 : Int64)), (.long (0 : Int64)), (.long (0 : Int64)), (.long (0 : Int64))] [(.int (0 : Int32)), (.int (1 : Int32)), (.int (2 : Int32)), (.int (3 : Int32)), (.int (4 : Int32)), (.int (5 : Int32)), (.int (6 : Int32)), (.int (7 : Int32)), (.int (8 : Int32)), (.int (9 : Int32)), (.int (10 : Int32)), (.int (11 : Int32)), (.int (12 : Int32)), (.int (13 : Int32)), (.int (14 : Int32)), (.int (15 : Int32))] [(.ref b2), (.ref b12), (.ref b22), .null, .null, .null, .null, .null, .null, .null, .null, .null, .null, .null, .null, .null] h184 HXi2 HN n0_b36 n0_dA n0_hA n0_eA Vdi2 Vhi2 Vei2 Fzi2 rfl rfl rfl rfl (by decide) (by decide) rfl rfl rfl rfl rfl (nlt64' (by omega))) (by simp) at_184 (pc' := 187) rfl rfl (argsL := [(.int (1 : Int32))]) rfl rfl (rest := []) rfl (wt := 0) (Nat.le_of_eq rfl) (by decide) (by decide) (by decide) (by decide) ?_
              rintro v235 T235 h235 W235 z235 ⟨rfl, Kr, HXr, Fzr, Ver, Vdr, Vhr⟩
              replace Vdr : Arv Z h235 dA kd .long 16 [(.long x0), (.long x2), (.long x2), (.long (0 : Int64)), (.long (0 : Int64)), (.long (0 : Int64)), (.long (0 : Int64)), (.long (0 : Int64)), (.long (0 : Int64)), (.long (0 : Int64)), (.long (0 : Int64)), (.long (0 : Int64)), (.long (0 : Int64)), (.long (0 : Int64)), (.long (0 : Int64)), (.long (0 : Int64))] (.long 0) := Vdr
              replace Vhr : Arv Z h235 hA kh .int 16 [(.int (0 : Int32)), (.int (2 : Int32)), (.int (1 : Int32)), (.int (3 : Int32)), (.int (4 : Int32)), (.int (5 : Int32)), (.int (6 : Int32)), (.int (7 : Int32)), (.int (8 : Int32)), (.int (9 : Int32)), (.int (10 : Int32)), (.int (11 : Int32)), (.int (12 : Int32)), (.int (13 : Int32)), (.int (14 : Int32)), (.int (15 : Int32))] (.int 0) := Vhr
              replace Ver : Arv Z h235 eA ke (.object "java/lang/Object") 16 [(.ref b2), .null, (.ref b22), .null, .null, .null, .null, .null, .null, .null, .null, .null, .null, .null, .null, .null] .null := Ver
              show Go p e below _ T235 (mkF m 187 #[.val (.int cn), .val (.long x0), .second, .val (.long x1), .second, .val (.long x2), .second, .val (.int rm), .val (.int (3 : Int32)), .val (.int rmv), .val (.ref b1), .val (.ref b32), .val (.ref b36), .val (.int (-1 : Int32)), .unset, .unset, .unset] [(.ref b12)])
              refine s_astore W235 at_187 rfl (l' := #[.val (.int cn), .val (.long x0), .second, .val (.long x1), .second, .val (.long x2), .second, .val (.int rm), .val (.int (3 : Int32)), .val (.int rmv), .val (.ref b1), .val (.ref b32), .val (.ref b36), .val (.int (-1 : Int32)), .val (.ref b12), .unset, .unset]) rfl (pc' := 189) rfl ?_
              refine s_aload W235 at_189 rfl rfl (pc' := 191) rfl ?_
              refine s_aload W235 at_191 rfl rfl (pc' := 193) rfl ?_
              refine s_iload W235 at_193 rfl (pc' := 195) rfl ?_
              have fx236 := ((fx182.keep Ki2 (ninS (ane (by omega)) (ninS (ane (by omega)) (ninS (ane (by omega)) (ninS (ane (by omega)) nin0))))).keep Kr (ninS (ane (by omega)) (ninS (ane (by omega)) (ninS (ane (by omega)) (ninS (ane (by omega)) nin0)))))
              refine gStatic W235 (w_125 hw) (w_126 hw) (w_80 hw) (w_127 hw) (by decide) pd_15 (ct_fnd hw hEL [] b1 k1 b2 b12 b22 (3 : Int32) 3 1 h235 d01 d02 d12 fx236 (by decide) (by decide) (by decide)) (by simp) at_195 (pc' := 198) rfl rfl (argsL := [(.ref b12), (.ref b1), (.int (3 : Int32))]) rfl rfl (rest := []) rfl (wt := 0) (Nat.le_of_eq rfl) (by decide) (by decide) (by decide) (by decide) ?_
              rintro v237 T237 h237 W237 z237 ⟨rfl, rfl⟩
              show Go p e below _ T237 (mkF m 198 #[.val (.int cn), .val (.long x0), .second, .val (.long x1), .second, .val (.long x2), .second, .val (.int rm), .val (.int (3 : Int32)), .val (.int rmv), .val (.ref b1), .val (.ref b32), .val (.ref b36), .val (.int (-1 : Int32)), .val (.ref b12), .unset, .unset] [(.int (1 : Int32))])
              refine s_istore W237 at_198 (l' := #[.val (.int cn), .val (.long x0), .second, .val (.long x1), .second, .val (.long x2), .second, .val (.int rm), .val (.int (3 : Int32)), .val (.int rmv), .val (.ref b1), .val (.ref b32), .val (.ref b36), .val (.int (1 : Int32)), .val (.ref b12), .unset, .unset]) rfl (pc' := 200) rfl ?_
              refine s_iload W237 at_200 rfl (pc' := 202) rfl ?_
              refine s_ifge W237 at_202 (by decide) (pc1 := 207) (by decide) (pc2 := 205) rfl ?_ (fun q => absurd q (by decide))
              intro q202
              refine s_iload W237 at_207 rfl (pc' := 209) rfl ?_
              refine s_ifeq W237 at_209 (by decide) (pc1 := 219) (by decide) (pc2 := 212) rfl (fun q => absurd q q171) ?_
              intro q209
              refine s_iload W237 at_212 rfl (pc' := 214) rfl ?_
              refine s_iconst W237 at_214 (v := (1 : Int32)) (by decide) (pc' := 215) rfl ?_
              refine s_isub W237 at_215 (pc' := 216) rfl ?_
              rw [show ((3 : Int32) - (1 : Int32)) = (2 : Int32) from by decide]
              refine s_goto W237 at_216 (by decide) (pc' := 221) (by decide) ?_
              refine s_istore W237 at_221 (l' := #[.val (.int cn), .val (.long x0), .second, .val (.long x1), .second, .val (.long x2), .second, .val (.int rm), .val (.int (3 : Int32)), .val (.int rmv), .val (.ref b1), .val (.ref b32), .val (.ref b36), .val (.int (1 : Int32)), .val (.int (2 : Int32)), .unset, .unset]) rfl (pc' := 223) rfl ?_
              have fx238 := ((((fx42.keep Ki0 (ninS (ane (by omega)) (ninS (ane (by omega)) (ninS (ane (by omega)) (ninS (ane (by omega)) nin0))))).keep Ki1 (ninS (ane (by omega)) (ninS (ane (by omega)) (ninS (ane (by omega)) (ninS (ane (by omega)) nin0))))).keep Ki2 (ninS (ane (by omega)) (ninS (ane (by omega)) (ninS (ane (by omega)) (ninS (ane (by omega)) nin0))))).keep Kr (ninS (ane (by omega)) (ninS (ane (by omega)) (ninS (ane (by omega)) (ninS (ane (by omega)) nin0)))))
              have fx239 := ((((fx38.keep Ki0).keep Ki1).keep Ki2).keep Kr)
              have fx240 := (((fx113.keep Ki1).keep Ki2).keep Kr)
              have fx241 := ((fx183.keep Ki2).keep Kr)
              exact tailB T237 h235 2 (1 : Int32) (fun i => [0, 2, 1].getD i 0) [(.int (0 : Int32)), (.int (2 : Int32)), (.int (1 : Int32)), (.int (3 : Int32)), (.int (4 : Int32)), (.int (5 : Int32)), (.int (6 : Int32)), (.int (7 : Int32)), (.int (8 : Int32)), (.int (9 : Int32)), (.int (10 : Int32)), (.int (11 : Int32)), (.int (12 : Int32)), (.int (13 : Int32)), (.int (14 : Int32)), (.int (15 : Int32))] [(.ref b2), .null, (.ref b22), .null, .null, .null, .null, .null, .null, .null, .null, .null, .null, .null, .null, .null] W237 HXr Fzr Vhr Ver fx236 fx238 fx239 fx240 fx241 (by decide) (by intro i hi; rcases (by omega : i = 0 ∨ i = 1 ∨ i = 2) with rfl | rfl | rfl <;> first | (exact absurd hi (by decide)) | exact ⟨rfl, by decide, by decide, rfl⟩) (by intro i j hi hj q; rcases (by omega : i = 0 ∨ i = 1 ∨ i = 2) with rfl | rfl | rfl <;> rcases (by omega : j = 0 ∨ j = 1 ∨ j = 2) with rfl | rfl | rfl <;> first | rfl | exact absurd q (by decide) | (exact absurd hi (by decide)) | (exact absurd hj (by decide))) (fun _ => min3 (f := fun t => [x0, x1, x2].getD ((fun i => [0, 2, 1].getD i 0) 0) 0 ≤ [x0, x1, x2].getD t 0) (by decide) (fun _ _ => show x0 ≤ x0 from le64 (by omega)) (fun _ r => absurd rfl r) (fun _ _ => show x0 ≤ x2 from le64 (by omega)))
            · show Go p e below _ T184 (mkF m 184 #[.val (.int cn), .val (.long x0), .second, .val (.long x1), .second, .val (.long x2), .second, .val (.int rm), .val (.int (3 : Int32)), .val (.int rmv), .val (.ref b1), .val (.ref b32), .val (.ref b36), .val (.int (-1 : Int32)), .unset, .unset, .unset] [(.int (2 : Int32)), (.ref b36)])
              refine gVirtual W184 HXi2.1 (w_111 hw) (w_112 hw) (fun s hZ => notFace_of_selects (args := #[]) (mv hZ (w_114 hw))) (w_114 hw) (w_113 hw) (w_36 hw) (w_115 hw) (by decide) pd_10 (ct_rem32 hw hEL [] b36 dA hA eA b22 kd kh ke x2 (2 : Int32) (2 : Int32) 2 [(.long x0), (.long x1), (.long x2), (.long (0 : Int64)), (.long (0 : Int64)), (.long (0 : Int64)), (.long (0 : Int64)), (.long (0 : Int64)), (.long (0 : Int64)), (.long (0 : Int64)), (.long (0 : Int64)), (.long (0 : Int64)), (.long (0 : Int64)), (.long (0 : Int64)), (.long (0 : Int64)), (.long (0 : Int64))] [(.int (0 : Int32)), (.int (1 : Int32)), (.int (2 : Int32)), (.int (3 : Int32)), (.int (4 : Int32)), (.int (5 : Int32)), (.int (6 : Int32)), (.int (7 : Int32)), (.int (8 : Int32)), (.int (9 : Int32)), (.int (10 : Int32)), (.int (11 : Int32)), (.int (12 : Int32)), (.int (13 : Int32)), (.int (14 : Int32)), (.int (15 : Int32))] [(.ref b2), (.ref b12), (.ref b22), .null, .null, .null, .null, .null, .null, .null, .null, .null, .null, .null, .null, .null] h184 HXi2 HN n0_b36 n0_dA n0_hA n0_eA Vdi2 Vhi2 Vei2 Fzi2 rfl rfl rfl rfl (by decide) (by decide) rfl rfl rfl) (by simp) at_184 (pc' := 187) rfl rfl (argsL := [(.int (2 : Int32))]) rfl rfl (rest := []) rfl (wt := 0) (Nat.le_of_eq rfl) (by decide) (by decide) (by decide) (by decide) ?_
              rintro v242 T242 h242 W242 z242 ⟨rfl, Kr, HXr, Fzr, Ver, Vdr, Vhr⟩
              replace Vdr : Arv Z h242 dA kd .long 16 [(.long x0), (.long x1), (.long x2), (.long (0 : Int64)), (.long (0 : Int64)), (.long (0 : Int64)), (.long (0 : Int64)), (.long (0 : Int64)), (.long (0 : Int64)), (.long (0 : Int64)), (.long (0 : Int64)), (.long (0 : Int64)), (.long (0 : Int64)), (.long (0 : Int64)), (.long (0 : Int64)), (.long (0 : Int64))] (.long 0) := Vdr
              replace Vhr : Arv Z h242 hA kh .int 16 [(.int (0 : Int32)), (.int (1 : Int32)), (.int (2 : Int32)), (.int (3 : Int32)), (.int (4 : Int32)), (.int (5 : Int32)), (.int (6 : Int32)), (.int (7 : Int32)), (.int (8 : Int32)), (.int (9 : Int32)), (.int (10 : Int32)), (.int (11 : Int32)), (.int (12 : Int32)), (.int (13 : Int32)), (.int (14 : Int32)), (.int (15 : Int32))] (.int 0) := Vhr
              replace Ver : Arv Z h242 eA ke (.object "java/lang/Object") 16 [(.ref b2), (.ref b12), .null, .null, .null, .null, .null, .null, .null, .null, .null, .null, .null, .null, .null, .null] .null := Ver
              show Go p e below _ T242 (mkF m 187 #[.val (.int cn), .val (.long x0), .second, .val (.long x1), .second, .val (.long x2), .second, .val (.int rm), .val (.int (3 : Int32)), .val (.int rmv), .val (.ref b1), .val (.ref b32), .val (.ref b36), .val (.int (-1 : Int32)), .unset, .unset, .unset] [(.ref b22)])
              refine s_astore W242 at_187 rfl (l' := #[.val (.int cn), .val (.long x0), .second, .val (.long x1), .second, .val (.long x2), .second, .val (.int rm), .val (.int (3 : Int32)), .val (.int rmv), .val (.ref b1), .val (.ref b32), .val (.ref b36), .val (.int (-1 : Int32)), .val (.ref b22), .unset, .unset]) rfl (pc' := 189) rfl ?_
              refine s_aload W242 at_189 rfl rfl (pc' := 191) rfl ?_
              refine s_aload W242 at_191 rfl rfl (pc' := 193) rfl ?_
              refine s_iload W242 at_193 rfl (pc' := 195) rfl ?_
              have fx243 := ((fx182.keep Ki2 (ninS (ane (by omega)) (ninS (ane (by omega)) (ninS (ane (by omega)) (ninS (ane (by omega)) nin0))))).keep Kr (ninS (ane (by omega)) (ninS (ane (by omega)) (ninS (ane (by omega)) (ninS (ane (by omega)) nin0)))))
              refine gStatic W242 (w_125 hw) (w_126 hw) (w_80 hw) (w_127 hw) (by decide) pd_15 (ct_fnd hw hEL [] b1 k1 b2 b12 b22 (3 : Int32) 3 2 h242 d01 d02 d12 fx243 (by decide) (by decide) (by decide)) (by simp) at_195 (pc' := 198) rfl rfl (argsL := [(.ref b22), (.ref b1), (.int (3 : Int32))]) rfl rfl (rest := []) rfl (wt := 0) (Nat.le_of_eq rfl) (by decide) (by decide) (by decide) (by decide) ?_
              rintro v244 T244 h244 W244 z244 ⟨rfl, rfl⟩
              show Go p e below _ T244 (mkF m 198 #[.val (.int cn), .val (.long x0), .second, .val (.long x1), .second, .val (.long x2), .second, .val (.int rm), .val (.int (3 : Int32)), .val (.int rmv), .val (.ref b1), .val (.ref b32), .val (.ref b36), .val (.int (-1 : Int32)), .val (.ref b22), .unset, .unset] [(.int (2 : Int32))])
              refine s_istore W244 at_198 (l' := #[.val (.int cn), .val (.long x0), .second, .val (.long x1), .second, .val (.long x2), .second, .val (.int rm), .val (.int (3 : Int32)), .val (.int rmv), .val (.ref b1), .val (.ref b32), .val (.ref b36), .val (.int (2 : Int32)), .val (.ref b22), .unset, .unset]) rfl (pc' := 200) rfl ?_
              refine s_iload W244 at_200 rfl (pc' := 202) rfl ?_
              refine s_ifge W244 at_202 (by decide) (pc1 := 207) (by decide) (pc2 := 205) rfl ?_ (fun q => absurd q (by decide))
              intro q202
              refine s_iload W244 at_207 rfl (pc' := 209) rfl ?_
              refine s_ifeq W244 at_209 (by decide) (pc1 := 219) (by decide) (pc2 := 212) rfl (fun q => absurd q q171) ?_
              intro q209
              refine s_iload W244 at_212 rfl (pc' := 214) rfl ?_
              refine s_iconst W244 at_214 (v := (1 : Int32)) (by decide) (pc' := 215) rfl ?_
              refine s_isub W244 at_215 (pc' := 216) rfl ?_
              rw [show ((3 : Int32) - (1 : Int32)) = (2 : Int32) from by decide]
              refine s_goto W244 at_216 (by decide) (pc' := 221) (by decide) ?_
              refine s_istore W244 at_221 (l' := #[.val (.int cn), .val (.long x0), .second, .val (.long x1), .second, .val (.long x2), .second, .val (.int rm), .val (.int (3 : Int32)), .val (.int rmv), .val (.ref b1), .val (.ref b32), .val (.ref b36), .val (.int (2 : Int32)), .val (.int (2 : Int32)), .unset, .unset]) rfl (pc' := 223) rfl ?_
              have fx245 := ((((fx42.keep Ki0 (ninS (ane (by omega)) (ninS (ane (by omega)) (ninS (ane (by omega)) (ninS (ane (by omega)) nin0))))).keep Ki1 (ninS (ane (by omega)) (ninS (ane (by omega)) (ninS (ane (by omega)) (ninS (ane (by omega)) nin0))))).keep Ki2 (ninS (ane (by omega)) (ninS (ane (by omega)) (ninS (ane (by omega)) (ninS (ane (by omega)) nin0))))).keep Kr (ninS (ane (by omega)) (ninS (ane (by omega)) (ninS (ane (by omega)) (ninS (ane (by omega)) nin0)))))
              have fx246 := ((((fx38.keep Ki0).keep Ki1).keep Ki2).keep Kr)
              have fx247 := (((fx113.keep Ki1).keep Ki2).keep Kr)
              have fx248 := ((fx183.keep Ki2).keep Kr)
              exact tailB T244 h242 2 (2 : Int32) (fun i => [0, 1, 2].getD i 0) [(.int (0 : Int32)), (.int (1 : Int32)), (.int (2 : Int32)), (.int (3 : Int32)), (.int (4 : Int32)), (.int (5 : Int32)), (.int (6 : Int32)), (.int (7 : Int32)), (.int (8 : Int32)), (.int (9 : Int32)), (.int (10 : Int32)), (.int (11 : Int32)), (.int (12 : Int32)), (.int (13 : Int32)), (.int (14 : Int32)), (.int (15 : Int32))] [(.ref b2), (.ref b12), .null, .null, .null, .null, .null, .null, .null, .null, .null, .null, .null, .null, .null, .null] W244 HXr Fzr Vhr Ver fx243 fx245 fx246 fx247 fx248 (by decide) (by intro i hi; rcases (by omega : i = 0 ∨ i = 1 ∨ i = 2) with rfl | rfl | rfl <;> first | (exact absurd hi (by decide)) | exact ⟨rfl, by decide, by decide, rfl⟩) (by intro i j hi hj q; rcases (by omega : i = 0 ∨ i = 1 ∨ i = 2) with rfl | rfl | rfl <;> rcases (by omega : j = 0 ∨ j = 1 ∨ j = 2) with rfl | rfl | rfl <;> first | rfl | exact absurd q (by decide) | (exact absurd hi (by decide)) | (exact absurd hj (by decide))) (fun _ => min3 (f := fun t => [x0, x1, x2].getD ((fun i => [0, 1, 2].getD i 0) 0) 0 ≤ [x0, x1, x2].getD t 0) (by decide) (fun _ _ => show x0 ≤ x0 from le64 (by omega)) (fun _ _ => show x0 ≤ x1 from le64 (by omega)) (fun _ r => absurd rfl r))
  refine s_iloadN W0 at_5 rfl (pc' := 6) rfl ?_
  refine s_iconst W0 at_6 (v := (2 : Int32)) (by decide) (pc' := 7) rfl ?_
  refine s_iushr W0 at_7 (pc' := 8) rfl ?_
  refine s_iconst W0 at_8 (v := (1 : Int32)) (by decide) (pc' := 9) rfl ?_
  refine s_iand W0 at_9 (pc' := 10) rfl ?_
  refine s_ifeq W0 at_10 (by decide) (pc1 := 22) (by decide) (pc2 := 13) rfl ?_ ?_
  · intro q10
    refine s_iconst W0 at_22 (v := (0 : Int32)) (by decide) (pc' := 23) rfl ?_
    exact tailA (0 : Int32) (Or.inl rfl)
  · intro q10
    refine s_iload W0 at_13 rfl (pc' := 15) rfl ?_
    refine s_ifle W0 at_15 (by decide) (pc1 := 22) (by decide) (pc2 := 18) rfl ?_ ?_
    · intro q15
      refine s_iconst W0 at_22 (v := (0 : Int32)) (by decide) (pc' := 23) rfl ?_
      exact tailA (0 : Int32) (Or.inl rfl)
    · intro q15
      refine s_iconst W0 at_18 (v := (1 : Int32)) (by decide) (pc' := 19) rfl ?_
      refine s_goto W0 at_19 (by decide) (pc' := 23) (by decide) ?_
      exact tailA (1 : Int32) (Or.inr ⟨rfl, by have := Int32.lt_iff_toInt_lt.mp q15; rw [zero32, tn] at this; omega⟩)
set_option maxRecDepth 65536 in
set_option maxHeartbeats 40000000 in
theorem comes_1 {Post : Tables → Env → Array Value → State → Outcome → State → Prop} (hpost : ∀ tb e args s v u, (limb_1_1.after args s (.returned v) u = true ∧ limb_1_2.after args s (.returned v) u = true ∧ True) → Jvm.D.Framed s (.returned v) u (Jvm.fieldLocs frame_1_writes args s ++ Jvm.arrayLocs frame_1_arrays args s ++ Jvm.staticLocs frame_1_statics s) 48 256 → Post tb e args s (.returned v) u) :
    ArmFor flags0 classFile x code maxLocals ret World_1 tables_1 room_1 Calls_1 rest_1 Pre_1 Post := by
  intro l hfl _ _ p e ha hc hk s m args below hf hA hF happ hP
  obtain ⟨hcalls, hrest, hpre⟩ := hP
  obtain ⟨-, -, -, hnamed, -, -, -, hat⟩ := (Spec.applies_iff hf).mp happ
  obtain ⟨hg, hn⟩ := and_e (Cond.before_iff.mp (show (Jvm.Cond.and given_1 narrow_1).before args s = true from hpre))
  obtain ⟨h1, g0⟩ := and_e hg
  obtain ⟨a0, g1⟩ := and_e g0
  obtain ⟨a1, g2⟩ := and_e g1
  obtain ⟨a2, g3⟩ := and_e g2
  obtain ⟨a3, g4⟩ := and_e g3
  have a4 := g4
  obtain ⟨u0, u1, u2, u3, u4, rfl⟩ : ∃ u0 u1 u2 u3 u4 : Value, args = #[u0, u1, u2, u3, u4] := by
    have hs : args.size = 5 := by simpa [Cond.value, given_1] using h1
    obtain ⟨L⟩ := args
    match L, hs with
    | [u0, u1, u2, u3, u4], _ => exact ⟨u0, u1, u2, u3, u4, rfl⟩
  have hw := fun d (hd : d ∈ tables_1) => atoms_spec (ws := Jvm.Cond.code x code maxLocals ret :: tables_1) hat d (List.mem_cons_of_mem _ hd)
  obtain ⟨hsets, hown0⟩ := atoms_of _ (rest_1_c_eq ▸ (show rest_1_c.before _ s = true from hrest))
  have hfit : Fit s := fun {y c} hc i hi => by
    obtain ⟨ha, rfl⟩ := Array.getElem?_eq_some_iff.mp hc
    have q := List.all_eq_true.mp ((Array.all_eq_true_iff_forall_mem.mp hF) _ (Array.getElem_mem ha)) i (List.mem_range.mpr hi)
    simpa [Array.getElem?_eq_getElem hi] using q
  obtain ⟨cn, e_cn⟩ := is_v a0
  obtain rfl : u0 = (.int cn) := Option.some.inj e_cn
  obtain ⟨x0, e_x0⟩ := isL_v a1
  obtain rfl : u1 = (.long x0) := Option.some.inj e_x0
  obtain ⟨x1, e_x1⟩ := isL_v a2
  obtain rfl : u2 = (.long x1) := Option.some.inj e_x1
  obtain ⟨x2, e_x2⟩ := isL_v a3
  obtain rfl : u3 = (.long x2) := Option.some.inj e_x2
  obtain ⟨rm, e_rm⟩ := is_v a4
  obtain rfl : u4 = (.int rm) := Option.some.inj e_rm
  have ncs := not_v (Cond.before_iff.mp (hsets _ (List.mem_of_getElem? (i := 2) rfl)))
  obtain ⟨ccs, ecs⟩ := is_v (Cond.before_iff.mp (hsets _ (List.mem_of_getElem? (i := 1) rfl)))
  have SCS : Sta s s.heap "java/lang/String" "COMPACT_STRINGS" "Z" (.int ccs) := Sta.start ecs (Or.inl (hsets _ (List.mem_of_getElem? (i := 0) rfl)))
  have hccs : ¬ (ccs = (0 : Int32)) := gotF (Cond.eq_ints ecs (Term.int_eval (0))) ncs
  have hEL : EW s #[(.int cn), (.long x0), (.long x1), (.long x2), (.int rm)] EL0 := EW.nil
  have hCH : CHv s EL0 s.vm s.heap := fun p hp => by cases hp
  obtain ⟨n, o, h1, h2, h3, v, L, rfl, hQ, N, hC, hwd, hOl, hq⟩ := ct_law (l := l) (n0 := s.heap.size) hw hEL tables_1 cn x0 x1 x2 rm ccs s.heap SCS hccs p e ha hc hk s m _ below hf ((Spec.applies_iff_loose hf).mp happ).1 ⟨rfl, State.Warmed39.refl s, rfl, hCH, Old.start s, fun x hx => by cases hx⟩ (fun q => by cases q)
  obtain rfl : v = some (.int 1) := hQ
  refine ⟨n, _, h1, h2, h3, hpost _ _ _ _ _ _ ⟨Cond.after_iff.mpr rfl, Cond.after_iff.mpr (eq_i res_at (Term.int_eval (1)) rfl), trivial⟩ ⟨hq.1, hwd rfl, (hq.2.2.2.sift fun y hy => Or.inr (N y hy)).mono (by decide) (by decide)⟩⟩
theorem main_1_1 : Claimed_1_1 := comes_1 fun _ _ _ _ _ _ h hF => ⟨h.1, hF⟩
theorem main_1_2 : Claimed_1_2 := comes_1 fun _ _ _ _ _ _ h hF => ⟨h.2.1, hF⟩
end Jvm.Pilot.@@N@@
namespace Jvm.Pilot.@@N@@
open Jvm Jvm.ClassFile Sem Op Lib Jvm.Free Jvm.Stand Jvm.Pilot.@@N@@.Jvm.D
/-! MADE BY PROGRAM (witnessworld.py) out of the Statement's table words and the real class files: 26 classes; the members and pool entries that the words name. The judged class is class 1, her method 1. -/
namespace start1
open Jvm.ClassFile
def u (s : String) : CpInfo := .utf8 (stringToUtf16 s)
/-- a pool by its gaps: so many unusable entries, then the entry; so many at the end -/
def gap : Nat → List CpInfo → List CpInfo
  | 0, r => r
  | n + 1, r => .unusable :: gap n r
def poolList (es : List (Nat × CpInfo)) (last : Nat) : List CpInfo := es.foldr (fun e r => gap e.1 (e.2 :: r)) (gap last [])
def pool (es : List (Nat × CpInfo)) (last : Nat) : Array CpInfo := ⟨poolList es last⟩
def fileOf (pool : Array CpInfo) (this : Nat) (attrs : Array Attribute := #[]) (ms : Array MethodInfo := #[]) (fl : Nat := 33) (sup : Nat := 0) (ifs : Array Nat := #[]) (fds : Array FieldInfo := #[]) : ClassFile where
  minorVersion := 0
  majorVersion := 65
  constantPool := pool
  accessFlags := fl
  thisClass := this
  superClass := sup
  interfaces := ifs
  fields := fds
  methods := ms
  attributes := attrs
def plain (name : String) (sup : Option ClassId) : Class where
  name := name
  kind := .ordinary
  loader := none
  accessFlags := 33
  super := sup
  interfaces := #[]
  cf := none
  fields := #[]
  methods := #[]
  instanceTypes := #[]
  staticTypes := #[]
  resolved := #[]
  callSites := []
  init := .initialized
  statics := none
  mirror := none

def pool0 : Array CpInfo := pool [(5, u "<init>"), (0, u "()V"), (1, .class_ 10), (1, u "java/lang/Object")] 113

def k0c0 : Code := { maxStack := 0, maxLocals := 1, code := object_method_1_code, exceptionTable := #[], attributes := #[] }
def k0m0 : Method := { name := "<init>", desc := "()V", sig := { parameters := [], returnType := none }, accessFlags := 1, code := some k0c0 }
/-- java/lang/Object -/
def k0 : Class := { plain "java/lang/Object" none with
  accessFlags := 33
  interfaces := #[]
  cf := some (fileOf pool0 8 #[] #[{ accessFlags := 1, nameIndex := 5, descriptorIndex := 6, attributes := #[] }] 33 0 #[] #[])
  fields := #[]
  methods := #[k0m0]
  instanceTypes := #[]
  staticTypes := #[]
  resolved := Array.replicate 124 none
  statics := none }

def pool1 : Array CpInfo := pool [(2, .class_ 4), (0, .nameAndType 5 6), (0, u "java/lang/Object"), (0, u "<init>"), (0, u "()V"), (0, .class_ 8), (0, u "java/lang/String"), (0, .methodref 7 10), (0, .nameAndType 5 11), (0, u "([C)V"), (0, .class_ 13), (0, u "com/example/ripen/ripen/DeadlineHeap"), (0, .methodref 12 3), (0, .methodref 12 16), (0, .nameAndType 17 18), (0, u "insert"), (0, u "(Ljava/lang/Object;J)Z"), (0, .integer 2147483647), (0, .methodref 12 21), (0, .nameAndType 22 23), (0, u "removeAt"), (0, u "(I)Ljava/lang/Object;"), (0, .methodref 25 26), (0, .class_ 27), (0, .nameAndType 28 29), (0, u "com/example/ripen/ripen/DeadlineHeapToArrayPinLaw"), (0, u "find"), (0, u "(Ljava/lang/Object;[Ljava/lang/Object;I)I"), (0, .methodref 12 31), (0, .nameAndType 32 33), (0, u "toArray"), (0, u "()[Ljava/lang/Object;"), (0, .methodref 25 35), (0, .nameAndType 36 37), (0, u "slotOk"), (0, u "(Lcom/example/ripen/ripen/DeadlineHeap;[Ljava/lang/Object;II[Ljava/lang/Object;II)Z"), (0, .methodref 25 39), (0, .nameAndType 40 41), (0, u "minOk"), (0, u "([JIIII)Z"), (0, .methodref 12 43), (0, .nameAndType 44 23), (0, u "elementAt"), (2, u "law"), (0, u "(IJJJI)Z")] 9

def k1m0 : Method := { name := "<init>", desc := "()V", sig := { parameters := [], returnType := none }, accessFlags := 1, code := none }
def k1c1 : Code := { maxStack := 8, maxLocals := 17, code := code, exceptionTable := #[], attributes := #[] }
def k1m1 : Method := { name := "law", desc := "(IJJJI)Z", sig := { parameters := [.int, .long, .long, .long, .int], returnType := some .boolean }, accessFlags := 9, code := some k1c1 }
def k1c2 : Code := { maxStack := 3, maxLocals := 9, code := method_3_code, exceptionTable := #[], attributes := #[] }
def k1m2 : Method := { name := "slotOk", desc := "(Lcom/example/ripen/ripen/DeadlineHeap;[Ljava/lang/Object;II[Ljava/lang/Object;II)Z", sig := { parameters := [(.object "com/example/ripen/ripen/DeadlineHeap"), (.array (.object "java/lang/Object")), .int, .int, (.array (.object "java/lang/Object")), .int, .int], returnType := some .boolean }, accessFlags := 10, code := some k1c2 }
def k1c3 : Code := { maxStack := 4, maxLocals := 5, code := method_4_code, exceptionTable := #[], attributes := #[] }
def k1m3 : Method := { name := "minOk", desc := "([JIIII)Z", sig := { parameters := [(.array .long), .int, .int, .int, .int], returnType := some .boolean }, accessFlags := 10, code := some k1c3 }
def k1c4 : Code := { maxStack := 2, maxLocals := 3, code := method_5_code, exceptionTable := #[], attributes := #[] }
def k1m4 : Method := { name := "find", desc := "(Ljava/lang/Object;[Ljava/lang/Object;I)I", sig := { parameters := [(.object "java/lang/Object"), (.array (.object "java/lang/Object")), .int], returnType := some .int }, accessFlags := 10, code := some k1c4 }
/-- com/example/ripen/ripen/DeadlineHeapToArrayPinLaw -/
def k1 : Class := { plain "com/example/ripen/ripen/DeadlineHeapToArrayPinLaw" (some 0) with
  accessFlags := 49
  interfaces := #[]
  cf := some (fileOf pool1 25 #[] #[{ accessFlags := 1, nameIndex := 5, descriptorIndex := 6, attributes := #[] }, { accessFlags := 9, nameIndex := 47, descriptorIndex := 48, attributes := #[] }, { accessFlags := 10, nameIndex := 36, descriptorIndex := 37, attributes := #[] }, { accessFlags := 10, nameIndex := 40, descriptorIndex := 41, attributes := #[] }, { accessFlags := 10, nameIndex := 28, descriptorIndex := 29, attributes := #[] }] 49 2 #[] #[])
  fields := #[]
  methods := #[k1m0, k1m1, k1m2, k1m3, k1m4]
  instanceTypes := #[]
  staticTypes := #[]
  resolved := Array.replicate 58 none
  statics := none }

def pool2 : Array CpInfo := pool [(1, .class_ 2), (0, u "java/io/Serializable"), (0, .class_ 4), (0, u "java/lang/Object")] 2

/-- java/io/Serializable -/
def k2 : Class := { plain "java/io/Serializable" (some 0) with
  accessFlags := 1537
  interfaces := #[]
  cf := some (fileOf pool2 1 #[] #[] 1537 3 #[] #[])
  fields := #[]
  methods := #[]
  instanceTypes := #[]
  staticTypes := #[]
  resolved := Array.replicate 7 none
  statics := none }

def pool3 : Array CpInfo := pool [(1, .class_ 2), (0, u "java/lang/Comparable"), (0, .class_ 4), (0, u "java/lang/Object")] 7

/-- java/lang/Comparable -/
def k3 : Class := { plain "java/lang/Comparable" (some 0) with
  accessFlags := 1537
  interfaces := #[]
  cf := some (fileOf pool3 1 #[] #[] 1537 3 #[] #[])
  fields := #[]
  methods := #[]
  instanceTypes := #[]
  staticTypes := #[]
  resolved := Array.replicate 12 none
  statics := none }

def pool4 : Array CpInfo := pool [(2, .class_ 4), (1, u "java/lang/CharSequence"), (42, .class_ 48), (0, u "java/lang/CharSequence$1CodePointIterator"), (10, .class_ 60), (0, u "java/lang/CharSequence$1CharIterator"), (5, .class_ 67), (0, u "java/lang/Object")] 63

/-- java/lang/CharSequence -/
def k4 : Class := { plain "java/lang/CharSequence" (some 0) with
  accessFlags := 1537
  interfaces := #[]
  cf := some (fileOf pool4 2 #[.nestMembers #[47, 59]] #[] 1537 66 #[] #[])
  fields := #[]
  methods := #[]
  instanceTypes := #[]
  staticTypes := #[]
  resolved := Array.replicate 131 none
  statics := none }

def pool5 : Array CpInfo := pool [(1, .class_ 2), (0, u "java/lang/constant/Constable"), (0, .class_ 4), (0, u "java/lang/Object")] 6

/-- java/lang/constant/Constable -/
def k5 : Class := { plain "java/lang/constant/Constable" (some 0) with
  accessFlags := 1537
  interfaces := #[]
  cf := some (fileOf pool5 1 #[] #[] 1537 3 #[] #[])
  fields := #[]
  methods := #[]
  instanceTypes := #[]
  staticTypes := #[]
  resolved := Array.replicate 11 none
  statics := none }

def pool6 : Array CpInfo := pool [(1, .class_ 2), (0, u "java/lang/constant/ConstantDesc"), (0, .class_ 4), (0, u "java/lang/Object")] 32

/-- java/lang/constant/ConstantDesc -/
def k6 : Class := { plain "java/lang/constant/ConstantDesc" (some 0) with
  accessFlags := 1537
  interfaces := #[]
  cf := some (fileOf pool6 1 #[] #[] 1537 3 #[] #[])
  fields := #[]
  methods := #[]
  instanceTypes := #[]
  staticTypes := #[]
  resolved := Array.replicate 37 none
  statics := none }

def pool7 : Array CpInfo := pool [(1, .methodref 2 3), (0, .class_ 4), (0, .nameAndType 5 6), (0, u "java/lang/Object"), (0, u "<init>"), (0, u "()V"), (2, .fieldref 10 11), (0, .class_ 12), (0, .nameAndType 13 14), (0, u "java/lang/String"), (0, u "value"), (0, u "[B"), (0, .fieldref 10 16), (0, .nameAndType 17 18), (0, u "coder"), (0, u "B"), (2, u "hash"), (0, u "I"), (2, u "hashIsZero"), (0, u "Z"), (0, .methodref 10 28), (0, .nameAndType 5 29), (0, u "([CIILjava/lang/Void;)V"), (8, .fieldref 10 39), (0, .nameAndType 40 26), (0, u "COMPACT_STRINGS"), (1, .class_ 44), (1, u "java/lang/StringUTF16"), (0, u "compress"), (1, .methodref 42 48), (0, .nameAndType 49 50), (0, u "coderFromArrayLen"), (0, u "([BI)B"), (126, .methodref 42 178), (0, .nameAndType 45 179), (0, u "([CII)[B"), (395, .class_ 576), (0, u "java/lang/CharSequence"), (22, u "CASE_INSENSITIVE_ORDER"), (0, u "Ljava/util/Comparator;"), (409, u "([C)V"), (90, u "serialPersistentFields"), (0, u "[Ljava/io/ObjectStreamField;"), (0, .class_ 1104), (0, u "java/lang/String$CaseInsensitiveComparator"), (1, .class_ 1107), (0, u "java/io/Serializable"), (0, .class_ 1109), (0, u "java/lang/Comparable"), (0, .class_ 1111), (0, u "java/lang/constant/Constable"), (0, .class_ 1113), (0, u "java/lang/constant/ConstantDesc"), (2, u "serialVersionUID"), (0, u "J"), (3, u "REPL"), (0, u "C"), (2, u "LATIN1"), (1, u "UTF16")] 323

def k7m0 : Method := { name := "<init>", desc := "()V", sig := { parameters := [], returnType := none }, accessFlags := 1, code := none }
def k7c1 : Code := { maxStack := 5, maxLocals := 2, code := jdk_42_method_3_code, exceptionTable := #[], attributes := #[] }
def k7m1 : Method := { name := "<init>", desc := "([C)V", sig := { parameters := [(.array .char)], returnType := none }, accessFlags := 1, code := some k7c1 }
def k7c2 : Code := { maxStack := 4, maxLocals := 6, code := jdk_42_method_149_code, exceptionTable := #[], attributes := #[] }
def k7m2 : Method := { name := "<init>", desc := "([CIILjava/lang/Void;)V", sig := { parameters := [(.array .char), .int, .int, (.object "java/lang/Void")], returnType := none }, accessFlags := 2, code := some k7c2 }
/-- java/lang/String -/
def k7 : Class := { plain "java/lang/String" (some 0) with
  accessFlags := 49
  interfaces := #[2, 3, 4, 5, 6]
  cf := some (fileOf pool7 10 #[.nestMembers #[1103]] #[{ accessFlags := 1, nameIndex := 5, descriptorIndex := 6, attributes := #[] }, { accessFlags := 1, nameIndex := 5, descriptorIndex := 1010, attributes := #[] }, { accessFlags := 2, nameIndex := 5, descriptorIndex := 29, attributes := #[] }] 49 2 #[1106, 1108, 575, 1110, 1112] #[{ accessFlags := 18, nameIndex := 13, descriptorIndex := 14, attributes := #[] }, { accessFlags := 18, nameIndex := 17, descriptorIndex := 18, attributes := #[] }, { accessFlags := 2, nameIndex := 21, descriptorIndex := 22, attributes := #[] }, { accessFlags := 2, nameIndex := 25, descriptorIndex := 26, attributes := #[] }, { accessFlags := 26, nameIndex := 1116, descriptorIndex := 1117, attributes := #[] }, { accessFlags := 24, nameIndex := 40, descriptorIndex := 26, attributes := #[] }, { accessFlags := 26, nameIndex := 1101, descriptorIndex := 1102, attributes := #[] }, { accessFlags := 26, nameIndex := 1121, descriptorIndex := 1122, attributes := #[] }, { accessFlags := 25, nameIndex := 599, descriptorIndex := 600, attributes := #[] }, { accessFlags := 24, nameIndex := 1125, descriptorIndex := 18, attributes := #[] }, { accessFlags := 24, nameIndex := 1127, descriptorIndex := 18, attributes := #[] }])
  fields := #[{ name := "value", type := (.array .byte), accessFlags := 18, slot := 0, constantValue := 0 }, { name := "coder", type := .byte, accessFlags := 18, slot := 1, constantValue := 0 }, { name := "hash", type := .int, accessFlags := 2, slot := 2, constantValue := 0 }, { name := "hashIsZero", type := .boolean, accessFlags := 2, slot := 3, constantValue := 0 }, { name := "serialVersionUID", type := .long, accessFlags := 26, slot := 0, constantValue := 0 }, { name := "COMPACT_STRINGS", type := .boolean, accessFlags := 24, slot := 1, constantValue := 0 }, { name := "serialPersistentFields", type := (.array (.object "java/io/ObjectStreamField")), accessFlags := 26, slot := 2, constantValue := 0 }, { name := "REPL", type := .char, accessFlags := 26, slot := 3, constantValue := 0 }, { name := "CASE_INSENSITIVE_ORDER", type := (.object "java/util/Comparator"), accessFlags := 25, slot := 4, constantValue := 0 }, { name := "LATIN1", type := .byte, accessFlags := 24, slot := 5, constantValue := 0 }, { name := "UTF16", type := .byte, accessFlags := 24, slot := 6, constantValue := 0 }]
  methods := #[k7m0, k7m1, k7m2]
  instanceTypes := #[(.array .byte), .byte, .int, .boolean]
  staticTypes := #[.long, .boolean, (.array (.object "java/io/ObjectStreamField")), .char, (.object "java/util/Comparator"), .byte, .byte]
  resolved := Array.replicate 1451 none
  statics := some 0 }

def pool8 : Array CpInfo := pool [(6, .class_ 8), (1, u "java/lang/Object"), (0, u "<init>"), (0, u "()V"), (1, .class_ 14), (1, u "java/lang/StringUTF16"), (31, u "$assertionsDisabled"), (0, u "Z"), (13, u "HI_BYTE_SHIFT"), (0, u "I"), (2, u "LO_BYTE_SHIFT"), (49, .methodref 12 116), (0, .nameAndType 117 118), (0, u "compress"), (0, u "([CI[BII)I"), (3, u "([CII)[B"), (138, u "coderFromArrayLen"), (0, u "([BI)B"), (106, .class_ 371), (1, u "java/lang/StringUTF16$LinesSpliterator"), (58, u "MAX_LENGTH"), (196, .class_ 628), (0, u "java/lang/StringUTF16$CodePointsSpliterator"), (0, .class_ 630), (0, u "java/lang/StringUTF16$CharsSpliterator")] 4

def k8m0 : Method := { name := "<init>", desc := "()V", sig := { parameters := [], returnType := none }, accessFlags := 0, code := none }
def k8c1 : Code := { maxStack := 2, maxLocals := 2, code := jdk_52_method_15_code, exceptionTable := #[], attributes := #[] }
def k8m1 : Method := { name := "coderFromArrayLen", desc := "([BI)B", sig := { parameters := [(.array .byte), .int], returnType := some .byte }, accessFlags := 8, code := some k8c1 }
def k8c2 : Code := { maxStack := 5, maxLocals := 6, code := jdk_52_method_16_code, exceptionTable := #[], attributes := #[] }
def k8m2 : Method := { name := "compress", desc := "([CII)[B", sig := { parameters := [(.array .char), .int, .int], returnType := some (.array .byte) }, accessFlags := 9, code := some k8c2 }
def k8c3 : Code := { maxStack := 3, maxLocals := 7, code := jdk_52_method_21_code, exceptionTable := #[], attributes := #[] }
def k8m3 : Method := { name := "compress", desc := "([CI[BII)I", sig := { parameters := [(.array .char), .int, (.array .byte), .int, .int], returnType := some .int }, accessFlags := 9, code := some k8c3 }
/-- java/lang/StringUTF16 -/
def k8 : Class := { plain "java/lang/StringUTF16" (some 0) with
  accessFlags := 48
  interfaces := #[]
  cf := some (fileOf pool8 12 #[.nestMembers #[627, 629, 369]] #[{ accessFlags := 0, nameIndex := 9, descriptorIndex := 10, attributes := #[] }, { accessFlags := 8, nameIndex := 261, descriptorIndex := 262, attributes := #[] }, { accessFlags := 9, nameIndex := 117, descriptorIndex := 122, attributes := #[] }, { accessFlags := 9, nameIndex := 117, descriptorIndex := 118, attributes := #[] }] 48 6 #[] #[{ accessFlags := 26, nameIndex := 61, descriptorIndex := 62, attributes := #[] }, { accessFlags := 26, nameIndex := 65, descriptorIndex := 62, attributes := #[] }, { accessFlags := 24, nameIndex := 430, descriptorIndex := 62, attributes := #[] }, { accessFlags := 4120, nameIndex := 46, descriptorIndex := 47, attributes := #[] }])
  fields := #[{ name := "HI_BYTE_SHIFT", type := .int, accessFlags := 26, slot := 0, constantValue := 0 }, { name := "LO_BYTE_SHIFT", type := .int, accessFlags := 26, slot := 1, constantValue := 0 }, { name := "MAX_LENGTH", type := .int, accessFlags := 24, slot := 2, constantValue := 0 }, { name := "$assertionsDisabled", type := .boolean, accessFlags := 4120, slot := 3, constantValue := 0 }]
  methods := #[k8m0, k8m1, k8m2, k8m3]
  instanceTypes := #[]
  staticTypes := #[.int, .int, .int, .boolean]
  resolved := Array.replicate 635 none
  statics := none }

def pool9 : Array CpInfo := pool [(3, .methodref 4 5), (0, .class_ 6), (0, .nameAndType 7 8), (0, u "com/example/ripen/ripen/DeadlineHeap"), (0, u "<init>"), (0, u "(ZLcom/example/ripen/ripen/DeadlineHeap$SlotTracker;)V"), (0, .methodref 10 11), (0, .class_ 12), (0, .nameAndType 7 13), (0, u "java/lang/Object"), (0, u "()V"), (0, .fieldref 4 15), (0, .nameAndType 16 17), (0, u "deadlines"), (0, u "[J"), (0, .methodref 4 19), (0, .nameAndType 20 21), (0, u "withFreeHandles"), (0, u "([II)[I"), (0, .fieldref 4 23), (0, .nameAndType 24 25), (0, u "handles"), (0, u "[I"), (0, .fieldref 4 27), (0, .nameAndType 28 29), (0, u "elements"), (0, u "[Ljava/lang/Object;"), (0, .fieldref 4 31), (0, .nameAndType 32 33), (0, u "tracker"), (0, u "Lcom/example/ripen/ripen/DeadlineHeap$SlotTracker;"), (0, .fieldref 4 35), (0, .nameAndType 36 17), (0, u "sequences"), (0, .fieldref 4 38), (0, .nameAndType 39 40), (0, u "size"), (0, u "I"), (0, .methodref 4 42), (0, .nameAndType 43 44), (0, u "elementAt"), (0, u "(I)Ljava/lang/Object;"), (7, .fieldref 4 53), (0, .nameAndType 54 55), (0, u "nextSequence"), (0, u "J"), (0, .methodref 4 57), (0, .nameAndType 58 59), (0, u "siftUp"), (0, u "(IJJ)I"), (0, .methodref 4 61), (0, .nameAndType 62 63), (0, u "place"), (0, u "(IJJI)V"), (0, .methodref 4 65), (0, .nameAndType 66 67), (0, u "sequenceAt"), (0, u "(I)J"), (0, .methodref 4 69), (0, .nameAndType 70 59), (0, u "siftDown"), (0, .methodref 4 72), (0, .nameAndType 73 74), (0, u "reportLeft"), (0, u "(Ljava/lang/Object;)V"), (4, u "(I)V"), (20, .methodref 4 101), (0, .nameAndType 102 103), (0, u "moveTo"), (0, u "(II)V"), (11, u "toArray"), (0, u "()[Ljava/lang/Object;"), (5, .class_ 124), (1, u "java/util/Arrays"), (0, u "copyOf"), (1, .methodref 4 128), (0, .nameAndType 129 130), (0, u "before"), (0, u "(JJJJ)Z"), (3, .methodref 4 135), (0, .nameAndType 136 79), (0, u "reportPlaced"), (1, .class_ 140), (1, u "com/example/ripen/ripen/DeadlineHeap$SlotTracker"), (17, .methodref 122 159), (0, .nameAndType 125 21), (0, u "NO_SLOT"), (2, u "INITIAL_CAPACITY"), (1, u "MAX_CAPACITY"), (13, u "insert"), (0, u "(Ljava/lang/Object;J)Z"), (1, u "removeAt")] 15

def k9c0 : Code := { maxStack := 3, maxLocals := 1, code := prog_1_method_1_code, exceptionTable := #[], attributes := #[] }
def k9m0 : Method := { name := "<init>", desc := "()V", sig := { parameters := [], returnType := none }, accessFlags := 0, code := some k9c0 }
def k9c1 : Code := { maxStack := 3, maxLocals := 3, code := prog_1_method_2_code, exceptionTable := #[], attributes := #[] }
def k9m1 : Method := { name := "<init>", desc := "(ZLcom/example/ripen/ripen/DeadlineHeap$SlotTracker;)V", sig := { parameters := [.boolean, (.object "com/example/ripen/ripen/DeadlineHeap$SlotTracker")], returnType := none }, accessFlags := 0, code := some k9c1 }
def k9c2 : Code := { maxStack := 3, maxLocals := 2, code := prog_1_method_6_code, exceptionTable := #[], attributes := #[] }
def k9m2 : Method := { name := "elementAt", desc := "(I)Ljava/lang/Object;", sig := { parameters := [.int], returnType := some (.object "java/lang/Object") }, accessFlags := 0, code := some k9c2 }
def k9c3 : Code := { maxStack := 7, maxLocals := 8, code := prog_1_method_8_code, exceptionTable := #[], attributes := #[] }
def k9m3 : Method := { name := "insert", desc := "(Ljava/lang/Object;J)Z", sig := { parameters := [(.object "java/lang/Object"), .long], returnType := some .boolean }, accessFlags := 0, code := some k9c3 }
def k9c4 : Code := { maxStack := 7, maxLocals := 11, code := prog_1_method_9_code, exceptionTable := #[], attributes := #[] }
def k9m4 : Method := { name := "removeAt", desc := "(I)Ljava/lang/Object;", sig := { parameters := [.int], returnType := some (.object "java/lang/Object") }, accessFlags := 0, code := some k9c4 }
def k9c5 : Code := { maxStack := 4, maxLocals := 3, code := prog_1_method_12_code, exceptionTable := #[], attributes := #[] }
def k9m5 : Method := { name := "toArray", desc := "()[Ljava/lang/Object;", sig := { parameters := [], returnType := some (.array (.object "java/lang/Object")) }, accessFlags := 0, code := some k9c5 }
def k9c6 : Code := { maxStack := 8, maxLocals := 7, code := prog_1_method_14_code, exceptionTable := #[], attributes := #[] }
def k9m6 : Method := { name := "siftUp", desc := "(IJJ)I", sig := { parameters := [.int, .long, .long], returnType := some .int }, accessFlags := 2, code := some k9c6 }
def k9c7 : Code := { maxStack := 8, maxLocals := 9, code := prog_1_method_15_code, exceptionTable := #[], attributes := #[] }
def k9m7 : Method := { name := "siftDown", desc := "(IJJ)I", sig := { parameters := [.int, .long, .long], returnType := some .int }, accessFlags := 2, code := some k9c7 }
def k9c8 : Code := { maxStack := 4, maxLocals := 8, code := prog_1_method_16_code, exceptionTable := #[], attributes := #[] }
def k9m8 : Method := { name := "before", desc := "(JJJJ)Z", sig := { parameters := [.long, .long, .long, .long], returnType := some .boolean }, accessFlags := 10, code := some k9c8 }
def k9c9 : Code := { maxStack := 2, maxLocals := 2, code := prog_1_method_19_code, exceptionTable := #[], attributes := #[] }
def k9m9 : Method := { name := "sequenceAt", desc := "(I)J", sig := { parameters := [.int], returnType := some .long }, accessFlags := 2, code := some k9c9 }
def k9c10 : Code := { maxStack := 4, maxLocals := 7, code := prog_1_method_20_code, exceptionTable := #[], attributes := #[] }
def k9m10 : Method := { name := "place", desc := "(IJJI)V", sig := { parameters := [.int, .long, .long, .int], returnType := none }, accessFlags := 2, code := some k9c10 }
def k9c11 : Code := { maxStack := 8, maxLocals := 3, code := prog_1_method_21_code, exceptionTable := #[], attributes := #[] }
def k9m11 : Method := { name := "moveTo", desc := "(II)V", sig := { parameters := [.int, .int], returnType := none }, accessFlags := 2, code := some k9c11 }
def k9c12 : Code := { maxStack := 3, maxLocals := 2, code := prog_1_method_22_code, exceptionTable := #[], attributes := #[] }
def k9m12 : Method := { name := "reportPlaced", desc := "(I)V", sig := { parameters := [.int], returnType := none }, accessFlags := 2, code := some k9c12 }
def k9c13 : Code := { maxStack := 3, maxLocals := 2, code := prog_1_method_23_code, exceptionTable := #[], attributes := #[] }
def k9m13 : Method := { name := "reportLeft", desc := "(Ljava/lang/Object;)V", sig := { parameters := [(.object "java/lang/Object")], returnType := none }, accessFlags := 2, code := some k9c13 }
def k9c14 : Code := { maxStack := 3, maxLocals := 4, code := prog_1_method_25_code, exceptionTable := #[], attributes := #[] }
def k9m14 : Method := { name := "withFreeHandles", desc := "([II)[I", sig := { parameters := [(.array .int), .int], returnType := some (.array .int) }, accessFlags := 10, code := some k9c14 }
/-- com/example/ripen/ripen/DeadlineHeap -/
def k9 : Class := { plain "com/example/ripen/ripen/DeadlineHeap" (some 0) with
  accessFlags := 48
  interfaces := #[]
  cf := some (fileOf pool9 4 #[.nestMembers #[138]] #[{ accessFlags := 0, nameIndex := 7, descriptorIndex := 13, attributes := #[] }, { accessFlags := 0, nameIndex := 7, descriptorIndex := 8, attributes := #[] }, { accessFlags := 0, nameIndex := 43, descriptorIndex := 44, attributes := #[] }, { accessFlags := 0, nameIndex := 179, descriptorIndex := 180, attributes := #[] }, { accessFlags := 0, nameIndex := 182, descriptorIndex := 44, attributes := #[] }, { accessFlags := 0, nameIndex := 115, descriptorIndex := 116, attributes := #[] }, { accessFlags := 2, nameIndex := 58, descriptorIndex := 59, attributes := #[] }, { accessFlags := 2, nameIndex := 70, descriptorIndex := 59, attributes := #[] }, { accessFlags := 10, nameIndex := 129, descriptorIndex := 130, attributes := #[] }, { accessFlags := 2, nameIndex := 66, descriptorIndex := 67, attributes := #[] }, { accessFlags := 2, nameIndex := 62, descriptorIndex := 63, attributes := #[] }, { accessFlags := 2, nameIndex := 102, descriptorIndex := 103, attributes := #[] }, { accessFlags := 2, nameIndex := 136, descriptorIndex := 79, attributes := #[] }, { accessFlags := 2, nameIndex := 73, descriptorIndex := 74, attributes := #[] }, { accessFlags := 10, nameIndex := 20, descriptorIndex := 21, attributes := #[] }] 48 10 #[] #[{ accessFlags := 24, nameIndex := 160, descriptorIndex := 40, attributes := #[] }, { accessFlags := 26, nameIndex := 163, descriptorIndex := 40, attributes := #[] }, { accessFlags := 26, nameIndex := 165, descriptorIndex := 40, attributes := #[] }, { accessFlags := 18, nameIndex := 32, descriptorIndex := 33, attributes := #[] }, { accessFlags := 2, nameIndex := 16, descriptorIndex := 17, attributes := #[] }, { accessFlags := 2, nameIndex := 24, descriptorIndex := 25, attributes := #[] }, { accessFlags := 2, nameIndex := 28, descriptorIndex := 29, attributes := #[] }, { accessFlags := 2, nameIndex := 36, descriptorIndex := 17, attributes := #[] }, { accessFlags := 2, nameIndex := 54, descriptorIndex := 55, attributes := #[] }, { accessFlags := 2, nameIndex := 39, descriptorIndex := 40, attributes := #[] }])
  fields := #[{ name := "NO_SLOT", type := .int, accessFlags := 24, slot := 0, constantValue := 0 }, { name := "INITIAL_CAPACITY", type := .int, accessFlags := 26, slot := 1, constantValue := 0 }, { name := "MAX_CAPACITY", type := .int, accessFlags := 26, slot := 2, constantValue := 0 }, { name := "tracker", type := (.object "com/example/ripen/ripen/DeadlineHeap$SlotTracker"), accessFlags := 18, slot := 0, constantValue := 0 }, { name := "deadlines", type := (.array .long), accessFlags := 2, slot := 1, constantValue := 0 }, { name := "handles", type := (.array .int), accessFlags := 2, slot := 2, constantValue := 0 }, { name := "elements", type := (.array (.object "java/lang/Object")), accessFlags := 2, slot := 3, constantValue := 0 }, { name := "sequences", type := (.array .long), accessFlags := 2, slot := 4, constantValue := 0 }, { name := "nextSequence", type := .long, accessFlags := 2, slot := 5, constantValue := 0 }, { name := "size", type := .int, accessFlags := 2, slot := 6, constantValue := 0 }]
  methods := #[k9m0, k9m1, k9m2, k9m3, k9m4, k9m5, k9m6, k9m7, k9m8, k9m9, k9m10, k9m11, k9m12, k9m13, k9m14]
  instanceTypes := #[(.object "com/example/ripen/ripen/DeadlineHeap$SlotTracker"), (.array .long), (.array .int), (.array (.object "java/lang/Object")), (.array .long), .long, .int]
  staticTypes := #[.int, .int, .int]
  resolved := Array.replicate 198 none
  statics := none }

def pool10 : Array CpInfo := pool [(2, .class_ 4), (1, u "java/lang/Object"), (0, u "<init>"), (0, u "()V"), (7, .class_ 16), (1, u "java/util/Arrays"), (57, .class_ 76), (1, u "java/util/Arrays$NaturalOrder"), (36, .class_ 115), (1, u "java/util/Arrays$LegacyMergeSort"), (1, u "Z"), (32, .methodref 151 152), (0, .class_ 153), (0, .nameAndType 154 155), (0, u "java/lang/System"), (0, u "arraycopy"), (0, u "(Ljava/lang/Object;ILjava/lang/Object;II)V"), (146, u "copyOf"), (1, .methodref 305 306), (0, .class_ 307), (0, .nameAndType 308 309), (0, u "java/lang/Math"), (0, u "min"), (0, u "(II)I"), (65, .class_ 376), (0, u "java/util/Arrays$ArrayList"), (68, u "$assertionsDisabled"), (269, u "MIN_ARRAY_SORT_GRAN"), (0, u "I"), (2, u "INSERTIONSORT_THRESHOLD"), (151, u "([II)[I"), (103, .class_ 976), (0, u "java/util/Arrays$ArrayItr")] 52

def k10m0 : Method := { name := "<init>", desc := "()V", sig := { parameters := [], returnType := none }, accessFlags := 2, code := none }
def k10c1 : Code := { maxStack := 6, maxLocals := 3, code := jdk_65_method_123_code, exceptionTable := #[], attributes := #[] }
def k10m1 : Method := { name := "copyOf", desc := "([II)[I", sig := { parameters := [(.array .int), .int], returnType := some (.array .int) }, accessFlags := 9, code := some k10c1 }
/-- java/util/Arrays -/
def k10 : Class := { plain "java/util/Arrays" (some 0) with
  accessFlags := 49
  interfaces := #[]
  cf := some (fileOf pool10 14 #[.nestMembers #[975, 375, 113, 74]] #[{ accessFlags := 2, nameIndex := 5, descriptorIndex := 6, attributes := #[] }, { accessFlags := 9, nameIndex := 302, descriptorIndex := 871, attributes := #[] }] 49 2 #[] #[{ accessFlags := 26, nameIndex := 715, descriptorIndex := 716, attributes := #[] }, { accessFlags := 26, nameIndex := 719, descriptorIndex := 716, attributes := #[] }, { accessFlags := 4120, nameIndex := 445, descriptorIndex := 117, attributes := #[] }])
  fields := #[{ name := "MIN_ARRAY_SORT_GRAN", type := .int, accessFlags := 26, slot := 0, constantValue := 0 }, { name := "INSERTIONSORT_THRESHOLD", type := .int, accessFlags := 26, slot := 1, constantValue := 0 }, { name := "$assertionsDisabled", type := .boolean, accessFlags := 4120, slot := 2, constantValue := 0 }]
  methods := #[k10m0, k10m1]
  instanceTypes := #[]
  staticTypes := #[.int, .int, .boolean]
  resolved := Array.replicate 1029 none
  statics := none }

def pool11 : Array CpInfo := pool [(1, .class_ 2), (0, u "java/lang/Math"), (1, .class_ 6), (1, u "java/lang/Object"), (0, u "<init>"), (0, u "()V"), (89, .class_ 100), (1, u "java/lang/Math$RandomNumberGeneratorHolder"), (71, u "negativeZeroFloatBits"), (0, u "J"), (2, u "negativeZeroDoubleBits"), (24, u "min"), (43, u "$assertionsDisabled"), (0, u "Z"), (88, u "(II)I"), (2, u "twoToTheDoubleScaleDown"), (0, u "D"), (4, u "twoToTheDoubleScaleUp"), (9, u "E"), (3, u "PI"), (2, u "TAU"), (2, u "DEGREES_TO_RADIANS"), (0, u "RADIANS_TO_DEGREES")] 94

def k11m0 : Method := { name := "<init>", desc := "()V", sig := { parameters := [], returnType := none }, accessFlags := 2, code := none }
def k11c1 : Code := { maxStack := 2, maxLocals := 2, code := jdk_29_method_69_code, exceptionTable := #[], attributes := #[] }
def k11m1 : Method := { name := "min", desc := "(II)I", sig := { parameters := [.int, .int], returnType := some .int }, accessFlags := 9, code := some k11c1 }
/-- java/lang/Math -/
def k11 : Class := { plain "java/lang/Math" (some 0) with
  accessFlags := 49
  interfaces := #[]
  cf := some (fileOf pool11 1 #[.nestMembers #[98]] #[{ accessFlags := 2, nameIndex := 7, descriptorIndex := 8, attributes := #[] }, { accessFlags := 9, nameIndex := 201, descriptorIndex := 335, attributes := #[] }] 49 4 #[] #[{ accessFlags := 25, nameIndex := 354, descriptorIndex := 339, attributes := #[] }, { accessFlags := 25, nameIndex := 358, descriptorIndex := 339, attributes := #[] }, { accessFlags := 25, nameIndex := 361, descriptorIndex := 339, attributes := #[] }, { accessFlags := 26, nameIndex := 364, descriptorIndex := 339, attributes := #[] }, { accessFlags := 26, nameIndex := 365, descriptorIndex := 339, attributes := #[] }, { accessFlags := 26, nameIndex := 172, descriptorIndex := 173, attributes := #[] }, { accessFlags := 26, nameIndex := 176, descriptorIndex := 173, attributes := #[] }, { accessFlags := 8, nameIndex := 344, descriptorIndex := 339, attributes := #[] }, { accessFlags := 8, nameIndex := 338, descriptorIndex := 339, attributes := #[] }, { accessFlags := 4120, nameIndex := 245, descriptorIndex := 246, attributes := #[] }])
  fields := #[{ name := "E", type := .double, accessFlags := 25, slot := 0, constantValue := 0 }, { name := "PI", type := .double, accessFlags := 25, slot := 1, constantValue := 0 }, { name := "TAU", type := .double, accessFlags := 25, slot := 2, constantValue := 0 }, { name := "DEGREES_TO_RADIANS", type := .double, accessFlags := 26, slot := 3, constantValue := 0 }, { name := "RADIANS_TO_DEGREES", type := .double, accessFlags := 26, slot := 4, constantValue := 0 }, { name := "negativeZeroFloatBits", type := .long, accessFlags := 26, slot := 5, constantValue := 0 }, { name := "negativeZeroDoubleBits", type := .long, accessFlags := 26, slot := 6, constantValue := 0 }, { name := "twoToTheDoubleScaleUp", type := .double, accessFlags := 8, slot := 7, constantValue := 0 }, { name := "twoToTheDoubleScaleDown", type := .double, accessFlags := 8, slot := 8, constantValue := 0 }, { name := "$assertionsDisabled", type := .boolean, accessFlags := 4120, slot := 9, constantValue := 0 }]
  methods := #[k11m0, k11m1]
  instanceTypes := #[]
  staticTypes := #[.double, .double, .double, .double, .double, .long, .long, .double, .double, .boolean]
  resolved := Array.replicate 460 none
  statics := none }

def pool12 : Array CpInfo := pool [(2, .class_ 4), (1, u "java/lang/Object"), (0, u "<init>"), (0, u "()V"), (1, .class_ 10), (1, u "java/lang/System"), (0, u "allowSecurityManager"), (0, u "I"), (16, u "cons"), (0, u "Ljava/io/Console;"), (77, .class_ 110), (1, u "java/lang/System$CallersHolder"), (43, u "initialErrStream"), (0, u "Ljava/io/PrintStream;"), (19, u "security"), (0, u "Ljava/lang/SecurityManager;"), (31, .class_ 209), (0, u "java/lang/System$1"), (7, u "props"), (0, u "Ljava/util/Properties;"), (2, u "lineSeparator"), (0, u "Ljava/lang/String;"), (96, .class_ 321), (1, u "java/lang/System$LoggerFinder"), (5, .class_ 328), (0, u "java/lang/System$Logger"), (67, u "err"), (2, u "out"), (91, u "notSupportedJnuEncoding"), (15, u "in"), (17, u "initialIn"), (0, u "Ljava/io/InputStream;"), (35, u "bootLayer"), (0, u "Ljava/lang/ModuleLayer;"), (99, .class_ 664), (0, u "java/lang/System$2"), (9, u "NEVER"), (2, u "MAYBE"), (49, u "arraycopy"), (0, u "(Ljava/lang/Object;ILjava/lang/Object;II)V"), (72, .class_ 802), (0, u "java/lang/System$Logger$Level")] 31

def k12m0 : Method := { name := "<init>", desc := "()V", sig := { parameters := [], returnType := none }, accessFlags := 2, code := none }
def k12m1 : Method := { name := "arraycopy", desc := "(Ljava/lang/Object;ILjava/lang/Object;II)V", sig := { parameters := [(.object "java/lang/Object"), .int, (.object "java/lang/Object"), .int, .int], returnType := none }, accessFlags := 265, code := none }
/-- java/lang/System -/
def k12 : Class := { plain "java/lang/System" (some 0) with
  accessFlags := 49
  interfaces := #[]
  cf := some (fileOf pool12 8 #[.nestMembers #[319, 327, 801, 108, 663, 208]] #[{ accessFlags := 2, nameIndex := 5, descriptorIndex := 6, attributes := #[] }, { accessFlags := 265, nameIndex := 727, descriptorIndex := 728, attributes := #[] }] 49 2 #[] #[{ accessFlags := 25, nameIndex := 507, descriptorIndex := 526, attributes := #[] }, { accessFlags := 25, nameIndex := 399, descriptorIndex := 155, attributes := #[] }, { accessFlags := 25, nameIndex := 396, descriptorIndex := 155, attributes := #[] }, { accessFlags := 10, nameIndex := 525, descriptorIndex := 526, attributes := #[] }, { accessFlags := 26, nameIndex := 674, descriptorIndex := 12, attributes := #[] }, { accessFlags := 26, nameIndex := 677, descriptorIndex := 12, attributes := #[] }, { accessFlags := 10, nameIndex := 11, descriptorIndex := 12, attributes := #[] }, { accessFlags := 74, nameIndex := 175, descriptorIndex := 176, attributes := #[] }, { accessFlags := 10, nameIndex := 491, descriptorIndex := 222, attributes := #[] }, { accessFlags := 74, nameIndex := 29, descriptorIndex := 30, attributes := #[] }, { accessFlags := 74, nameIndex := 154, descriptorIndex := 155, attributes := #[] }, { accessFlags := 10, nameIndex := 217, descriptorIndex := 218, attributes := #[] }, { accessFlags := 10, nameIndex := 221, descriptorIndex := 222, attributes := #[] }, { accessFlags := 8, nameIndex := 562, descriptorIndex := 563, attributes := #[] }])
  fields := #[{ name := "in", type := (.object "java/io/InputStream"), accessFlags := 25, slot := 0, constantValue := 0 }, { name := "out", type := (.object "java/io/PrintStream"), accessFlags := 25, slot := 1, constantValue := 0 }, { name := "err", type := (.object "java/io/PrintStream"), accessFlags := 25, slot := 2, constantValue := 0 }, { name := "initialIn", type := (.object "java/io/InputStream"), accessFlags := 10, slot := 3, constantValue := 0 }, { name := "NEVER", type := .int, accessFlags := 26, slot := 4, constantValue := 0 }, { name := "MAYBE", type := .int, accessFlags := 26, slot := 5, constantValue := 0 }, { name := "allowSecurityManager", type := .int, accessFlags := 10, slot := 6, constantValue := 0 }, { name := "security", type := (.object "java/lang/SecurityManager"), accessFlags := 74, slot := 7, constantValue := 0 }, { name := "notSupportedJnuEncoding", type := (.object "java/lang/String"), accessFlags := 10, slot := 8, constantValue := 0 }, { name := "cons", type := (.object "java/io/Console"), accessFlags := 74, slot := 9, constantValue := 0 }, { name := "initialErrStream", type := (.object "java/io/PrintStream"), accessFlags := 74, slot := 10, constantValue := 0 }, { name := "props", type := (.object "java/util/Properties"), accessFlags := 10, slot := 11, constantValue := 0 }, { name := "lineSeparator", type := (.object "java/lang/String"), accessFlags := 10, slot := 12, constantValue := 0 }, { name := "bootLayer", type := (.object "java/lang/ModuleLayer"), accessFlags := 8, slot := 13, constantValue := 0 }]
  methods := #[k12m0, k12m1]
  instanceTypes := #[]
  staticTypes := #[(.object "java/io/InputStream"), (.object "java/io/PrintStream"), (.object "java/io/PrintStream"), (.object "java/io/InputStream"), .int, .int, .int, (.object "java/lang/SecurityManager"), (.object "java/lang/String"), (.object "java/io/Console"), (.object "java/io/PrintStream"), (.object "java/util/Properties"), (.object "java/lang/String"), (.object "java/lang/ModuleLayer")]
  resolved := Array.replicate 834 none
  statics := none }

def pool13 : Array CpInfo := pool [(4, .class_ 6), (1, u "java/lang/Object"), (0, u "<init>"), (0, u "()V"), (5, .class_ 16), (1, u "java/lang/StringLatin1"), (104, u "$assertionsDisabled"), (0, u "Z"), (98, .class_ 223), (1, u "java/lang/StringLatin1$LinesSpliterator"), (166, .class_ 391), (0, u "java/lang/StringLatin1$CharsSpliterator")] 3

def k13m0 : Method := { name := "<init>", desc := "()V", sig := { parameters := [], returnType := none }, accessFlags := 0, code := none }
/-- java/lang/StringLatin1 -/
def k13 : Class := { plain "java/lang/StringLatin1" (some 0) with
  accessFlags := 48
  interfaces := #[]
  cf := some (fileOf pool13 14 #[.nestMembers #[390, 221]] #[{ accessFlags := 0, nameIndex := 7, descriptorIndex := 8, attributes := #[] }] 48 4 #[] #[{ accessFlags := 4120, nameIndex := 121, descriptorIndex := 122, attributes := #[] }])
  fields := #[{ name := "$assertionsDisabled", type := .boolean, accessFlags := 4120, slot := 0, constantValue := 0 }]
  methods := #[k13m0]
  instanceTypes := #[]
  staticTypes := #[.boolean]
  resolved := Array.replicate 395 none
  statics := none }

def pool14 : Array CpInfo := pool [(2, .class_ 4), (1, u "java/lang/Object"), (0, u "<init>"), (0, u "()V"), (17, .class_ 26), (1, u "jdk/internal/util/Preconditions"), (28, .class_ 56), (0, u "jdk/internal/util/Preconditions$4"), (57, .class_ 115), (0, u "jdk/internal/util/Preconditions$1"), (7, u "SIOOBE_FORMATTER"), (0, u "Ljava/util/function/BiFunction;"), (0, .class_ 126), (0, u "jdk/internal/util/Preconditions$2"), (3, u "AIOOBE_FORMATTER"), (0, .class_ 132), (0, u "jdk/internal/util/Preconditions$3"), (3, u "IOOBE_FORMATTER")] 57

def k14m0 : Method := { name := "<init>", desc := "()V", sig := { parameters := [], returnType := none }, accessFlags := 1, code := none }
/-- jdk/internal/util/Preconditions -/
def k14 : Class := { plain "jdk/internal/util/Preconditions" (some 0) with
  accessFlags := 33
  interfaces := #[]
  cf := some (fileOf pool14 24 #[.nestMembers #[55, 131, 125, 114]] #[{ accessFlags := 1, nameIndex := 5, descriptorIndex := 6, attributes := #[] }] 33 2 #[] #[{ accessFlags := 25, nameIndex := 123, descriptorIndex := 124, attributes := #[] }, { accessFlags := 25, nameIndex := 130, descriptorIndex := 124, attributes := #[] }, { accessFlags := 25, nameIndex := 136, descriptorIndex := 124, attributes := #[] }])
  fields := #[{ name := "SIOOBE_FORMATTER", type := (.object "java/util/function/BiFunction"), accessFlags := 25, slot := 0, constantValue := 0 }, { name := "AIOOBE_FORMATTER", type := (.object "java/util/function/BiFunction"), accessFlags := 25, slot := 1, constantValue := 0 }, { name := "IOOBE_FORMATTER", type := (.object "java/util/function/BiFunction"), accessFlags := 25, slot := 2, constantValue := 0 }]
  methods := #[k14m0]
  instanceTypes := #[]
  staticTypes := #[(.object "java/util/function/BiFunction"), (.object "java/util/function/BiFunction"), (.object "java/util/function/BiFunction")]
  resolved := Array.replicate 194 none
  statics := some 1 }

def pool15 : Array CpInfo := pool [(9, u "<init>"), (6, .class_ 18), (1, u "java/lang/Object"), (0, u "()V"), (1, .class_ 23), (1, u "jdk/internal/util/ArraysSupport"), (0, u "LOG2_ARRAY_LONG_INDEX_SCALE"), (0, u "I"), (2, u "U"), (0, u "Ljdk/internal/misc/Unsafe;"), (8, u "BIG_ENDIAN"), (0, u "Z"), (8, u "LOG2_BYTE_BIT_SIZE"), (4, u "LOG2_ARRAY_INT_INDEX_SCALE"), (54, u "JLA"), (0, u "Ljdk/internal/access/JavaLangAccess;"), (11, u "LOG2_ARRAY_BOOLEAN_INDEX_SCALE"), (9, u "LOG2_ARRAY_BYTE_INDEX_SCALE"), (5, u "LOG2_ARRAY_CHAR_INDEX_SCALE"), (5, u "LOG2_ARRAY_SHORT_INDEX_SCALE"), (18, u "LOG2_ARRAY_FLOAT_INDEX_SCALE"), (24, u "LOG2_ARRAY_DOUBLE_INDEX_SCALE"), (89, u "T_BOOLEAN"), (2, u "T_CHAR"), (1, u "T_FLOAT"), (1, u "T_DOUBLE"), (1, u "T_BYTE"), (1, u "T_SHORT"), (1, u "T_INT"), (1, u "T_LONG"), (1, u "SOFT_MAX_ARRAY_LENGTH")] 83

def k15m0 : Method := { name := "<init>", desc := "()V", sig := { parameters := [], returnType := none }, accessFlags := 2, code := none }
/-- jdk/internal/util/ArraysSupport -/
def k15 : Class := { plain "jdk/internal/util/ArraysSupport" (some 0) with
  accessFlags := 33
  interfaces := #[]
  cf := some (fileOf pool15 21 #[] #[{ accessFlags := 2, nameIndex := 9, descriptorIndex := 19, attributes := #[] }] 33 16 #[] #[{ accessFlags := 24, nameIndex := 28, descriptorIndex := 29, attributes := #[] }, { accessFlags := 26, nameIndex := 38, descriptorIndex := 39, attributes := #[] }, { accessFlags := 25, nameIndex := 121, descriptorIndex := 25, attributes := #[] }, { accessFlags := 25, nameIndex := 131, descriptorIndex := 25, attributes := #[] }, { accessFlags := 25, nameIndex := 137, descriptorIndex := 25, attributes := #[] }, { accessFlags := 25, nameIndex := 143, descriptorIndex := 25, attributes := #[] }, { accessFlags := 25, nameIndex := 53, descriptorIndex := 25, attributes := #[] }, { accessFlags := 25, nameIndex := 24, descriptorIndex := 25, attributes := #[] }, { accessFlags := 25, nameIndex := 162, descriptorIndex := 25, attributes := #[] }, { accessFlags := 25, nameIndex := 187, descriptorIndex := 25, attributes := #[] }, { accessFlags := 26, nameIndex := 48, descriptorIndex := 25, attributes := #[] }, { accessFlags := 25, nameIndex := 277, descriptorIndex := 25, attributes := #[] }, { accessFlags := 25, nameIndex := 280, descriptorIndex := 25, attributes := #[] }, { accessFlags := 25, nameIndex := 282, descriptorIndex := 25, attributes := #[] }, { accessFlags := 25, nameIndex := 284, descriptorIndex := 25, attributes := #[] }, { accessFlags := 25, nameIndex := 286, descriptorIndex := 25, attributes := #[] }, { accessFlags := 25, nameIndex := 288, descriptorIndex := 25, attributes := #[] }, { accessFlags := 25, nameIndex := 290, descriptorIndex := 25, attributes := #[] }, { accessFlags := 25, nameIndex := 292, descriptorIndex := 25, attributes := #[] }, { accessFlags := 26, nameIndex := 108, descriptorIndex := 109, attributes := #[] }, { accessFlags := 25, nameIndex := 294, descriptorIndex := 25, attributes := #[] }])
  fields := #[{ name := "U", type := (.object "jdk/internal/misc/Unsafe"), accessFlags := 24, slot := 0, constantValue := 0 }, { name := "BIG_ENDIAN", type := .boolean, accessFlags := 26, slot := 1, constantValue := 0 }, { name := "LOG2_ARRAY_BOOLEAN_INDEX_SCALE", type := .int, accessFlags := 25, slot := 2, constantValue := 0 }, { name := "LOG2_ARRAY_BYTE_INDEX_SCALE", type := .int, accessFlags := 25, slot := 3, constantValue := 0 }, { name := "LOG2_ARRAY_CHAR_INDEX_SCALE", type := .int, accessFlags := 25, slot := 4, constantValue := 0 }, { name := "LOG2_ARRAY_SHORT_INDEX_SCALE", type := .int, accessFlags := 25, slot := 5, constantValue := 0 }, { name := "LOG2_ARRAY_INT_INDEX_SCALE", type := .int, accessFlags := 25, slot := 6, constantValue := 0 }, { name := "LOG2_ARRAY_LONG_INDEX_SCALE", type := .int, accessFlags := 25, slot := 7, constantValue := 0 }, { name := "LOG2_ARRAY_FLOAT_INDEX_SCALE", type := .int, accessFlags := 25, slot := 8, constantValue := 0 }, { name := "LOG2_ARRAY_DOUBLE_INDEX_SCALE", type := .int, accessFlags := 25, slot := 9, constantValue := 0 }, { name := "LOG2_BYTE_BIT_SIZE", type := .int, accessFlags := 26, slot := 10, constantValue := 0 }, { name := "T_BOOLEAN", type := .int, accessFlags := 25, slot := 11, constantValue := 0 }, { name := "T_CHAR", type := .int, accessFlags := 25, slot := 12, constantValue := 0 }, { name := "T_FLOAT", type := .int, accessFlags := 25, slot := 13, constantValue := 0 }, { name := "T_DOUBLE", type := .int, accessFlags := 25, slot := 14, constantValue := 0 }, { name := "T_BYTE", type := .int, accessFlags := 25, slot := 15, constantValue := 0 }, { name := "T_SHORT", type := .int, accessFlags := 25, slot := 16, constantValue := 0 }, { name := "T_INT", type := .int, accessFlags := 25, slot := 17, constantValue := 0 }, { name := "T_LONG", type := .int, accessFlags := 25, slot := 18, constantValue := 0 }, { name := "JLA", type := (.object "jdk/internal/access/JavaLangAccess"), accessFlags := 26, slot := 19, constantValue := 0 }, { name := "SOFT_MAX_ARRAY_LENGTH", type := .int, accessFlags := 25, slot := 20, constantValue := 0 }]
  methods := #[k15m0]
  instanceTypes := #[]
  staticTypes := #[(.object "jdk/internal/misc/Unsafe"), .boolean, .int, .int, .int, .int, .int, .int, .int, .int, .int, .int, .int, .int, .int, .int, .int, .int, .int, (.object "jdk/internal/access/JavaLangAccess"), .int]
  resolved := Array.replicate 378 none
  statics := none }

def pool16 : Array CpInfo := pool [(1, u "java/lang/Cloneable"), (0, .class_ 1), (0, u "java/lang/Object"), (0, .class_ 3)] 3

/-- java/lang/Cloneable -/
def k16 : Class := { plain "java/lang/Cloneable" (some 0) with
  accessFlags := 1537
  interfaces := #[]
  cf := some (fileOf pool16 2 #[] #[] 1537 4 #[] #[])
  fields := #[]
  methods := #[]
  instanceTypes := #[]
  staticTypes := #[]
  resolved := Array.replicate 8 none
  statics := none }

/-- the primitive byte -/
def k17 : Class := { plain "byte" none with kind := .primitive 'B', accessFlags := 0x411 }
/-- [B -/
def k18 : Class := { plain "[B" (some 0) with kind := .array 17 .byte, interfaces := #[16, 2], accessFlags := 1041 }

/-- the primitive char -/
def k19 : Class := { plain "char" none with kind := .primitive 'C', accessFlags := 0x411 }
/-- [C -/
def k20 : Class := { plain "[C" (some 0) with kind := .array 19 .char, interfaces := #[16, 2], accessFlags := 1041 }

/-- the primitive int -/
def k21 : Class := { plain "int" none with kind := .primitive 'I', accessFlags := 0x411 }
/-- [I -/
def k22 : Class := { plain "[I" (some 0) with kind := .array 21 .int, interfaces := #[16, 2], accessFlags := 1041 }

/-- the primitive long -/
def k23 : Class := { plain "long" none with kind := .primitive 'J', accessFlags := 0x411 }
/-- [J -/
def k24 : Class := { plain "[J" (some 0) with kind := .array 23 .long, interfaces := #[16, 2], accessFlags := 1041 }

/-- [Ljava/lang/Object; -/
def k25 : Class := { plain "[Ljava/lang/Object;" (some 0) with kind := .array 0 (.object "java/lang/Object"), interfaces := #[16, 2], accessFlags := 1041 }

def heap : Heap := #[{ cls := 7, slots := #[.long 0, .int 1, .null, .int 0, .null, .int 0, .int 0], vm := .statics 7 },
  { cls := 14, slots := #[.null, .null, .null], vm := .statics 14 }]
def classes : Array Class := #[k0, k1, k2, k3, k4, k5, k6, k7, k8, k9, k10, k11, k12, k13, k14, k15, k16, k17, k18, k19, k20, k21, k22, k23, k24, k25]
def interned : List (Array UInt16 × Addr) := []
def slotsUsed : Nat := 10
def theMethod : MethodId := ⟨1, 1⟩
def args0 : Array Value := #[.int 7, .long 5, .long 3, .long 9, .int 1]
def aboutOver (below : List Frame) : State where
  vm := { classes := classes, interned := interned.toArray }
  heap := heap
  slotsUsed := slotsUsed
  threads := #[{ frames := .invoking theMethod args0 :: below }]
def below0 : List Frame := [.native { method := ⟨0, 0⟩, args := #[] }]
def about1 : State := aboutOver below0
def p0 : Program := .bare "" "" ""
def e0 : Env := launch0.env 0 0 0
theorem w_frames : about1.frames = Frame.invoking theMethod args0 :: below0 := rfl
set_option maxRecDepth 65536 in
theorem w_args : argsFit about1.vm theMethod args0 = true := by decide +kernel
set_option maxRecDepth 65536 in
theorem w_heap : heapFits about1 = true := by decide +kernel
set_option maxRecDepth 65536 in
theorem w_runnable : about1.curStatus? = some .runnable := by decide +kernel
set_option maxRecDepth 65536 in
theorem w_alone : about1.alone = true := by decide +kernel
set_option maxRecDepth 65536 in
theorem w_named : about1.methodNamed? x = some theMethod := by decide +kernel
set_option maxRecDepth 65536 in
theorem w_hears : about1.hears theMethod below0 = true := by decide +kernel
set_option maxRecDepth 65536 in
theorem w_ripe : about1.ripe theMethod args0 below0 = true := by decide +kernel
theorem w_running : about1.status = .running := rfl
set_option maxRecDepth 65536 in
theorem w_room : about1.hasRoom e0.platform room_1 = true :=
  launch0.hasRoom_least _ room_1 (by decide +kernel) (by decide +kernel) (by decide +kernel) (by decide +kernel) (by decide +kernel) (by decide +kernel)
theorem allAtoms_all (ts : List Jvm.Cond) (a : Array Jvm.Value) (st : Jvm.State) : (allAtoms ts).before a st = ts.all (fun c => c.before a st) := by
  induction ts with
  | nil => rfl
  | cons c t ih =>
    show (Jvm.Cond.and c (allAtoms t)).before a st = _
    rw [Jvm.Cond.before_and, ih, List.all_cons]
def words1 : List Jvm.Cond := Jvm.Cond.code x code maxLocals ret :: tables_1
/-- a 'code' word, met by the world's own term for the bytes: nothing is compared byte by byte -/
theorem code_word {y : MethodName} {bytes : ByteArray} {mx : Nat} {rt : Option FieldType} {a : Array Value} {s : State} {m : MethodId} {meth : Method} {c : Code} (h1 : s.methodNamed? y = some m) (h2 : s.vm.method? m = some meth) (h3 : meth.code = some c) (h4 : c.code = bytes)
    (h5 : (c.maxLocals == mx && c.exceptionTable.isEmpty && decide (c.maxStack ≤ mostOperands) && decide (meth.sig.returnType = rt) && !meth.locks && decide (parseMethodDescriptor y.desc = some meth.sig)) = true) : (Jvm.Cond.code y bytes mx rt).before a s = true := by
  simp only [Bool.and_eq_true, beq_iff_eq, Bool.not_eq_true', decide_eq_true_eq] at h5
  obtain ⟨⟨⟨⟨⟨g1, g2⟩, g3⟩, g4⟩, g5⟩, g6⟩ := h5
  simp [Cond.before, Cond.holds, Cond.value, h1, h2, h3, h4, g1, g2, g3, g4, g5, g6]
def isCode : Jvm.Cond → Bool
  | .code _ _ _ _ => true
  | _ => false
theorem all_split {L : List Jvm.Cond} {P : Jvm.Cond → Bool} (h1 : L.all (fun c => isCode c || P c) = true) (h2 : ∀ c ∈ L.filter isCode, P c = true) : L.all P = true := by
  refine List.all_eq_true.mpr fun c hc => ?_
  have h := List.all_eq_true.mp h1 c hc
  rcases Bool.eq_false_or_eq_true (isCode c) with hi | hi
  · exact h2 c (List.mem_filter.mpr ⟨hc, hi⟩)
  · simpa [hi] using h
set_option maxRecDepth 65536 in
theorem w_c0 : (Jvm.Cond.code x code maxLocals ret).before args0 about1 = true := code_word (m := ⟨1, 1⟩) (meth := k1m1) (c := k1c1) (by decide +kernel) rfl rfl rfl (by decide +kernel)
set_option maxRecDepth 65536 in
theorem w_c1 : (Jvm.Cond.code ({ cls := "java/lang/String", name := "<init>", desc := "([C)V" } : Jvm.MethodName) jdk_42_method_3_code (2 : Nat) (Option.none : Option Jvm.ClassFile.FieldType)).before args0 about1 = true := code_word (m := ⟨7, 1⟩) (meth := k7m1) (c := k7c1) (by decide +kernel) rfl rfl rfl (by decide +kernel)
set_option maxRecDepth 65536 in
theorem w_c2 : (Jvm.Cond.code ({ cls := "java/lang/String", name := "<init>", desc := "([CIILjava/lang/Void;)V" } : Jvm.MethodName) jdk_42_method_149_code (6 : Nat) (Option.none : Option Jvm.ClassFile.FieldType)).before args0 about1 = true := code_word (m := ⟨7, 2⟩) (meth := k7m2) (c := k7c2) (by decide +kernel) rfl rfl rfl (by decide +kernel)
set_option maxRecDepth 65536 in
theorem w_c3 : (Jvm.Cond.code ({ cls := "java/lang/Object", name := "<init>", desc := "()V" } : Jvm.MethodName) object_method_1_code (1 : Nat) (Option.none : Option Jvm.ClassFile.FieldType)).before args0 about1 = true := code_word (m := ⟨0, 0⟩) (meth := k0m0) (c := k0c0) (by decide +kernel) rfl rfl rfl (by decide +kernel)
set_option maxRecDepth 65536 in
theorem w_c4 : (Jvm.Cond.code ({ cls := "java/lang/StringUTF16", name := "compress", desc := "([CII)[B" } : Jvm.MethodName) jdk_52_method_16_code (6 : Nat) (Option.some (Jvm.ClassFile.FieldType.array Jvm.ClassFile.FieldType.byte))).before args0 about1 = true := code_word (m := ⟨8, 2⟩) (meth := k8m2) (c := k8c2) (by decide +kernel) rfl rfl rfl (by decide +kernel)
set_option maxRecDepth 65536 in
theorem w_c5 : (Jvm.Cond.code ({ cls := "java/lang/StringUTF16", name := "compress", desc := "([CI[BII)I" } : Jvm.MethodName) jdk_52_method_21_code (7 : Nat) (Option.some Jvm.ClassFile.FieldType.int)).before args0 about1 = true := code_word (m := ⟨8, 3⟩) (meth := k8m3) (c := k8c3) (by decide +kernel) rfl rfl rfl (by decide +kernel)
set_option maxRecDepth 65536 in
theorem w_c6 : (Jvm.Cond.code ({ cls := "java/lang/StringUTF16", name := "coderFromArrayLen", desc := "([BI)B" } : Jvm.MethodName) jdk_52_method_15_code (2 : Nat) (Option.some Jvm.ClassFile.FieldType.byte)).before args0 about1 = true := code_word (m := ⟨8, 1⟩) (meth := k8m1) (c := k8c1) (by decide +kernel) rfl rfl rfl (by decide +kernel)
set_option maxRecDepth 65536 in
theorem w_c7 : (Jvm.Cond.code ({ cls := "com/example/ripen/ripen/DeadlineHeap", name := "<init>", desc := "()V" } : Jvm.MethodName) prog_1_method_1_code (1 : Nat) (Option.none : Option Jvm.ClassFile.FieldType)).before args0 about1 = true := code_word (m := ⟨9, 0⟩) (meth := k9m0) (c := k9c0) (by decide +kernel) rfl rfl rfl (by decide +kernel)
set_option maxRecDepth 65536 in
theorem w_c8 : (Jvm.Cond.code ({ cls := "com/example/ripen/ripen/DeadlineHeap", name := "<init>", desc := "(ZLcom/example/ripen/ripen/DeadlineHeap$SlotTracker;)V" } : Jvm.MethodName) prog_1_method_2_code (3 : Nat) (Option.none : Option Jvm.ClassFile.FieldType)).before args0 about1 = true := code_word (m := ⟨9, 1⟩) (meth := k9m1) (c := k9c1) (by decide +kernel) rfl rfl rfl (by decide +kernel)
set_option maxRecDepth 65536 in
theorem w_c9 : (Jvm.Cond.code ({ cls := "com/example/ripen/ripen/DeadlineHeap", name := "withFreeHandles", desc := "([II)[I" } : Jvm.MethodName) prog_1_method_25_code (4 : Nat) (Option.some (Jvm.ClassFile.FieldType.array Jvm.ClassFile.FieldType.int))).before args0 about1 = true := code_word (m := ⟨9, 14⟩) (meth := k9m14) (c := k9c14) (by decide +kernel) rfl rfl rfl (by decide +kernel)
set_option maxRecDepth 65536 in
theorem w_c10 : (Jvm.Cond.code ({ cls := "java/util/Arrays", name := "copyOf", desc := "([II)[I" } : Jvm.MethodName) jdk_65_method_123_code (3 : Nat) (Option.some (Jvm.ClassFile.FieldType.array Jvm.ClassFile.FieldType.int))).before args0 about1 = true := code_word (m := ⟨10, 1⟩) (meth := k10m1) (c := k10c1) (by decide +kernel) rfl rfl rfl (by decide +kernel)
set_option maxRecDepth 65536 in
theorem w_c11 : (Jvm.Cond.code ({ cls := "java/lang/Math", name := "min", desc := "(II)I" } : Jvm.MethodName) jdk_29_method_69_code (2 : Nat) (Option.some Jvm.ClassFile.FieldType.int)).before args0 about1 = true := code_word (m := ⟨11, 1⟩) (meth := k11m1) (c := k11c1) (by decide +kernel) rfl rfl rfl (by decide +kernel)
set_option maxRecDepth 65536 in
theorem w_c12 : (Jvm.Cond.code ({ cls := "com/example/ripen/ripen/DeadlineHeap", name := "toArray", desc := "()[Ljava/lang/Object;" } : Jvm.MethodName) prog_1_method_12_code (3 : Nat) (Option.some (Jvm.ClassFile.FieldType.array (Jvm.ClassFile.FieldType.object "java/lang/Object")))).before args0 about1 = true := code_word (m := ⟨9, 5⟩) (meth := k9m5) (c := k9c5) (by decide +kernel) rfl rfl rfl (by decide +kernel)
set_option maxRecDepth 65536 in
theorem w_c13 : (Jvm.Cond.code ({ cls := "com/example/ripen/ripen/DeadlineHeapToArrayPinLaw", name := "slotOk", desc := "(Lcom/example/ripen/ripen/DeadlineHeap;[Ljava/lang/Object;II[Ljava/lang/Object;II)Z" } : Jvm.MethodName) method_3_code (9 : Nat) (Option.some Jvm.ClassFile.FieldType.boolean)).before args0 about1 = true := code_word (m := ⟨1, 2⟩) (meth := k1m2) (c := k1c2) (by decide +kernel) rfl rfl rfl (by decide +kernel)
set_option maxRecDepth 65536 in
theorem w_c14 : (Jvm.Cond.code ({ cls := "com/example/ripen/ripen/DeadlineHeap", name := "insert", desc := "(Ljava/lang/Object;J)Z" } : Jvm.MethodName) prog_1_method_8_code (8 : Nat) (Option.some Jvm.ClassFile.FieldType.boolean)).before args0 about1 = true := code_word (m := ⟨9, 3⟩) (meth := k9m3) (c := k9c3) (by decide +kernel) rfl rfl rfl (by decide +kernel)
set_option maxRecDepth 65536 in
theorem w_c15 : (Jvm.Cond.code ({ cls := "com/example/ripen/ripen/DeadlineHeap", name := "siftUp", desc := "(IJJ)I" } : Jvm.MethodName) prog_1_method_14_code (7 : Nat) (Option.some Jvm.ClassFile.FieldType.int)).before args0 about1 = true := code_word (m := ⟨9, 6⟩) (meth := k9m6) (c := k9c6) (by decide +kernel) rfl rfl rfl (by decide +kernel)
set_option maxRecDepth 65536 in
theorem w_c16 : (Jvm.Cond.code ({ cls := "com/example/ripen/ripen/DeadlineHeap", name := "place", desc := "(IJJI)V" } : Jvm.MethodName) prog_1_method_20_code (7 : Nat) (Option.none : Option Jvm.ClassFile.FieldType)).before args0 about1 = true := code_word (m := ⟨9, 10⟩) (meth := k9m10) (c := k9c10) (by decide +kernel) rfl rfl rfl (by decide +kernel)
set_option maxRecDepth 65536 in
theorem w_c17 : (Jvm.Cond.code ({ cls := "com/example/ripen/ripen/DeadlineHeap", name := "reportPlaced", desc := "(I)V" } : Jvm.MethodName) prog_1_method_22_code (2 : Nat) (Option.none : Option Jvm.ClassFile.FieldType)).before args0 about1 = true := code_word (m := ⟨9, 12⟩) (meth := k9m12) (c := k9c12) (by decide +kernel) rfl rfl rfl (by decide +kernel)
set_option maxRecDepth 65536 in
theorem w_c18 : (Jvm.Cond.code ({ cls := "com/example/ripen/ripen/DeadlineHeap", name := "sequenceAt", desc := "(I)J" } : Jvm.MethodName) prog_1_method_19_code (2 : Nat) (Option.some Jvm.ClassFile.FieldType.long)).before args0 about1 = true := code_word (m := ⟨9, 9⟩) (meth := k9m9) (c := k9c9) (by decide +kernel) rfl rfl rfl (by decide +kernel)
set_option maxRecDepth 65536 in
theorem w_c19 : (Jvm.Cond.code ({ cls := "com/example/ripen/ripen/DeadlineHeap", name := "before", desc := "(JJJJ)Z" } : Jvm.MethodName) prog_1_method_16_code (8 : Nat) (Option.some Jvm.ClassFile.FieldType.boolean)).before args0 about1 = true := code_word (m := ⟨9, 8⟩) (meth := k9m8) (c := k9c8) (by decide +kernel) rfl rfl rfl (by decide +kernel)
set_option maxRecDepth 65536 in
theorem w_c20 : (Jvm.Cond.code ({ cls := "com/example/ripen/ripen/DeadlineHeap", name := "moveTo", desc := "(II)V" } : Jvm.MethodName) prog_1_method_21_code (3 : Nat) (Option.none : Option Jvm.ClassFile.FieldType)).before args0 about1 = true := code_word (m := ⟨9, 11⟩) (meth := k9m11) (c := k9c11) (by decide +kernel) rfl rfl rfl (by decide +kernel)
set_option maxRecDepth 65536 in
theorem w_c21 : (Jvm.Cond.code ({ cls := "com/example/ripen/ripen/DeadlineHeap", name := "removeAt", desc := "(I)Ljava/lang/Object;" } : Jvm.MethodName) prog_1_method_9_code (11 : Nat) (Option.some (Jvm.ClassFile.FieldType.object "java/lang/Object"))).before args0 about1 = true := code_word (m := ⟨9, 4⟩) (meth := k9m4) (c := k9c4) (by decide +kernel) rfl rfl rfl (by decide +kernel)
set_option maxRecDepth 65536 in
theorem w_c22 : (Jvm.Cond.code ({ cls := "com/example/ripen/ripen/DeadlineHeap", name := "elementAt", desc := "(I)Ljava/lang/Object;" } : Jvm.MethodName) prog_1_method_6_code (2 : Nat) (Option.some (Jvm.ClassFile.FieldType.object "java/lang/Object"))).before args0 about1 = true := code_word (m := ⟨9, 2⟩) (meth := k9m2) (c := k9c2) (by decide +kernel) rfl rfl rfl (by decide +kernel)
set_option maxRecDepth 65536 in
theorem w_c23 : (Jvm.Cond.code ({ cls := "com/example/ripen/ripen/DeadlineHeap", name := "reportLeft", desc := "(Ljava/lang/Object;)V" } : Jvm.MethodName) prog_1_method_23_code (2 : Nat) (Option.none : Option Jvm.ClassFile.FieldType)).before args0 about1 = true := code_word (m := ⟨9, 13⟩) (meth := k9m13) (c := k9c13) (by decide +kernel) rfl rfl rfl (by decide +kernel)
set_option maxRecDepth 65536 in
theorem w_c24 : (Jvm.Cond.code ({ cls := "com/example/ripen/ripen/DeadlineHeapToArrayPinLaw", name := "find", desc := "(Ljava/lang/Object;[Ljava/lang/Object;I)I" } : Jvm.MethodName) method_5_code (3 : Nat) (Option.some Jvm.ClassFile.FieldType.int)).before args0 about1 = true := code_word (m := ⟨1, 4⟩) (meth := k1m4) (c := k1c4) (by decide +kernel) rfl rfl rfl (by decide +kernel)
set_option maxRecDepth 65536 in
theorem w_c25 : (Jvm.Cond.code ({ cls := "com/example/ripen/ripen/DeadlineHeapToArrayPinLaw", name := "minOk", desc := "([JIIII)Z" } : Jvm.MethodName) method_4_code (5 : Nat) (Option.some Jvm.ClassFile.FieldType.boolean)).before args0 about1 = true := code_word (m := ⟨1, 3⟩) (meth := k1m3) (c := k1c3) (by decide +kernel) rfl rfl rfl (by decide +kernel)
set_option maxRecDepth 65536 in
theorem w_c26 : (Jvm.Cond.code ({ cls := "com/example/ripen/ripen/DeadlineHeap", name := "siftDown", desc := "(IJJ)I" } : Jvm.MethodName) prog_1_method_15_code (9 : Nat) (Option.some Jvm.ClassFile.FieldType.int)).before args0 about1 = true := code_word (m := ⟨9, 7⟩) (meth := k9m7) (c := k9c7) (by decide +kernel) rfl rfl rfl (by decide +kernel)
def codes1 : List Jvm.Cond := [Jvm.Cond.code x code maxLocals ret, Jvm.Cond.code ({ cls := "java/lang/String", name := "<init>", desc := "([C)V" } : Jvm.MethodName) jdk_42_method_3_code (2 : Nat) (Option.none : Option Jvm.ClassFile.FieldType), Jvm.Cond.code ({ cls := "java/lang/String", name := "<init>", desc := "([CIILjava/lang/Void;)V" } : Jvm.MethodName) jdk_42_method_149_code (6 : Nat) (Option.none : Option Jvm.ClassFile.FieldType), Jvm.Cond.code ({ cls := "java/lang/Object", name := "<init>", desc := "()V" } : Jvm.MethodName) object_method_1_code (1 : Nat) (Option.none : Option Jvm.ClassFile.FieldType), Jvm.Cond.code ({ cls := "java/lang/StringUTF16", name := "compress", desc := "([CII)[B" } : Jvm.MethodName) jdk_52_method_16_code (6 : Nat) (Option.some (Jvm.ClassFile.FieldType.array Jvm.ClassFile.FieldType.byte)), Jvm.Cond.code ({ cls := "java/lang/StringUTF16", name := "compress", desc := "([CI[BII)I" } : Jvm.MethodName) jdk_52_method_21_code (7 : Nat) (Option.some Jvm.ClassFile.FieldType.int), Jvm.Cond.code ({ cls := "java/lang/StringUTF16", name := "coderFromArrayLen", desc := "([BI)B" } : Jvm.MethodName) jdk_52_method_15_code (2 : Nat) (Option.some Jvm.ClassFile.FieldType.byte), Jvm.Cond.code ({ cls := "com/example/ripen/ripen/DeadlineHeap", name := "<init>", desc := "()V" } : Jvm.MethodName) prog_1_method_1_code (1 : Nat) (Option.none : Option Jvm.ClassFile.FieldType), Jvm.Cond.code ({ cls := "com/example/ripen/ripen/DeadlineHeap", name := "<init>", desc := "(ZLcom/example/ripen/ripen/DeadlineHeap$SlotTracker;)V" } : Jvm.MethodName) prog_1_method_2_code (3 : Nat) (Option.none : Option Jvm.ClassFile.FieldType), Jvm.Cond.code ({ cls := "com/example/ripen/ripen/DeadlineHeap", name := "withFreeHandles", desc := "([II)[I" } : Jvm.MethodName) prog_1_method_25_code (4 : Nat) (Option.some (Jvm.ClassFile.FieldType.array Jvm.ClassFile.FieldType.int)), Jvm.Cond.code ({ cls := "java/util/Arrays", name := "copyOf", desc := "([II)[I" } : Jvm.MethodName) jdk_65_method_123_code (3 : Nat) (Option.some (Jvm.ClassFile.FieldType.array Jvm.ClassFile.FieldType.int)), Jvm.Cond.code ({ cls := "java/lang/Math", name := "min", desc := "(II)I" } : Jvm.MethodName) jdk_29_method_69_code (2 : Nat) (Option.some Jvm.ClassFile.FieldType.int), Jvm.Cond.code ({ cls := "com/example/ripen/ripen/DeadlineHeap", name := "toArray", desc := "()[Ljava/lang/Object;" } : Jvm.MethodName) prog_1_method_12_code (3 : Nat) (Option.some (Jvm.ClassFile.FieldType.array (Jvm.ClassFile.FieldType.object "java/lang/Object"))), Jvm.Cond.code ({ cls := "com/example/ripen/ripen/DeadlineHeapToArrayPinLaw", name := "slotOk", desc := "(Lcom/example/ripen/ripen/DeadlineHeap;[Ljava/lang/Object;II[Ljava/lang/Object;II)Z" } : Jvm.MethodName) method_3_code (9 : Nat) (Option.some Jvm.ClassFile.FieldType.boolean), Jvm.Cond.code ({ cls := "com/example/ripen/ripen/DeadlineHeap", name := "insert", desc := "(Ljava/lang/Object;J)Z" } : Jvm.MethodName) prog_1_method_8_code (8 : Nat) (Option.some Jvm.ClassFile.FieldType.boolean), Jvm.Cond.code ({ cls := "com/example/ripen/ripen/DeadlineHeap", name := "siftUp", desc := "(IJJ)I" } : Jvm.MethodName) prog_1_method_14_code (7 : Nat) (Option.some Jvm.ClassFile.FieldType.int), Jvm.Cond.code ({ cls := "com/example/ripen/ripen/DeadlineHeap", name := "place", desc := "(IJJI)V" } : Jvm.MethodName) prog_1_method_20_code (7 : Nat) (Option.none : Option Jvm.ClassFile.FieldType), Jvm.Cond.code ({ cls := "com/example/ripen/ripen/DeadlineHeap", name := "reportPlaced", desc := "(I)V" } : Jvm.MethodName) prog_1_method_22_code (2 : Nat) (Option.none : Option Jvm.ClassFile.FieldType), Jvm.Cond.code ({ cls := "com/example/ripen/ripen/DeadlineHeap", name := "sequenceAt", desc := "(I)J" } : Jvm.MethodName) prog_1_method_19_code (2 : Nat) (Option.some Jvm.ClassFile.FieldType.long), Jvm.Cond.code ({ cls := "com/example/ripen/ripen/DeadlineHeap", name := "before", desc := "(JJJJ)Z" } : Jvm.MethodName) prog_1_method_16_code (8 : Nat) (Option.some Jvm.ClassFile.FieldType.boolean), Jvm.Cond.code ({ cls := "com/example/ripen/ripen/DeadlineHeap", name := "moveTo", desc := "(II)V" } : Jvm.MethodName) prog_1_method_21_code (3 : Nat) (Option.none : Option Jvm.ClassFile.FieldType), Jvm.Cond.code ({ cls := "com/example/ripen/ripen/DeadlineHeap", name := "removeAt", desc := "(I)Ljava/lang/Object;" } : Jvm.MethodName) prog_1_method_9_code (11 : Nat) (Option.some (Jvm.ClassFile.FieldType.object "java/lang/Object")), Jvm.Cond.code ({ cls := "com/example/ripen/ripen/DeadlineHeap", name := "elementAt", desc := "(I)Ljava/lang/Object;" } : Jvm.MethodName) prog_1_method_6_code (2 : Nat) (Option.some (Jvm.ClassFile.FieldType.object "java/lang/Object")), Jvm.Cond.code ({ cls := "com/example/ripen/ripen/DeadlineHeap", name := "reportLeft", desc := "(Ljava/lang/Object;)V" } : Jvm.MethodName) prog_1_method_23_code (2 : Nat) (Option.none : Option Jvm.ClassFile.FieldType), Jvm.Cond.code ({ cls := "com/example/ripen/ripen/DeadlineHeapToArrayPinLaw", name := "find", desc := "(Ljava/lang/Object;[Ljava/lang/Object;I)I" } : Jvm.MethodName) method_5_code (3 : Nat) (Option.some Jvm.ClassFile.FieldType.int), Jvm.Cond.code ({ cls := "com/example/ripen/ripen/DeadlineHeapToArrayPinLaw", name := "minOk", desc := "([JIIII)Z" } : Jvm.MethodName) method_4_code (5 : Nat) (Option.some Jvm.ClassFile.FieldType.boolean), Jvm.Cond.code ({ cls := "com/example/ripen/ripen/DeadlineHeap", name := "siftDown", desc := "(IJJ)I" } : Jvm.MethodName) prog_1_method_15_code (9 : Nat) (Option.some Jvm.ClassFile.FieldType.int)]
set_option maxRecDepth 65536 in
theorem codes_eq : words1.filter isCode = codes1 := rfl
theorem w_codes : ∀ c ∈ words1.filter isCode, c.before args0 about1 = true := by
  rw [codes_eq]
  intro c hc
  simp only [codes1, List.mem_cons, List.not_mem_nil, or_false] at hc
  rcases hc with rfl | rfl | rfl | rfl | rfl | rfl | rfl | rfl | rfl | rfl | rfl | rfl | rfl | rfl | rfl | rfl | rfl | rfl | rfl | rfl | rfl | rfl | rfl | rfl | rfl | rfl | rfl
  · exact w_c0
  · exact w_c1
  · exact w_c2
  · exact w_c3
  · exact w_c4
  · exact w_c5
  · exact w_c6
  · exact w_c7
  · exact w_c8
  · exact w_c9
  · exact w_c10
  · exact w_c11
  · exact w_c12
  · exact w_c13
  · exact w_c14
  · exact w_c15
  · exact w_c16
  · exact w_c17
  · exact w_c18
  · exact w_c19
  · exact w_c20
  · exact w_c21
  · exact w_c22
  · exact w_c23
  · exact w_c24
  · exact w_c25
  · exact w_c26
set_option maxRecDepth 65536 in
theorem w_t1 : (words1.take 24).all (fun c => isCode c || c.before args0 about1) = true := by decide +kernel
set_option maxRecDepth 65536 in
theorem w_t2 : ((words1.drop 24).take 24).all (fun c => isCode c || c.before args0 about1) = true := by decide +kernel
set_option maxRecDepth 65536 in
theorem w_t3 : (((words1.drop 24).drop 24).take 24).all (fun c => isCode c || c.before args0 about1) = true := by decide +kernel
set_option maxRecDepth 65536 in
theorem w_t4 : ((((words1.drop 24).drop 24).drop 24).take 24).all (fun c => isCode c || c.before args0 about1) = true := by decide +kernel
set_option maxRecDepth 65536 in
theorem w_t5 : (((((words1.drop 24).drop 24).drop 24).drop 24).take 24).all (fun c => isCode c || c.before args0 about1) = true := by decide +kernel
set_option maxRecDepth 65536 in
theorem w_t6 : (((((words1.drop 24).drop 24).drop 24).drop 24).drop 24).all (fun c => isCode c || c.before args0 about1) = true := by decide +kernel
theorem w_tables : (allAtoms (Jvm.Cond.code x code maxLocals ret :: tables_1)).before args0 about1 = true := by
  rw [allAtoms_all]
  show words1.all (fun c => c.before args0 about1) = true
  refine all_split ?_ w_codes
  rw [← List.take_append_drop 24 words1, List.all_append, w_t1, ← List.take_append_drop 24 (words1.drop 24), List.all_append, w_t2, ← List.take_append_drop 24 ((words1.drop 24).drop 24), List.all_append, w_t3, ← List.take_append_drop 24 (((words1.drop 24).drop 24).drop 24), List.all_append, w_t4, ← List.take_append_drop 24 ((((words1.drop 24).drop 24).drop 24).drop 24), List.all_append, w_t5, w_t6]
  rfl
set_option maxRecDepth 65536 in
theorem w_rest : rest_1_c.before args0 about1 = true := by decide +kernel
set_option maxRecDepth 65536 in
theorem w_case : (Jvm.Cond.and given_1 narrow_1).before args0 about1 = true := by decide +kernel
theorem w_applies : (headSpec (Jvm.Cond.code x code maxLocals ret :: tables_1) room_1).applies x e0.platform about1 = true :=
  (Spec.applies_iff w_frames).mpr ⟨w_running, w_runnable, w_alone, w_named, w_hears, w_ripe, w_room, w_tables⟩
theorem atStart : AtStart classFile x code maxLocals ret World_1 tables_1 room_1 Calls_1 rest_1 Pre_1 launch0 p0 e0 about1 theMethod args0 below0 :=
  ⟨lists_1, trivial, launch0.admits_env _ _ _, launch0.least_env, fairChoices_fair.cas, fairChoices_fair.clock, w_frames, w_args, w_heap, w_applies, trivial, w_rest, w_case⟩
end start1
theorem witness_1 : WitnessClaimed_1 := ⟨start1.p0, start1.e0, start1.about1, start1.theMethod, start1.args0, start1.below0, start1.atStart⟩
end Jvm.Pilot.@@N@@
