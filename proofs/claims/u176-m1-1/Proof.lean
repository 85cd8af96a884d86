import JvmDerived
import JvmDerived.Pilot.@@N@@Statement
import JvmDerived.Pilot.@@N@@Code
set_option linter.unusedVariables false
set_option linter.unusedSimpArgs false
namespace Jvm.RoadKit
open Sem ClassFile Op Lib Jvm.Stand Jvm.Free Jvm.LawKit
section New
variable {p : Program} {l : Launch} {e : Env} {R : Room} {s : State} {m : MethodId} {args : Array Value} {below : List Frame} {meth : Method} {c : Code} {T : State} {locs : List Loc} {cells slots : Nat}
theorem retI (X : Stand p l e R s m args below meth c T locs cells slots) (hx : p.tables.exec = Jvm.exec) {pc : Nat} {Ls : Array Slot} {z : Int32} {rest : List Value} (hret : meth.sig.returnType = some .int) (hd : decode c.code pc = .ok (.ireturn, 1)) {fs : List Frame}
    (hl : ∀ (f : JFrame) (acts : List Action), f.method = m → f.locked = none → f.entered = [] → (doReturn e (T.setTop f) acts (some (.int z))).1 = T.setFrames fs) : Steps p.tables e below (T.setTop (mkF m pc Ls (.int z :: rest))) (T.setFrames fs) := by
  have hm' : T.vm.method? m = some meth := X.method'
  have hn : narrow .int (.int z) = .int z := rfl
  show Steps p.tables e below (T.setTop { method := m, pc := pc, locals := Ls, stack := _ :: rest, locked := none }) _
  jvm_step X.here [X.here.top, hx, hd, hm', hret, hn]
  first | (intro acts; rw [hl _ acts rfl rfl rfl]) | rw [hl _ _ rfl rfl rfl]
  exact Steps.refl _
end New
end Jvm.RoadKit
namespace Jvm.Pilot.@@N@@
open Jvm Jvm.ClassFile Sem Op Lib Jvm.Free Jvm.Stand Jvm.LawKit Jvm.RoadKit Bundle Jvm.Pilot.@@N@@.Jvm.D
section OwnLayer
variable {p : Program} {l : Launch} {e : Env} {R : Room} {s : State} {m : MethodId} {args : Array Value} {below : List Frame} {meth : Method} {c : Code} {Z : State} {a0 : Array Value} {EL : List (String × Nat)} {n0 : Nat} {kn wd : Bool} {own : String} {bytes : ByteArray} {ml : Nat} {ws : List Addr} {T : State} {h : Heap} {k n : Nat} {Φ : Outcome → State → Prop} {pc pc' : Nat} {Ls : Array Slot} {st rest : List Value}
theorem known_vm {vm0 : Vm} (hW : s.Warmed39 vm0) (q : s.vm.MethodsKnown ∧ s.vm.FramesKnown below) : vm0.MethodsKnown ∧ vm0.FramesKnown below := ⟨Vm.MethodsKnown.alikeC hW.alike q.1, Vm.FramesKnown.alikeC hW.alike q.2⟩
/-- where a walk stands: all that its steps ask -/
def Wk (p : Program) (l : Launch) (e : Env) (R : Room) (s : State) (m : MethodId) (args : Array Value) (below : List Frame) (meth : Method) (c : Code) (Z : State) (a0 : Array Value) (EL : List (String × Nat)) (n0 : Nat) (kn wd : Bool) (own : String) (bytes : ByteArray) (ml : Nat) (ws : List Addr) (T : State) (h : Heap) (k n : Nat) : Prop :=
  (p.tables.exec = Jvm.exec ∧ c.code = bytes ∧ c.maxLocals = ml ∧ Z.vm.findClass own = some m.cls ∧ EW Z a0 EL ∧ meth.locks = false ∧ (kn = true → s.vm.MethodsKnown ∧ s.vm.FramesKnown below)) ∧
  ∃ (vm0 : Vm) (k0 : Nat) (locs : List Loc), Stand p l e R (s.setVm vm0) m args below meth c T locs k n ∧ T.heap = h ∧ s.Since vm0 k0 ∧ k0 ≤ h.size ∧ Z.Warmed39 vm0 ∧ CHr Z EL s.vm s.heap vm0 h ∧ (∀ x ∈ ws, x < h.size ∧ Safe Z EL vm0 h x) ∧ Fr n0 locs ∧ (wd = false → s.WarmedH vm0) ∧ Old Z n0 h
/-- from this frame the method comes to its end, and Φ holds there -/
def Go (p : Program) (e : Env) (below : List Frame) (Φ : Outcome → State → Prop) (T : State) (f : JFrame) : Prop := ∃ s₂ o, Steps p.tables e below (T.setTop f) s₂ ∧ s₂.status = .running ∧ Ended s₂ below o ∧ Φ o s₂
/-- what a contract promises -/
def Po (s : State) (Z : State) (EL : List (String × Nat)) (n0 : Nat) (wd : Bool) (rc rs : Nat) (Q : Option Value → Heap → Prop) (o : Outcome) (t : State) : Prop :=
  ∃ v L, o = .returned v ∧ Q v t.heap ∧ Fr n0 L ∧ CHr Z EL s.vm s.heap t.vm t.heap ∧ (wd = false → s.WarmedH t.vm) ∧ Old Z n0 t.heap ∧ ReturnedEndW s o t L rc rs
/-- a contract: the method y, called with these arguments at this heap -/
def Ct (l : Launch) (Z : State) (a0 : Array Value) (EL : List (String × Nat)) (n0 : Nat) (kn wd : Bool) (y : MethodName) (bytes : ByteArray) (ml : Nat) (ret : Option FieldType) (cs : List Jvm.Cond) (rm : Room) (ws : List Addr) (as' : Array Value) (h : Heap) (Q : Option Value → Heap → Prop) : Prop :=
  MetFree l y (head1 (Jvm.Cond.code y bytes ml ret :: cs) rm) (fun a U => a = as' ∧ Z.Warmed39 U.vm ∧ U.heap = h ∧ CHv Z EL U.vm h ∧ Old Z n0 h ∧ ∀ x ∈ ws, x < h.size ∧ Safe Z EL U.vm h x) (fun _ _ bl s _ => kn = true → s.vm.MethodsKnown ∧ s.vm.FramesKnown bl) (fun _ U o U' => Po U Z EL n0 wd rm.cells rm.slots Q o U')
theorem Go.back {f f' : JFrame} {T' : State} (hs : ∀ t, Steps p.tables e below (T'.setTop f') t → Steps p.tables e below (T.setTop f) t) (G : Go p e below Φ T' f') : Go p e below Φ T f := by
  obtain ⟨s₂, o, h1, h2⟩ := G
  exact ⟨s₂, o, hs _ h1, h2⟩
/-- a plain step -/
theorem g1 {f f' : JFrame} (W : Wk p l e R s m args below meth c Z a0 EL n0 kn wd own bytes ml ws T h k n) (hs : ∀ t, At T m c below → p.tables.exec = Jvm.exec → c.code = bytes → Steps p.tables e below (T.setTop f') t → Steps p.tables e below (T.setTop f) t) (G : Go p e below Φ T f') : Go p e below Φ T f := by
  obtain ⟨⟨hx, hb, -⟩, vm0, k0, locs, X, -⟩ := W
  exact G.back fun t => hs t X.here hx hb
/-- a step that reads the heap -/
theorem g2 {f f' : JFrame} (W : Wk p l e R s m args below meth c Z a0 EL n0 kn wd own bytes ml ws T h k n) (hs : ∀ (vm0 : Vm) (locs : List Loc), Stand p l e R (s.setVm vm0) m args below meth c T locs k n → p.tables.exec = Jvm.exec → c.code = bytes → Z.Warmed39 vm0 → T.heap = h → vm0.findClass own = some m.cls → ∀ t, Steps p.tables e below (T.setTop f') t → Steps p.tables e below (T.setTop f) t) (G : Go p e below Φ T f') : Go p e below Φ T f := by
  obtain ⟨⟨hx, hb, -, hO, -⟩, vm0, k0, locs, X, eT, -, -, hZ, -⟩ := W
  exact G.back (hs vm0 locs X hx hb hZ eT ((hZ.alike.findClass own _).trans hO))
/-- a step after which the state is another, the heap the same -/
theorem g3 {f f' : JFrame} (W : Wk p l e R s m args below meth c Z a0 EL n0 kn wd own bytes ml ws T h k n) (hs : ∀ (vm0 : Vm) (locs : List Loc), Stand p l e R (s.setVm vm0) m args below meth c T locs k n → p.tables.exec = Jvm.exec → c.code = bytes → c.maxLocals = ml → Z.Warmed39 vm0 → T.heap = h → vm0.findClass own = some m.cls → ∃ T', Stand p l e R (s.setVm vm0) m args below meth c T' locs k n ∧ T'.heap = h ∧ ∀ t, Steps p.tables e below (T'.setTop f') t → Steps p.tables e below (T.setTop f) t)
    (G : ∀ T', Wk p l e R s m args below meth c Z a0 EL n0 kn wd own bytes ml ws T' h k n → Go p e below Φ T' f') : Go p e below Φ T f := by
  obtain ⟨⟨hx, hb, hml, hO, hrest⟩, vm0, k0, locs, X, eT, hS, hk, hZ, hr⟩ := W
  obtain ⟨T', X', e', q⟩ := hs vm0 locs X hx hb hml hZ eT ((hZ.alike.findClass own _).trans hO)
  exact (G T' ⟨⟨hx, hb, hml, hO, hrest⟩, vm0, k0, locs, X', e', hS, hk, hZ, hr⟩).back q
/-- the object may be written: it is no booked constant's -/
def Sf (Z : State) (EL : List (String × Nat)) (ws : List Addr) (h : Heap) (a : Addr) : Prop := a ∈ ws ∨ EL = [] ∨ (∃ C, Exa Z h a C ∧ C ≠ "java/lang/String" ∧ C ≠ "[B") ∨ (∃ cl ty, Arr Z h a cl ty ∧ ty ≠ .byte)
theorem Sf.safe {a : Addr} {vm0 : Vm} (hZ : Z.Warmed39 vm0) (hs : ∀ x ∈ ws, x < h.size ∧ Safe Z EL vm0 h x) (q : Sf Z EL ws h a) : Safe Z EL vm0 h a := by
  rcases q with q | rfl | ⟨C, E, h1, h2⟩ | ⟨cl, ty, A, ht⟩
  · exact (hs a q).2
  · intro B
    obtain ⟨p, hp, -⟩ := B
    cases hp
  · exact Safe.exa hZ.alike E h1 h2
  · exact Safe.arr hZ.alike A ht
/-- a step that writes one place -/
theorem g4 {f f' : JFrame} {a : Addr} {sl : Nat} {v : Value} (W : Wk p l e R s m args below meth c Z a0 EL n0 kn wd own bytes ml ws T h k n) (hn : n0 ≤ a) (hsf : Sf Z EL ws h a)
    (hs : ∀ (vm0 : Vm) (locs : List Loc), Stand p l e R (s.setVm vm0) m args below meth c T locs k n → p.tables.exec = Jvm.exec → c.code = bytes → Z.Warmed39 vm0 → T.heap = h → vm0.findClass own = some m.cls → ∃ T' h', Stand p l e R (s.setVm vm0) m args below meth c T' (locs ++ [⟨a, sl⟩]) k n ∧ T'.heap = h' ∧ Wr h h' a sl v ∧ ∀ t, Steps p.tables e below (T'.setTop f') t → Steps p.tables e below (T.setTop f) t)
    (G : ∀ T' h', Wk p l e R s m args below meth c Z a0 EL n0 kn wd own bytes ml ws T' h' k n → Wr h h' a sl v → Go p e below Φ T' f') : Go p e below Φ T f := by
  obtain ⟨⟨hx, hb, hml, hO, hrest⟩, vm0, k0, locs, X, eT, hS, hk, hZ, hC, hws, hF, hwd, hOl⟩ := W
  obtain ⟨T', h', X', e', Wr', q⟩ := hs vm0 locs X hx hb hZ eT ((hZ.alike.findClass own _).trans hO)
  have sa := hsf.safe hZ hws
  exact (G T' h' ⟨⟨hx, hb, hml, hO, hrest⟩, vm0, k0, _, X', e', hS, by rw [Wr'.size]; exact hk, hZ, hC.trans (CHr.wr Wr' sa hC.1), fun x hx' => ⟨by rw [Wr'.size]; exact (hws x hx').1, Safe.wr Wr' sa hC.1 (hws x hx').2⟩, Fr.snoc X' hF hn, hwd, hOl.wr Wr' hn⟩ Wr').back q
/-- a step that makes one cell -/
theorem g5 {f : JFrame} {f' : Addr → JFrame} {nc : Nat} {P : Heap → Addr → Prop} (W : Wk p l e R s m args below meth c Z a0 EL n0 kn wd own bytes ml ws T h k n) (hlt : ∀ h', P h' h.size → h.size < h'.size)
    (hs : ∀ (vm0 : Vm) (locs : List Loc), Stand p l e R (s.setVm vm0) m args below meth c T locs k n → p.tables.exec = Jvm.exec → c.code = bytes → Z.Warmed39 vm0 → T.heap = h → vm0.findClass own = some m.cls → ∃ T' h', Stand p l e R (s.setVm vm0) m args below meth c T' locs (k + 1) (n + nc) ∧ T'.heap = h' ∧ Ext h h' ∧ P h' h.size ∧ ∀ t, Steps p.tables e below (T'.setTop (f' h.size)) t → Steps p.tables e below (T.setTop f) t)
    (G : ∀ T' h' a, a = h.size → Wk p l e R s m args below meth c Z a0 EL n0 kn wd own bytes ml (a :: ws) T' h' (k + 1) (n + nc) → Ext h h' → P h' a → Go p e below Φ T' (f' a)) : Go p e below Φ T f := by
  obtain ⟨⟨hx, hb, hml, hO, hrest⟩, vm0, k0, locs, X, eT, hS, hk, hZ, hC, hws, hF, hwd, hOl⟩ := W
  obtain ⟨T', h', X', e', E, P', q⟩ := hs vm0 locs X hx hb hZ eT ((hZ.alike.findClass own _).trans hO)
  refine (G T' h' h.size rfl ⟨⟨hx, hb, hml, hO, hrest⟩, vm0, k0, _, X', e', hS, Nat.le_trans hk E.1, hZ, hC.trans (CHr.ext E hC.1), fun x hx' => ?_, hF, hwd, hOl.ext E⟩ E P').back q
  rcases List.mem_cons.mp hx' with rfl | hx'
  · exact ⟨hlt h' P', Safe.ext E hC.1 (Safe.new (Nat.le_refl _))⟩
  · exact ⟨Nat.lt_of_lt_of_le (hws x hx').1 E.1, Safe.ext E hC.1 (hws x hx').2⟩
theorem Wk.size0 (W : Wk p l e R s m args below meth c Z a0 EL n0 kn wd own bytes ml ws T h k n) : s.heap.size ≤ h.size := by
  obtain ⟨-, vm0, k0, locs, X, eT, hS, hk, hZ, hC, -⟩ := W
  exact hC.2.1
theorem Wk.old (W : Wk p l e R s m args below meth c Z a0 EL n0 kn wd own bytes ml ws T h k n) : Old Z n0 h := by
  obtain ⟨-, vm0, k0, locs, X, eT, hS, hk, hZ, hC, hws, hF, hwd, hOl⟩ := W
  exact hOl
theorem Wk.lt {a : Addr} (W : Wk p l e R s m args below meth c Z a0 EL n0 kn wd own bytes ml ws T h k n) (q : a ∈ ws) : a < h.size := by
  obtain ⟨-, vm0, k0, locs, X, eT, hS, hk, hZ, hC, hws, -⟩ := W
  exact (hws a q).1
theorem Wk.n0le (W : Wk p l e R s m args below meth c Z a0 EL n0 kn wd own bytes ml ws T h k n) : n0 ≤ h.size := W.old.1 ▸ W.old.2.1
theorem Wk.less {ws' : List Addr} (W : Wk p l e R s m args below meth c Z a0 EL n0 kn wd own bytes ml ws T h k n) (hq : ∀ x ∈ ws', x ∈ ws) : Wk p l e R s m args below meth c Z a0 EL n0 kn wd own bytes ml ws' T h k n := by
  obtain ⟨h1, vm0, k0, locs, X, eT, hS, hk, hZ, hC, hws, hF, hwd⟩ := W
  exact ⟨h1, vm0, k0, locs, X, eT, hS, hk, hZ, hC, fun x hx => hws x (hq x hx), hF, hwd⟩
theorem Wk.up {k' n' : Nat} (W : Wk p l e R s m args below meth c Z a0 EL n0 kn wd own bytes ml ws T h k n) (hk' : k ≤ k') (hn' : n ≤ n') : Wk p l e R s m args below meth c Z a0 EL n0 kn wd own bytes ml ws T h k' n' := by
  obtain ⟨h1, vm0, k0, locs, X, r⟩ := W
  exact ⟨h1, vm0, k0, locs, X.more hk' hn', r⟩
/-- getfield -/
theorem gGetF {R0 O nm d host : String} {index : Nat} {a : Addr} {v : Value} (W : Wk p l e R s m args below meth c Z a0 EL n0 kn wd own bytes ml ws T h k n) (w : (Jvm.Cond.fieldLink own index R0 nm d).before a0 Z = true ∨ (Jvm.Cond.fieldLinkNest own index R0 nm d host).before a0 Z = true) (via : Via Z R0 O nm d) (F : Fld Z h a O nm d v)
    (hd : decode bytes pc = .ok (.getfield index, 3)) (hp : pc + 3 = pc') (G : ∀ T', Wk p l e R s m args below meth c Z a0 EL n0 kn wd own bytes ml ws T' h k n → Go p e below Φ T' (mkF m pc' Ls (v :: rest))) : Go p e below Φ T (mkF m pc Ls (.ref a :: rest)) := by
  subst hp
  exact g3 W (fun vm0 locs X hx hb' _ hZ eT hO => getF X hx hZ hO w via eT F (g := mkF m pc Ls (.ref a :: rest)) rfl rfl (hb hb' hd)) G
/-- getstatic -/
theorem gGetS {R0 O nm d host : String} {index : Nat} {v : Value} (W : Wk p l e R s m args below meth c Z a0 EL n0 kn wd own bytes ml ws T h k n) (w : (Jvm.Cond.fieldLink own index R0 nm d).before a0 Z = true ∨ (Jvm.Cond.fieldLinkNest own index R0 nm d host).before a0 Z = true) (via : Via Z R0 O nm d) (F : Sta Z h O nm d v)
    (hd : decode bytes pc = .ok (.getstatic index, 3)) (hp : pc + 3 = pc') (G : ∀ T', Wk p l e R s m args below meth c Z a0 EL n0 kn wd own bytes ml ws T' h k n → Go p e below Φ T' (mkF m pc' Ls (v :: st))) : Go p e below Φ T (mkF m pc Ls st) := by
  subst hp
  exact g3 W (fun vm0 locs X hx hb' _ hZ eT hO => getS2 X hx hZ hO w via eT F (g := mkF m pc Ls st) rfl (hb hb' hd)) G
/-- checkcast of an object -/
theorem gCast {K : String} {index : Nat} {a : Addr} (W : Wk p l e R s m args below meth c Z a0 EL n0 kn wd own bytes ml ws T h k n) (w : (Jvm.Cond.classLink own index K).before a0 Z = true) (F : Ins Z h a K true)
    (hd : decode bytes pc = .ok (.checkcast index, 3)) (hp : pc + 3 = pc') (G : ∀ T', Wk p l e R s m args below meth c Z a0 EL n0 kn wd own bytes ml ws T' h k n → Go p e below Φ T' (mkF m pc' Ls (.ref a :: rest))) : Go p e below Φ T (mkF m pc Ls (.ref a :: rest)) := by
  subst hp
  exact g3 W (fun vm0 locs X hx hb' _ hZ eT hO => castY X hx hZ hO w eT F (g := mkF m pc Ls (.ref a :: rest)) rfl rfl (hb hb' hd)) G
/-- instanceof, yes -/
theorem gInsY {K : String} {index : Nat} {a : Addr} (W : Wk p l e R s m args below meth c Z a0 EL n0 kn wd own bytes ml ws T h k n) (w : (Jvm.Cond.classLink own index K).before a0 Z = true) (F : Ins Z h a K true)
    (hd : decode bytes pc = .ok (.instanceof index, 3)) (hp : pc + 3 = pc') (G : ∀ T', Wk p l e R s m args below meth c Z a0 EL n0 kn wd own bytes ml ws T' h k n → Go p e below Φ T' (mkF m pc' Ls (.int 1 :: rest))) : Go p e below Φ T (mkF m pc Ls (.ref a :: rest)) := by
  subst hp
  exact g3 W (fun vm0 locs X hx hb' _ hZ eT hO => instY X hx hZ hO w eT F (g := mkF m pc Ls (.ref a :: rest)) rfl rfl (hb hb' hd)) G
/-- putfield -/
theorem gPutF {R0 O nm d host C : String} {index kk : Nat} {ty : FieldType} {a : Addr} {v old : Value} (W : Wk p l e R s m args below meth c Z a0 EL n0 kn wd own bytes ml ws T h k n) (hn : n0 ≤ a) (hsf : Sf Z EL ws h a) (w : (Jvm.Cond.fieldLink own index R0 nm d).before a0 Z = true ∨ (Jvm.Cond.fieldLinkNest own index R0 nm d host).before a0 Z = true) (via : Via Z R0 O nm d) (F : Fld Z h a O nm d old) (E : Exa Z h a C)
    (L : (Jvm.Cond.lays C O nm d).before a0 Z = true ∨ ((Jvm.Cond.laysFinal C O nm d).before a0 Z = true ∧ own = O ∧ meth.name = "<init>")) (wi : (Jvm.Cond.instantiable C kk).before a0 Z = true) (hty : parseFieldDescriptor d = some ty) (hnr : narrow ty v = v) (hf : fits ty v = true)
    (hd : decode bytes pc = .ok (.putfield index, 3)) (hp : pc + 3 = pc') (G : ∀ T' h', Wk p l e R s m args below meth c Z a0 EL n0 kn wd own bytes ml ws T' h' k n → Wr h h' a (Jvm.RoadKit.slotOf Z O nm d) v → Go p e below Φ T' (mkF m pc' Ls rest)) : Go p e below Φ T (mkF m pc Ls (v :: .ref a :: rest)) := by
  subst hp
  exact g4 W hn hsf (fun vm0 locs X hx hb' hZ eT hO => putF X hx hZ hO w via eT F E L wi hty hnr hf (g := mkF m pc Ls (v :: .ref a :: rest)) rfl rfl (hb hb' hd)) G
theorem gPutFN {R0 O nm d C : String} {index kk : Nat} {ty : FieldType} {a : Addr} {v v' old : Value} (W : Wk p l e R s m args below meth c Z a0 EL n0 kn wd own bytes ml ws T h k n) (hn : n0 ≤ a) (hsf : Sf Z EL ws h a) (w : (Jvm.Cond.fieldLink own index R0 nm d).before a0 Z = true) (via : Via Z R0 O nm d) (F : Fld Z h a O nm d old) (E : Exa Z h a C)
    (L : (Jvm.Cond.lays C O nm d).before a0 Z = true ∨ ((Jvm.Cond.laysFinal C O nm d).before a0 Z = true ∧ own = O ∧ meth.name = "<init>")) (wi : (Jvm.Cond.instantiable C kk).before a0 Z = true) (hty : parseFieldDescriptor d = some ty) (hnr : narrow ty v = v') (hf : fits ty v' = true)
    (hd : decode bytes pc = .ok (.putfield index, 3)) (hp : pc + 3 = pc') (G : ∀ T' h', Wk p l e R s m args below meth c Z a0 EL n0 kn wd own bytes ml ws T' h' k n → Wr h h' a (Jvm.RoadKit.slotOf Z O nm d) v' → Go p e below Φ T' (mkF m pc' Ls rest)) : Go p e below Φ T (mkF m pc Ls (v :: .ref a :: rest)) := by
  subst hp
  exact g4 W hn hsf (fun vm0 locs X hx hb' hZ eT hO => putFN X hx hZ hO w via eT F E L wi hty hnr hf (g := mkF m pc Ls (v :: .ref a :: rest)) rfl rfl (hb hb' hd)) G
/-- new -/
theorem gNew {C : String} {index nc : Nat} (W : Wk p l e R s m args below meth c Z a0 EL n0 kn wd own bytes ml ws T h k n) (w : (Jvm.Cond.classLink own index C).before a0 Z = true) (wi : (Jvm.Cond.instantiable C nc).before a0 Z = true) (wz : (Jvm.Cond.initialized C).before a0 Z = true)
    (hd : decode bytes pc = .ok (.new index, 3)) (hp : pc + 3 = pc') (hc : k + 1 ≤ R.cells) (hl : n + nc ≤ R.slots)
    (G : ∀ T' h' a, a = h.size → Wk p l e R s m args below meth c Z a0 EL n0 kn wd own bytes ml (a :: ws) T' h' (k + 1) (n + nc) → Ext h h' → (Exa Z h' a C ∧ (∀ {O nm d : String} {ty : FieldType}, Laid Z a0 C O nm d → parseFieldDescriptor d = some ty → Fld Z h' a O nm d (defaultValue ty)) ∧ Unt h' a) → Go p e below Φ T' (mkF m pc' Ls (.ref a :: st))) : Go p e below Φ T (mkF m pc Ls st) := by
  subst hp
  refine g5 W (f' := fun a => mkF m (pc + 3) Ls (.ref a :: st)) (P := fun h' a => Exa Z h' a C ∧ (∀ {O nm d : String} {ty : FieldType}, Laid Z a0 C O nm d → parseFieldDescriptor d = some ty → Fld Z h' a O nm d (defaultValue ty)) ∧ Unt h' a) (fun h' q => q.1.lt) (fun vm0 locs X hx hb' hZ eT hO => ?_) G
  obtain ⟨T', h', X', e', E, A, D, U, q⟩ := newO X hx hZ hO w wi wz eT (g := mkF m pc Ls st) rfl (hb hb' hd) hc hl
  exact ⟨T', h', X', e', E, ⟨A, D, U⟩, q⟩
/-- newarray -/
theorem gNewP {aty : ArrayType} {z : Int32} {cap : Nat} {ad : String} (W : Wk p l e R s m args below meth c Z a0 EL n0 kn wd own bytes ml ws T h k n) (w : (Jvm.Cond.arrayClass (newarray.typeOf aty)).before a0 Z = true) (had : "[" ++ (newarray.typeOf aty).toString = ad)
    (hd : decode bytes pc = .ok (.newarray aty, 2)) (hp : pc + 2 = pc') (hz : ¬ z < 0) (hcap : z.toNatClampNeg ≤ cap) (hb8 : cap * 8 ≤ 536870912) (hc : k + 1 ≤ R.cells) (hl : n + cap ≤ R.slots)
    (G : ∀ T' h' a, a = h.size → Wk p l e R s m args below meth c Z a0 EL n0 kn wd own bytes ml (a :: ws) T' h' (k + 1) (n + cap) → Ext h h' → (∃ kA, Arv Z h' a kA (newarray.typeOf aty) z [] (defaultValue (newarray.typeOf aty)) ∧ Exa Z h' a ad) → Go p e below Φ T' (mkF m pc' Ls (.ref a :: rest))) : Go p e below Φ T (mkF m pc Ls (.int z :: rest)) := by
  subst hp
  refine g5 W (f' := fun a => mkF m (pc + 2) Ls (.ref a :: rest)) (P := fun h' a => ∃ kA, Arv Z h' a kA (newarray.typeOf aty) z [] (defaultValue (newarray.typeOf aty)) ∧ Exa Z h' a ad) (fun h' q => by obtain ⟨_, q, -⟩ := q; exact q.lt) (fun vm0 locs X hx hb' hZ eT hO => ?_) G
  obtain ⟨T', h', cA, X', e', E, A, D, q⟩ := newPE X hx hZ w eT (g := mkF m pc Ls (.int z :: rest)) rfl (hb hb' hd) rfl hz hcap hb8 hc hl had
  exact ⟨T', h', X', e', E, ⟨cA, Arv.new A hz, D⟩, q⟩
/-- anewarray -/
theorem gNewR {C : String} {index : Nat} {z : Int32} {cap : Nat} {ad : String} (W : Wk p l e R s m args below meth c Z a0 EL n0 kn wd own bytes ml ws T h k n) (w1 : (Jvm.Cond.classLink own index C).before a0 Z = true) (w2 : (Jvm.Cond.arrayOver (.object C)).before a0 Z = true) (had : "[" ++ (FieldType.object C).toString = ad)
    (hd : decode bytes pc = .ok (.anewarray index, 3)) (hp : pc + 3 = pc') (hz : ¬ z < 0) (hcap : z.toNatClampNeg ≤ cap) (hb8 : cap * 8 ≤ 536870912) (hc : k + 1 ≤ R.cells) (hl : n + cap ≤ R.slots)
    (G : ∀ T' h' a, a = h.size → Wk p l e R s m args below meth c Z a0 EL n0 kn wd own bytes ml (a :: ws) T' h' (k + 1) (n + cap) → Ext h h' → (∃ kA, Arv Z h' a kA (.object C) z [] .null ∧ Exa Z h' a ad ∧ Ovr Z kA C) → Go p e below Φ T' (mkF m pc' Ls (.ref a :: rest))) : Go p e below Φ T (mkF m pc Ls (.int z :: rest)) := by
  subst hp
  refine g5 W (f' := fun a => mkF m (pc + 3) Ls (.ref a :: rest)) (P := fun h' a => ∃ kA, Arv Z h' a kA (.object C) z [] .null ∧ Exa Z h' a ad ∧ Ovr Z kA C) (fun h' q => by obtain ⟨_, q, -⟩ := q; exact q.lt) (fun vm0 locs X hx hb' hZ eT hO => ?_) G
  obtain ⟨T', h', cA, X', e', E, A, D, O, q⟩ := newRE X hx hZ hO w1 w2 eT (g := mkF m pc Ls (.int z :: rest)) rfl (hb hb' hd) rfl hz hcap hb8 hc hl had
  exact ⟨T', h', X', e', E, ⟨cA, Arv.new A hz, D, O⟩, q⟩
/-- Object.<init> -/
theorem gInitO {index : Nat} {a : Addr} {wt : Nat} (W : Wk p l e R s m args below meth c Z a0 EL n0 kn wd own bytes ml ws T h k n) (w1 : (Jvm.Cond.methodLink own index Lib.objectInit).before a0 Z = true) (w2 : (Jvm.Cond.instanceMethod Lib.objectInit).before a0 Z = true) (w3 : (Jvm.Cond.code Lib.objectInit ⟨#[0xb1]⟩ 1 none).before a0 Z = true)
    (hd : decode bytes pc = .ok (.invokespecial index, 3)) (hp : pc + 3 = pc') (hsz : Ls.size = ml) (hf : 1 ≤ R.frames) (hW : (rest.map fun v => v.category).sum ≤ wt) (hl : wt + 12 ≤ R.locals)
    (G : ∀ T', Wk p l e R s m args below meth c Z a0 EL n0 kn wd own bytes ml ws T' h k n → Go p e below Φ T' (mkF m pc' Ls rest)) : Go p e below Φ T (mkF m pc Ls (.ref a :: rest)) := by
  subst hp
  exact g3 W (fun vm0 locs X hx hb' hml hZ eT hO => initO X hx hZ hO w1 w2 w3 eT (g := mkF m pc Ls (.ref a :: rest)) rfl (hsz.trans hml.symm) rfl (hb hb' hd) hf (W := wt) (by simpa using hW) hl) G
/-- a store into an array -/
theorem gStC {a : Addr} {kA : ClassId} {z j x : Int32} {vs : List Value} {dv : Value} (W : Wk p l e R s m args below meth c Z a0 EL n0 kn wd own bytes ml ws T h k n) (hn : n0 ≤ a) (A : Arv Z h a kA .char z vs dv) (hj : ¬ j < 0 ∧ j < z) {i : Nat} (hi : j.toNatClampNeg = i) (hv : i < vs.length)
    (hd : decode bytes pc = .ok (.castore, 1)) (hp : pc + 1 = pc') (G : ∀ T' h', Wk p l e R s m args below meth c Z a0 EL n0 kn wd own bytes ml ws T' h' k n → Keep h h' [a] → Arv Z h' a kA .char z (vs.set i (.int (nar .char x))) dv → Go p e below Φ T' (mkF m pc' Ls rest)) : Go p e below Φ T (mkF m pc Ls (.int x :: .int j :: .ref a :: rest)) := by
  subst hp
  obtain ⟨cl, Ar, q1, S, q3, H, Gf⟩ := A
  exact g4 W hn (Or.inr (Or.inr (Or.inr ⟨cl, .char, Ar, by decide⟩))) (fun vm0 locs X hx hb' hZ eT hO => stC X hx hZ eT Ar (j := j) (x := x) (inb_of S hj) (g := mkF m pc Ls (.int x :: .int j :: .ref a :: rest)) rfl rfl (hb hb' hd))
    (fun T' h' W' w => G T' h' W' (Keep.of_wr w) (Arv.set Ar q1 S q3 H Gf (fits_nar_char x) w i hi hv))
theorem gStB {a : Addr} {kA : ClassId} {z j x : Int32} {vs : List Value} {dv : Value} (W : Wk p l e R s m args below meth c Z a0 EL n0 kn wd own bytes ml ws T h k n) (hn : n0 ≤ a) (hsf : a ∈ ws) (A : Arv Z h a kA .byte z vs dv) (hj : ¬ j < 0 ∧ j < z) {i : Nat} (hi : j.toNatClampNeg = i) (hv : i < vs.length)
    (hd : decode bytes pc = .ok (.bastore, 1)) (hp : pc + 1 = pc') (G : ∀ T' h', Wk p l e R s m args below meth c Z a0 EL n0 kn wd own bytes ml ws T' h' k n → Keep h h' [a] → Arv Z h' a kA .byte z (vs.set i (.int x.toInt8.toInt32)) dv → Go p e below Φ T' (mkF m pc' Ls rest)) : Go p e below Φ T (mkF m pc Ls (.int x :: .int j :: .ref a :: rest)) := by
  subst hp
  obtain ⟨cl, Ar, q1, S, q3, H, Gf⟩ := A
  exact g4 W hn (Or.inl hsf) (fun vm0 locs X hx hb' hZ eT hO => stB X hx hZ eT Ar (j := j) (x := x) (inb_of S hj) (g := mkF m pc Ls (.int x :: .int j :: .ref a :: rest)) rfl rfl (hb hb' hd))
    (fun T' h' W' w => G T' h' W' (Keep.of_wr w) (Arv.set Ar q1 S q3 H Gf (fits_nar_byte x) w i hi hv))
theorem gStI {a : Addr} {kA : ClassId} {z j x : Int32} {vs : List Value} {dv : Value} (W : Wk p l e R s m args below meth c Z a0 EL n0 kn wd own bytes ml ws T h k n) (hn : n0 ≤ a) (A : Arv Z h a kA .int z vs dv) (hj : ¬ j < 0 ∧ j < z) {i : Nat} (hi : j.toNatClampNeg = i) (hv : i < vs.length)
    (hd : decode bytes pc = .ok (.iastore, 1)) (hp : pc + 1 = pc') (G : ∀ T' h', Wk p l e R s m args below meth c Z a0 EL n0 kn wd own bytes ml ws T' h' k n → Keep h h' [a] → Arv Z h' a kA .int z (vs.set i (.int x)) dv → Go p e below Φ T' (mkF m pc' Ls rest)) : Go p e below Φ T (mkF m pc Ls (.int x :: .int j :: .ref a :: rest)) := by
  subst hp
  obtain ⟨cl, Ar, q1, S, q3, H, Gf⟩ := A
  exact g4 W hn (Or.inr (Or.inr (Or.inr ⟨cl, .int, Ar, by decide⟩))) (fun vm0 locs X hx hb' hZ eT hO => stI X hx hZ eT Ar (j := j) (x := x) (inb_of S hj) (g := mkF m pc Ls (.int x :: .int j :: .ref a :: rest)) rfl rfl (hb hb' hd))
    (fun T' h' W' w => G T' h' W' (Keep.of_wr w) (Arv.set Ar q1 S q3 H Gf rfl w i hi hv))
theorem gStJ {a : Addr} {kA : ClassId} {z j : Int32} {x : Int64} {vs : List Value} {dv : Value} (W : Wk p l e R s m args below meth c Z a0 EL n0 kn wd own bytes ml ws T h k n) (hn : n0 ≤ a) (A : Arv Z h a kA .long z vs dv) (hj : ¬ j < 0 ∧ j < z) {i : Nat} (hi : j.toNatClampNeg = i) (hv : i < vs.length)
    (hd : decode bytes pc = .ok (.lastore, 1)) (hp : pc + 1 = pc') (G : ∀ T' h', Wk p l e R s m args below meth c Z a0 EL n0 kn wd own bytes ml ws T' h' k n → Keep h h' [a] → Arv Z h' a kA .long z (vs.set i (.long x)) dv → Go p e below Φ T' (mkF m pc' Ls rest)) : Go p e below Φ T (mkF m pc Ls (.long x :: .int j :: .ref a :: rest)) := by
  subst hp
  obtain ⟨cl, Ar, q1, S, q3, H, Gf⟩ := A
  exact g4 W hn (Or.inr (Or.inr (Or.inr ⟨cl, .long, Ar, by decide⟩))) (fun vm0 locs X hx hb' hZ eT hO => stJ X hx hZ eT Ar (j := j) (x := x) (inb_of S hj) (g := mkF m pc Ls (.long x :: .int j :: .ref a :: rest)) rfl rfl (hb hb' hd))
    (fun T' h' W' w => G T' h' W' (Keep.of_wr w) (Arv.set Ar q1 S q3 H Gf rfl w i hi hv))
/-- what an array holds at a place -/
theorem Arv.look {a : Addr} {kA : ClassId} {ty : FieldType} {z j : Int32} {vs : List Value} {dv v : Value} (A : Arv Z h a kA ty z vs dv) (hj : ¬ j < 0 ∧ j < z) (hv : vs.getD j.toNatClampNeg dv = v) : ∃ cl : Cell, Arr Z h a cl ty ∧ ¬ (j < 0 ∨ cl.slots.size ≤ j.toNatClampNeg) ∧ cl.slots[j.toNatClampNeg]? = some v := by
  obtain ⟨cl, Ar, q1, S, q3, H, Gf⟩ := A
  exact ⟨cl, Ar, inb_of S hj, H.at (inb_of S hj) hv⟩
theorem gLdC {a : Addr} {kA : ClassId} {z j : Int32} {vs : List Value} {dv v : Value} (W : Wk p l e R s m args below meth c Z a0 EL n0 kn wd own bytes ml ws T h k n) (A : Arv Z h a kA .char z vs dv) (hj : ¬ j < 0 ∧ j < z) (hv : vs.getD j.toNatClampNeg dv = v)
    (hd : decode bytes pc = .ok (.caload, 1)) (hp : pc + 1 = pc') (G : Go p e below Φ T (mkF m pc' Ls (v :: rest))) : Go p e below Φ T (mkF m pc Ls (.int j :: .ref a :: rest)) := by
  subst hp
  obtain ⟨cl, Ar, i1, i2⟩ := Arv.look A hj hv
  exact g2 W (fun vm0 locs X hx hb' hZ eT hO t q => X.caload hx (by rw [eT]; exact Ar.1) (State.isArrayOf_alike hZ.alike Ar.2.1) Ar.2.2 i1 i2 (g := mkF m pc Ls (.int j :: .ref a :: rest)) rfl rfl (hb hb' hd) t q) G
theorem gLdB {a : Addr} {kA : ClassId} {z j : Int32} {vs : List Value} {dv v : Value} (W : Wk p l e R s m args below meth c Z a0 EL n0 kn wd own bytes ml ws T h k n) (A : Arv Z h a kA .byte z vs dv) (hj : ¬ j < 0 ∧ j < z) (hv : vs.getD j.toNatClampNeg dv = v)
    (hd : decode bytes pc = .ok (.baload, 1)) (hp : pc + 1 = pc') (G : Go p e below Φ T (mkF m pc' Ls (v :: rest))) : Go p e below Φ T (mkF m pc Ls (.int j :: .ref a :: rest)) := by
  subst hp
  obtain ⟨cl, Ar, i1, i2⟩ := Arv.look A hj hv
  exact g2 W (fun vm0 locs X hx hb' hZ eT hO t q => X.baloadBytes hx (by rw [eT]; exact Ar.1) (State.isArrayOf_alike hZ.alike Ar.2.1) Ar.2.2 i1 i2 (g := mkF m pc Ls (.int j :: .ref a :: rest)) rfl rfl (hb hb' hd) t q) G
theorem gLdI {a : Addr} {kA : ClassId} {z j : Int32} {vs : List Value} {dv v : Value} (W : Wk p l e R s m args below meth c Z a0 EL n0 kn wd own bytes ml ws T h k n) (A : Arv Z h a kA .int z vs dv) (hj : ¬ j < 0 ∧ j < z) (hv : vs.getD j.toNatClampNeg dv = v)
    (hd : decode bytes pc = .ok (.iaload, 1)) (hp : pc + 1 = pc') (G : Go p e below Φ T (mkF m pc' Ls (v :: rest))) : Go p e below Φ T (mkF m pc Ls (.int j :: .ref a :: rest)) := by
  subst hp
  obtain ⟨cl, Ar, i1, i2⟩ := Arv.look A hj hv
  exact g2 W (fun vm0 locs X hx hb' hZ eT hO t q => X.iaload hx (by rw [eT]; exact Ar.1) (State.isArrayOf_alike hZ.alike Ar.2.1) Ar.2.2 i1 i2 (g := mkF m pc Ls (.int j :: .ref a :: rest)) rfl rfl (hb hb' hd) t q) G
theorem gLdJ {a : Addr} {kA : ClassId} {z j : Int32} {vs : List Value} {dv v : Value} (W : Wk p l e R s m args below meth c Z a0 EL n0 kn wd own bytes ml ws T h k n) (A : Arv Z h a kA .long z vs dv) (hj : ¬ j < 0 ∧ j < z) (hv : vs.getD j.toNatClampNeg dv = v)
    (hd : decode bytes pc = .ok (.laload, 1)) (hp : pc + 1 = pc') (G : Go p e below Φ T (mkF m pc' Ls (v :: rest))) : Go p e below Φ T (mkF m pc Ls (.int j :: .ref a :: rest)) := by
  subst hp
  obtain ⟨cl, Ar, i1, i2⟩ := Arv.look A hj hv
  exact g2 W (fun vm0 locs X hx hb' hZ eT hO t q => X.laload hx (by rw [eT]; exact Ar.1) (State.isArrayOf_alike hZ.alike Ar.2.1) Ar.2.2 i1 i2 (g := mkF m pc Ls (.int j :: .ref a :: rest)) rfl rfl (hb hb' hd) t q) G
theorem gLdA {a : Addr} {kA : ClassId} {ty : FieldType} {z j : Int32} {vs : List Value} {dv v : Value} (W : Wk p l e R s m args below meth c Z a0 EL n0 kn wd own bytes ml ws T h k n) (A : Arv Z h a kA ty z vs dv) (hty : ty.isReference = true) (hj : ¬ j < 0 ∧ j < z) (hv : vs.getD j.toNatClampNeg dv = v)
    (hd : decode bytes pc = .ok (.aaload, 1)) (hp : pc + 1 = pc') (G : Go p e below Φ T (mkF m pc' Ls (v :: rest))) : Go p e below Φ T (mkF m pc Ls (.int j :: .ref a :: rest)) := by
  subst hp
  obtain ⟨cl, Ar, i1, i2⟩ := Arv.look A hj hv
  exact g2 W (fun vm0 locs X hx hb' hZ eT hO t q => X.aaload hx (by rw [eT]; exact Ar.1) (State.isArrayOf_alike hZ.alike Ar.2.1) hty Ar.2.2 i1 i2 (g := mkF m pc Ls (.int j :: .ref a :: rest)) rfl rfl (hb hb' hd) t q) G
theorem gLen {a : Addr} {kA : ClassId} {ty : FieldType} {z : Int32} {vs : List Value} {dv : Value} (W : Wk p l e R s m args below meth c Z a0 EL n0 kn wd own bytes ml ws T h k n) (A : Arv Z h a kA ty z vs dv)
    (hd : decode bytes pc = .ok (.arraylength, 1)) (hp : pc + 1 = pc') (G : Go p e below Φ T (mkF m pc' Ls (.int z :: rest))) : Go p e below Φ T (mkF m pc Ls (.ref a :: rest)) := by
  subst hp
  obtain ⟨cl, Ar, q1, S, q3, H, Gf⟩ := A
  refine g2 W (fun vm0 locs X hx hb' hZ eT hO t q => X.arraylength hx (by rw [eT]; exact Ar.1) (State.isArrayOf_alike hZ.alike Ar.2.1) (g := mkF m pc Ls (.ref a :: rest)) rfl rfl (hb hb' hd) t ?_) G
  rw [len_of S q3]
  exact q
/-- ldc of a String constant that may be read -/
theorem gLdcS {index : Nat} {text : String} {vs : List Value} {z : Int32} {nn : Nat} (W : Wk p l e R s m args below meth c Z a0 EL n0 kn true own bytes ml ws T h k n) (w : (Jvm.Cond.stringLink own index text).before a0 Z = true) (wS : ∀ a ∈ Bundle.stringAtoms, a.before a0 Z = true) (hmem : (own, index) ∈ EL)
    (ht : (∀ c ∈ text.toList, c.toNat < 256) ∧ text.toList.map (fun c => Value.int (Jvm.Lit.byteI c.toNat.toUInt16)) = vs) (hz : ¬ z < 0) (hlz : z.toNatClampNeg = vs.length) (hd : decode bytes pc = .ok (.ldc index, 2)) (hp : pc + 2 = pc') (hn : 4 * text.toList.length ≤ nn) (hbig : nn ≤ 536870912) (hc : k + 2 ≤ R.cells) (hl : n + (nn + 4) ≤ R.slots)
    (G : ∀ T' h' a b kB, Wk p l e R s m args below meth c Z a0 EL n0 kn true own bytes ml ws T' h' (k + 2) (n + (nn + 4)) → Ext h h' → Exa Z h' a "java/lang/String" → Fld Z h' a "java/lang/String" "coder" "B" (.int 0) → Fld Z h' a "java/lang/String" "value" "[B" (.ref b) → Arv Z h' b kB .byte z vs (.int 0) → (∀ x ∈ ws, x ≠ a ∧ x ≠ b) → Go p e below Φ T' (mkF m pc' Ls (.ref a :: st))) : Go p e below Φ T (mkF m pc Ls st) := by
  subst hp
  obtain ⟨⟨hx, hb', hml, hO, hE, hrest⟩, vm0, k0, locs, X, eT, hS, hk, hZ, hC, hws, hF, hwd, hOl⟩ := W
  obtain ⟨a, T', h', k1, b, kB, X', e', E, hS', hk', hZ', -, A, F1, F2, V, -, -, hC', -, hne, q⟩ := ldcCH X hx hZ ((hZ.alike.findClass own _).trans hO) w wS eT hS hk hE hmem hC.1 ht hz hlz (g := mkF m pc Ls st) rfl (hb hb' hd) hn hbig hc hl
  have sz : ∀ x ∈ ws, x < h'.size ∧ Safe Z EL T'.vm h' x := fun x hx' => ⟨Nat.lt_of_lt_of_le (hws x hx').1 E.1, hC'.safe (hws x hx').1 (hws x hx').2⟩
  exact (G T' h' a b kB ⟨⟨hx, hb', hml, hO, hE, hrest⟩, T'.vm, k1, locs, X', e', hS', hk', hZ', hC.trans hC', sz, hF, (fun q => by cases q), hOl.ext E⟩ E A F1 F2 V (fun x hx' => hne x (sz x hx').2)).back q
/-- the end -/
theorem gEnd {f : JFrame} {v : Option Value} {rc rs : Nat} {Q : Option Value → Heap → Prop} (W : Wk p l e R s m args below meth c Z a0 EL n0 kn wd own bytes ml ws T h k n) (hv : meth.sig.returnType = none → v = none) (hk : k ≤ rc) (hn : n ≤ rs) (hq : Q v h)
    (hs : ∀ (vm0 : Vm) (locs : List Loc) (fs : List Frame), Stand p l e R (s.setVm vm0) m args below meth c T locs k n → p.tables.exec = Jvm.exec → c.code = bytes → (∀ (f : JFrame) (acts : List Action), f.method = m → f.locked = none → f.entered = [] → (doReturn e (T.setTop f) acts v).1 = T.setFrames fs) → Steps p.tables e below (T.setTop f) (T.setFrames fs)) :
    Go p e below (Po s Z EL n0 wd rc rs Q) T f := by
  obtain ⟨⟨hx, hb', hml, hO, hE, hlk, hrest⟩, vm0, k0, locs, X, eT, hS, hk0, hZ, hC, hws, hF, hwd, hOl⟩ := W
  obtain ⟨fs, hr, hrun, hend, hret⟩ := X.leaveW hS (by rw [eT]; exact hk0) hv hlk
  refine ⟨T.setFrames fs, _, hs vm0 locs fs X hx hb' hr, hrun, hend, v, locs, rfl, by rw [show (T.setFrames fs).heap = T.heap from rfl, eT]; exact hq, hF, ?_, fun q => State.WarmedH.trans (hwd q) (show (s.setVm vm0).WarmedH T.vm from X.warmed), by rw [show (T.setFrames fs).heap = T.heap from rfl, eT]; exact hOl, hret.1, hret.2.1, hret.2.2.1, hret.2.2.2.mono hk hn⟩
  have q := hC.trans (CHv.at X hZ hE hC.1)
  rw [show (T.setFrames fs).heap = T.heap from rfl, show (T.setFrames fs).vm = T.vm from rfl, eT]
  exact q
theorem gRetN {x : Int32} {t : FieldType} {rc rs : Nat} {Q : Option Value → Heap → Prop} (W : Wk p l e R s m args below meth c Z a0 EL n0 kn wd own bytes ml ws T h k n) (hret : meth.sig.returnType = some t) (ht : t = .boolean ∨ t = .byte ∨ t = .char ∨ t = .short) (hd : decode bytes pc = .ok (.ireturn, 1)) (hk : k ≤ rc) (hn : n ≤ rs) (hq : Q (some (.int (nar t x))) h) :
    Go p e below (Po s Z EL n0 wd rc rs Q) T (mkF m pc Ls (.int x :: rest)) :=
  gEnd W (fun q => by rw [hret] at q; cases q) hk hn hq (fun vm0 locs fs X hx hb' hr => retN X hx hret ht (hb hb' hd) hr)
theorem gRetI {x : Int32} {rc rs : Nat} {Q : Option Value → Heap → Prop} (W : Wk p l e R s m args below meth c Z a0 EL n0 kn wd own bytes ml ws T h k n) (hret : meth.sig.returnType = some .int) (hd : decode bytes pc = .ok (.ireturn, 1)) (hk : k ≤ rc) (hn : n ≤ rs) (hq : Q (some (.int x)) h) :
    Go p e below (Po s Z EL n0 wd rc rs Q) T (mkF m pc Ls (.int x :: rest)) :=
  gEnd W (fun q => by rw [hret] at q; cases q) hk hn hq (fun vm0 locs fs X hx hb' hr => retI X hx hret (hb hb' hd) hr)
theorem gRetV {rc rs : Nat} {Q : Option Value → Heap → Prop} (W : Wk p l e R s m args below meth c Z a0 EL n0 kn wd own bytes ml ws T h k n) (hret : meth.sig.returnType = none) (hd : decode bytes pc = .ok (.return_, 1)) (hk : k ≤ rc) (hn : n ≤ rs) (hq : Q none h) :
    Go p e below (Po s Z EL n0 wd rc rs Q) T (mkF m pc Ls []) :=
  gEnd W (fun _ => rfl) hk hn hq (fun vm0 locs fs X hx hb' hr => X.returnOut hx hret (hb hb' hd) hr)
theorem gRetJ {x : Int64} {rc rs : Nat} {Q : Option Value → Heap → Prop} (W : Wk p l e R s m args below meth c Z a0 EL n0 kn wd own bytes ml ws T h k n) (hret : meth.sig.returnType = some .long) (hd : decode bytes pc = .ok (.lreturn, 1)) (hk : k ≤ rc) (hn : n ≤ rs) (hq : Q (some (.long x)) h) :
    Go p e below (Po s Z EL n0 wd rc rs Q) T (mkF m pc Ls (.long x :: rest)) :=
  gEnd W (fun q => by rw [hret] at q; cases q) hk hn hq (fun vm0 locs fs X hx hb' hr => by
    have hd' := hb hb' hd
    jvm_step X.here [X.here.top, hx, hd', X.method', hret, narrow]
    first | (intro acts; rw [hr _ acts rfl rfl rfl]) | rw [hr _ _ rfl rfl rfl]
    exact Steps.refl _)
theorem gRetA {v : Value} {t : FieldType} {rc rs : Nat} {Q : Option Value → Heap → Prop} (W : Wk p l e R s m args below meth c Z a0 EL n0 kn wd own bytes ml ws T h k n) (hret : meth.sig.returnType = some t) (ht : t.isReference = true) (hv : v.isRef = true) (hd : decode bytes pc = .ok (.areturn, 1)) (hk : k ≤ rc) (hn : n ≤ rs) (hq : Q (some v) h) :
    Go p e below (Po s Z EL n0 wd rc rs Q) T (mkF m pc Ls (v :: rest)) :=
  gEnd W (fun q => by rw [hret] at q; cases q) hk hn hq (fun vm0 locs fs X hx hb' hr => by
    have hd' := hb hb' hd
    jvm_step X.here [X.here.top, hx, hd', X.method', hret, ht, hv]
    first | (intro acts; rw [hr _ acts rfl rfl rfl]) | rw [hr _ _ rfl rfl rfl]
    exact Steps.refl _)
/-- a callee by its contract: what the walk's own laws ask of it -/
theorem Ct.backS {y : MethodName} {bytes' : ByteArray} {ml' : Nat} {ret' : Option FieldType} {rm : Room} {ws' : List Addr} {as' : Array Value} {Q : Option Value → Heap → Prop} {len wt : Nat} {vm0 : Vm} (C : Ct l Z a0 EL n0 kn wd y bytes' ml' ret' [] rm ws' as' h Q)
    (hZ : Z.Warmed39 vm0) (wc : (Jvm.Cond.code y bytes' ml' ret').before a0 Z = true) (wz : (Jvm.Cond.initialized y.cls).before a0 Z = true) (hf : rm.frames + 1 ≤ R.frames) (hl : wt + (ml' + 11) + rm.locals ≤ R.locals) (hEL : EW Z a0 EL) (H : CHv Z EL vm0 h) (hOl : Old Z n0 h) (hws : ∀ x ∈ ws', x < h.size ∧ Safe Z EL vm0 h x) (hkn : kn = true → vm0.MethodsKnown ∧ vm0.FramesKnown below) :
    BackS l R p e below (s.setVm vm0) args y len wt (fun A a => a = as' ∧ A.U.heap = h ∧ A.cells + rm.cells ≤ R.cells ∧ A.slots + rm.slots ≤ R.slots)
      (fun A _ v B => ∃ L, Q v B.U.heap ∧ Fr n0 L ∧ B.locs = A.locs ++ L ∧ B.cells = A.cells + rm.cells ∧ B.slots = A.slots + rm.slots ∧ CHr Z EL vm0 h B.U.vm B.U.heap ∧ (wd = false → (s.setVm vm0).WarmedH B.U.vm) ∧ Old Z n0 B.U.heap) := by
  refine BackS.of_freeWG (bytes := bytes') (maxL := ml') (ret := ret') (E := fun _ first o t L k n => k = rm.cells ∧ n = rm.slots ∧ (∃ v, o = .returned v ∧ Q v t.heap ∧ Fr n0 L) ∧ CHr Z EL first.vm first.heap t.vm t.heap ∧ (wd = false → first.WarmedH t.vm) ∧ Old Z n0 t.heap) C hf hl ?_ ?_ ?_ ?_ ?_
  · intro m meth c A a Y hp
    have hU : Z.Warmed39 A.U.vm := wtrans (s := s.setVm vm0) hZ Y.warmed
    exact ⟨by show (Jvm.Cond.and _ .tt).before a A.U = true; rw [Cond.before_and, mv hU wc]; rfl, mv hU wc, mv hU wz, hp.2.2.1, hp.2.2.2⟩
  · intro m meth c A a g mk Y hp
    have q := CHv.at Y hZ hEL H
    exact ⟨hp.1, wtrans (s := s.setVm vm0) hZ Y.warmed, hp.2.1, q.1, hOl, fun x hx => ⟨(hws x hx).1, q.safe (hws x hx).1 (hws x hx).2⟩⟩
  · intro m meth c A a g mk Y _ hg q
    exact known_frames Y hg (hkn q).1 (hkn q).2
  · intro a first o t hq
    obtain ⟨v, L, h1, h2, h3, h4, h5, h7, h6⟩ := hq
    exact ⟨L, _, _, h6, rfl, rfl, ⟨v, h1, h2, h3⟩, h4, h5, h7⟩
  · intro m meth c A a g mk v t L k n Y hp _ _ hE
    obtain ⟨e1, e2, ⟨v', e3, e4, e5⟩, e6, e7, e8⟩ := hE
    cases e3; subst e1 e2
    refine ⟨L, e4, e5, rfl, rfl, rfl, (CHv.at Y hZ hEL H).trans ?_, fun q => State.WarmedH.trans Y.warmed (show A.U.WarmedH _ from e7 q), e8⟩
    rw [← hp.2.1]; exact e6
/-- behind a call -/
theorem Wk.after {T' : State} {locs L : List Loc} {vm0 : Vm} {k0 k' n' : Nat} (hall : p.tables.exec = Jvm.exec ∧ c.code = bytes ∧ c.maxLocals = ml ∧ Z.vm.findClass own = some m.cls ∧ EW Z a0 EL ∧ meth.locks = false ∧ (kn = true → s.vm.MethodsKnown ∧ s.vm.FramesKnown below)) (hS : s.Since vm0 k0) (hk : k0 ≤ h.size) (hZ : Z.Warmed39 vm0) (hC : CHr Z EL s.vm s.heap vm0 h) (hws : ∀ x ∈ ws, x < h.size ∧ Safe Z EL vm0 h x) (hF : Fr n0 locs) (hwd : wd = false → s.WarmedH vm0)
    (X' : Stand p l e R ((s.setVm vm0).setVm T'.vm) m args below meth c T' (locs ++ L) k' n') (h2 : (s.setVm vm0).Since T'.vm T'.heap.size) (hg : h.size ≤ T'.heap.size) (hF' : Fr n0 L) (hC' : CHr Z EL vm0 h T'.vm T'.heap) (hwd' : wd = false → (s.setVm vm0).WarmedH T'.vm) (hOl : Old Z n0 T'.heap) :
    Wk p l e R s m args below meth c Z a0 EL n0 kn wd own bytes ml ws T' T'.heap k' n' :=
  ⟨hall, T'.vm, T'.heap.size, locs ++ L, X', rfl, hS.trans h2 (Nat.le_trans hk hg), Nat.le_refl _, State.Warmed39.trans (t := s.setVm vm0) hZ h2.1, hC.trans hC', fun x hx => ⟨Nat.lt_of_lt_of_le (hws x hx).1 hg, hC'.safe (hws x hx).1 (hws x hx).2⟩, hF.app hF', (fun q => State.WarmedH.trans (hwd q) (hwd' q)), hOl⟩
/-- a static call -/
theorem gStatic {index : Nat} {y : MethodName} {bytes' : ByteArray} {ml' : Nat} {ret' : Option FieldType} {rm : Room} {ws' : List Addr} {as' : Array Value} {Q : Option Value → Heap → Prop} {argsL : List Value} {wt : Nat} {ps : List FieldType} {rt : Option FieldType} (W : Wk p l e R s m args below meth c Z a0 EL n0 kn wd own bytes ml ws T h k n)
    (w1 : (Jvm.Cond.methodLink own index y).before a0 Z = true) (w2 : (Jvm.Cond.static y).before a0 Z = true) (w3 : (Jvm.Cond.initialized y.cls).before a0 Z = true) (w4 : (Jvm.Cond.code y bytes' ml' ret').before a0 Z = true) (hy : y.cls ≠ "java/lang/invoke/MethodHandle" ∧ y.cls ≠ "java/lang/invoke/VarHandle") (hdsc : parseMethodDescriptor y.desc = some ⟨ps, rt⟩)
    (C : Ct l Z a0 EL n0 kn wd y bytes' ml' ret' [] rm ws' as' h Q) (hsub : ∀ x ∈ ws', x ∈ ws) (hd : decode bytes pc = .ok (.invokestatic index, 3)) (hp : pc + 3 = pc') (hsz : Ls.size = ml) (has : argsL.toArray = as') (hlen : argsL.length = ps.length) (hst : st = argsL.reverse ++ rest) (hW : (rest.map fun v => v.category).sum ≤ wt)
    (hf : rm.frames + 1 ≤ R.frames) (hl : wt + (ml' + 11) + rm.locals ≤ R.locals) (hc : k + rm.cells ≤ R.cells) (hs : n + rm.slots ≤ R.slots)
    (G : ∀ v T' h', Wk p l e R s m args below meth c Z a0 EL n0 kn wd own bytes ml ws T' h' (k + rm.cells) (n + rm.slots) → h.size ≤ h'.size → Q v h' → Go p e below Φ T' (mkF m pc' Ls (v.toList ++ rest))) : Go p e below Φ T (mkF m pc Ls st) := by
  subst hp has
  obtain ⟨hall, vm0, k0, locs, X, eT, hS, hk, hZ, hC, hws, hF, hwd, hOl⟩ := W
  have hall' := hall
  obtain ⟨hx, hb', hml, hO, hE, hlk, hkn⟩ := hall'
  have hkn' : kn = true → vm0.MethodsKnown ∧ vm0.FramesKnown below := fun q => known_vm hS.1 (hkn q)
  obtain ⟨v, vm₁, ⟨T', L', c', n'⟩, -, X', h2, hg, ⟨L, hQ, hF', l', y', z', hC', hwd', hOl'⟩, stp⟩ := callSS X hx (y := y) ((hZ.alike.findClass own _).trans hO) (mv (s := s.setVm vm0) hZ w1) (mv (s := s.setVm vm0) hZ w2) (mv (s := s.setVm vm0) hZ w3) (mv (s := s.setVm vm0) hZ w4) hy
    (C.backS (p := p) (e := e) (R := R) (s := s) (args := args) (below := below) (wt := wt) hZ w4 w3 hf hl hE hC.1 hOl (fun x q => hws x (hsub x q)) hkn') (g := mkF m pc Ls st) rfl (hsz.trans hml.symm) (argsL := argsL) (rest := rest) (lenOf hdsc hlen) hst (by simpa using hW) (hb hb' hd) (fun _ _ => ⟨rfl, eT, hc, hs⟩)
  dsimp only [Pt.U, Pt.locs, Pt.cells, Pt.slots] at X' h2 hg l' y' z' stp hQ hC' hwd' hOl'
  subst l' y' z'
  rw [eT] at hg
  exact (G v T' T'.heap (Wk.after hall hS hk hZ hC hws hF hwd X' h2 hg hF' hC' hwd' hOl') hg hQ).back fun t q => stp.trans q
/-- a constructor -/
theorem gSpecial {index : Nat} {y : MethodName} {bytes' : ByteArray} {ml' : Nat} {rm : Room} {ws' : List Addr} {as' : Array Value} {Q : Option Value → Heap → Prop} {argsL : List Value} {a : Addr} {wt : Nat} {ps : List FieldType} {rt : Option FieldType} (W : Wk p l e R s m args below meth c Z a0 EL n0 kn wd own bytes ml ws T h k n) (hy1 : y.name = "<init>")
    (w1 : (Jvm.Cond.methodLink own index y).before a0 Z = true) (w2 : (Jvm.Cond.instanceMethod y).before a0 Z = true) (w3 : (Jvm.Cond.initialized y.cls).before a0 Z = true) (w4 : (Jvm.Cond.code y bytes' ml' none).before a0 Z = true) (hy : y.cls ≠ "java/lang/invoke/MethodHandle" ∧ y.cls ≠ "java/lang/invoke/VarHandle") (hdsc : parseMethodDescriptor y.desc = some ⟨ps, rt⟩)
    (C : Ct l Z a0 EL n0 kn wd y bytes' ml' none [] rm ws' as' h Q) (hsub : ∀ x ∈ ws', x ∈ ws) (hd : decode bytes pc = .ok (.invokespecial index, 3)) (hp : pc + 3 = pc') (hsz : Ls.size = ml) (has : (.ref a :: argsL).toArray = as') (hlen : argsL.length = ps.length) (hst : st = argsL.reverse ++ .ref a :: rest) (hW : (rest.map fun v => v.category).sum ≤ wt)
    (hf : rm.frames + 1 ≤ R.frames) (hl : wt + (ml' + 11) + rm.locals ≤ R.locals) (hc : k + rm.cells ≤ R.cells) (hs : n + rm.slots ≤ R.slots)
    (G : ∀ v T' h', Wk p l e R s m args below meth c Z a0 EL n0 kn wd own bytes ml ws T' h' (k + rm.cells) (n + rm.slots) → h.size ≤ h'.size → Q v h' → Go p e below Φ T' (mkF m pc' Ls (v.toList ++ rest))) : Go p e below Φ T (mkF m pc Ls st) := by
  subst hp has
  obtain ⟨hall, vm0, k0, locs, X, eT, hS, hk, hZ, hC, hws, hF, hwd, hOl⟩ := W
  have hall' := hall
  obtain ⟨hx, hb', hml, hO, hE, hlk, hkn⟩ := hall'
  have hkn' : kn = true → vm0.MethodsKnown ∧ vm0.FramesKnown below := fun q => known_vm hS.1 (hkn q)
  obtain ⟨v, vm₁, ⟨T', L', c', n'⟩, -, X', h2, hg, ⟨L, hQ, hF', l', y', z', hC', hwd', hOl'⟩, stp⟩ := X.specialBackS hx (y := y) hy1 ((hZ.alike.findClass own _).trans hO) (mv (s := s.setVm vm0) hZ w1) (mv (s := s.setVm vm0) hZ w2) (mv (s := s.setVm vm0) hZ w4) hy
    (C.backS (p := p) (e := e) (R := R) (s := s) (args := args) (below := below) (wt := wt) hZ w4 w3 hf hl hE hC.1 hOl (fun x q => hws x (hsub x q)) hkn') (g := mkF m pc Ls st) rfl (hsz.trans hml.symm) (Steps.refl _) (a := a) (argsL := argsL) (rest := rest) (lenOf hdsc hlen) hst (by simpa using hW) (hb hb' hd) (fun _ _ => ⟨rfl, eT, hc, hs⟩)
  dsimp only [Pt.U, Pt.locs, Pt.cells, Pt.slots] at X' h2 hg l' y' z' stp hQ hC' hwd' hOl'
  subst l' y' z'
  rw [eT] at hg
  exact (G v T' T'.heap (Wk.after hall hS hk hZ hC hws hF hwd X' h2 hg hF' hC' hwd' hOl') hg hQ).back fun t q => stp.trans q
/-- an instance method of the class that declares it -/
theorem gVirtual {index : Nat} {y z : MethodName} {C' : String} {bytes' : ByteArray} {ml' : Nat} {ret' : Option FieldType} {rm : Room} {ws' : List Addr} {as' : Array Value} {Q : Option Value → Heap → Prop} {argsL : List Value} {a : Addr} {wt : Nat} {ps : List FieldType} {rt : Option FieldType} (W : Wk p l e R s m args below meth c Z a0 EL n0 kn wd own bytes ml ws T h k n) (E : Exa Z h a C')
    (w1 : (Jvm.Cond.methodLink own index y).before a0 Z = true) (w2 : (Jvm.Cond.declares y).before a0 Z = true) (nf : ∀ s : State, Z.Warmed39 s.vm → NotFace s y) (w5 : (Jvm.Cond.selects C' y z).before a0 Z = true) (w6 : (Jvm.Cond.instanceMethod z).before a0 Z = true) (w3 : (Jvm.Cond.initialized z.cls).before a0 Z = true) (w4 : (Jvm.Cond.code z bytes' ml' ret').before a0 Z = true) (hy : y.cls ≠ "java/lang/invoke/MethodHandle" ∧ y.cls ≠ "java/lang/invoke/VarHandle") (hdsc : parseMethodDescriptor y.desc = some ⟨ps, rt⟩)
    (C : Ct l Z a0 EL n0 kn wd z bytes' ml' ret' [] rm ws' as' h Q) (hsub : ∀ x ∈ ws', x ∈ ws) (hd : decode bytes pc = .ok (.invokevirtual index, 3)) (hp : pc + 3 = pc') (hsz : Ls.size = ml) (has : (.ref a :: argsL).toArray = as') (hlen : argsL.length = ps.length) (hst : st = argsL.reverse ++ .ref a :: rest) (hW : (rest.map fun v => v.category).sum ≤ wt)
    (hf : rm.frames + 1 ≤ R.frames) (hl : wt + (ml' + 11) + rm.locals ≤ R.locals) (hc : k + rm.cells ≤ R.cells) (hs : n + rm.slots ≤ R.slots)
    (G : ∀ v T' h', Wk p l e R s m args below meth c Z a0 EL n0 kn wd own bytes ml ws T' h' (k + rm.cells) (n + rm.slots) → h.size ≤ h'.size → Q v h' → Go p e below Φ T' (mkF m pc' Ls (v.toList ++ rest))) : Go p e below Φ T (mkF m pc Ls st) := by
  subst hp has
  obtain ⟨hall, vm0, k0, locs, X, eT, hS, hk, hZ, hC, hws, hF, hwd, hOl⟩ := W
  have hall' := hall
  obtain ⟨hx, hb', hml, hO, hE, hlk, hkn⟩ := hall'
  have hkn' : kn = true → vm0.MethodsKnown ∧ vm0.FramesKnown below := fun q => known_vm hS.1 (hkn q)
  obtain ⟨cq, kq, qa, qb, qc⟩ := isOf (s := s.setVm vm0) hZ eT E
  obtain ⟨v, vm₁, ⟨T', L', c', n'⟩, -, X', h2, hg, ⟨L, hQ, hF', l', y', z', hC', hwd', hOl'⟩, stp⟩ := X.virtualBackS hx (y := y) (z := z) ((hZ.alike.findClass own _).trans hO) (mv (s := s.setVm vm0) hZ w1) (mv (s := s.setVm vm0) hZ w2) (nf (s.setVm vm0) hZ) (mv (s := s.setVm vm0) hZ w5) (mv (s := s.setVm vm0) hZ w6) hy
    (C.backS (p := p) (e := e) (R := R) (s := s) (args := args) (below := below) (wt := wt) hZ w4 w3 hf hl hE hC.1 hOl (fun x q => hws x (hsub x q)) hkn') qa qc (g := mkF m pc Ls st) rfl (hsz.trans hml.symm) (Steps.refl _) (argsL := argsL) (rest := rest) (lenOf hdsc hlen) hst (by simpa using hW) (hb hb' hd) (fun _ _ => ⟨rfl, eT, hc, hs⟩)
  dsimp only [Pt.U, Pt.locs, Pt.cells, Pt.slots] at X' h2 hg l' y' z' stp hQ hC' hwd' hOl'
  subst l' y' z'
  rw [eT] at hg
  exact (G v T' T'.heap (Wk.after hall hS hk hZ hC hws hF hwd X' h2 hg hF' hC' hwd' hOl') hg hQ).back fun t q => stp.trans q
/-- a contract out of a walk -/
theorem Ct.of {y : MethodName} {ret : Option FieldType} {cs : List Jvm.Cond} {rm : Room} {as' : Array Value} {Q : Option Value → Heap → Prop} (hpl : plainFor y = true) (hEL : EW Z a0 EL)
    (body : ∀ (p : Program) (e : Env) (s : State) (m : MethodId) (below : List Frame) (meth : Method) (c : Code) (T : State), Wk p l e rm s m as' below meth c Z a0 EL n0 kn wd y.cls bytes ml ws T h 0 0 → meth.sig.returnType = ret → meth.name = y.name → s.heap = h → Go p e below (Po s Z EL n0 wd rm.cells rm.slots Q) T (entryFrame m as' ml)) :
    Ct l Z a0 EL n0 kn wd y bytes ml ret cs rm ws as' h Q := by
  refine MetFree.of_bodySF hpl hisR ?_
  intro p e s m args below meth c s₁ Bd hml hP hK
  obtain ⟨rfl, hZ, hh, hC, hOl, hws⟩ := hP
  have hown : s.vm.findClass y.cls = some m.cls := findClass_of_methodNamed Bd.named
  have X0 := Stand.of_body Bd
  have e0 : s₁.heap = h := by rw [← hh, Bd.state]; rfl
  have hO : Z.vm.findClass y.cls = some m.cls := by rw [← hZ.alike.findClass]; exact hown
  have hst : s₁.vm = s.vm := by rw [Bd.state]; rfl
  refine body p e s m below meth c s₁ ⟨⟨Bd.exec, Bd.bytes, hml, hO, hEL, BodyLoose.notSynchronized Bd, hK⟩, s.vm, 0, [], X0, e0, (State.WarmedH.refl s).since _, Nat.zero_le _, hZ, ?_, hws, Fr.nil n0, (fun _ => State.WarmedH.refl s), hOl⟩ Bd.returns (name_of_methodNamed Bd.named Bd.method).1 hh
  rw [hh]
  exact CHr.refl hC
end OwnLayer
section OwnLayerMore
variable {p : Program} {l : Launch} {e : Env} {R : Room} {s : State} {m : MethodId} {args : Array Value} {below : List Frame} {meth : Method} {c : Code} {Z : State} {a0 : Array Value} {EL : List (String × Nat)} {n0 : Nat} {kn wd : Bool} {own : String} {bytes : ByteArray} {ml : Nat} {ws : List Addr} {T : State} {h : Heap} {k n : Nat} {Φ : Outcome → State → Prop} {pc pc' : Nat} {Ls : Array Slot} {st rest : List Value}
/-- instanceof, no -/
theorem gInsN {K C : String} {index : Nat} {a : Addr} (W : Wk p l e R s m args below meth c Z a0 EL n0 kn wd own bytes ml ws T h k n) (w : (Jvm.Cond.classLink own index K).before a0 Z = true) (E : Exa Z h a C) (F : ∃ c t, Z.vm.findClass C = some c ∧ Z.vm.findClass K = some t ∧ Z.vm.assignable c t = false)
    (hd : decode bytes pc = .ok (.instanceof index, 3)) (hp : pc + 3 = pc') (G : ∀ T', Wk p l e R s m args below meth c Z a0 EL n0 kn wd own bytes ml ws T' h k n → Go p e below Φ T' (mkF m pc' Ls (.int 0 :: rest))) : Go p e below Φ T (mkF m pc Ls (.ref a :: rest)) := by
  subst hp
  exact g3 W (fun vm0 locs X hx hb' _ hZ eT hO => instNo X hx hZ hO w eT E F (g := mkF m pc Ls (.ref a :: rest)) rfl rfl (hb hb' hd)) G
theorem noSub {C S K : String} {nK : Nat} (w : (Jvm.Cond.superclass C S).before a0 Z = true) (w0 : (Jvm.Cond.noSuperclass S).before a0 Z = true) (wk : (Jvm.Cond.instantiable K nK).before a0 Z = true) (h1 : C ≠ K) (h2 : S ≠ K) : ∃ c t, Z.vm.findClass C = some c ∧ Z.vm.findClass K = some t ∧ Z.vm.assignable c t = false := by
  obtain ⟨t, kt, g1, g2, g3, g4, -⟩ := Cond.instantiable_spec wk
  obtain ⟨cc, q0⟩ := found_sup w
  obtain ⟨pp, kc, kp, a1, a2, a3, a4, a5, a6, a7⟩ := Cond.superclass_spec q0 w
  obtain ⟨o, ko, b1, b2, b3, -⟩ := Cond.noSuperclass_spec w0
  cases a1.symm.trans b1
  cases a3.symm.trans b2
  have ne1 := ids_ne q0 g1 h1
  have ne2 := ids_ne b1 g1 h2
  have gI : kt.isInterface = false := by simp at g4; exact g4.1
  have sub : ∀ fuel, Z.vm.isSubclassAux fuel cc t = false := fun fuel => by
    cases fuel with
    | zero => rfl
    | succ f =>
      cases f with
      | zero => simp [Vm.isSubclassAux, ne1, a2, a4]
      | succ f => simp [Vm.isSubclassAux, ne1, ne2, a2, a4, b2, b3]
  refine ⟨cc, t, q0, g1, ?_⟩
  show Z.vm.assignableAux (255 + 1) cc t = false
  simp [Vm.assignableAux, ne1, a2, g2, a5, g3, gI, Vm.isSubclass, sub]
/-- an instance method that the entry's class inherits -/
theorem gVirtualUp {index : Nat} {x y : MethodName} {C' owner : String} {bytes' : ByteArray} {ml' : Nat} {ret' : Option FieldType} {rm : Room} {ws' : List Addr} {as' : Array Value} {Q : Option Value → Heap → Prop} {argsL : List Value} {a : Addr} {wt : Nat} {ps : List FieldType} {rt : Option FieldType} (W : Wk p l e R s m args below meth c Z a0 EL n0 kn wd own bytes ml ws T h k n) (E : Exa Z h a C')
    (w1 : (Jvm.Cond.methodLink own index x).before a0 Z = true) (w2 : (Jvm.Cond.sameMethod x.cls owner x.name x.desc).before a0 Z = true) (w7 : (Jvm.Cond.declares ⟨owner, x.name, x.desc⟩).before a0 Z = true) (ho : owner ≠ "java/lang/invoke/MethodHandle" ∧ owner ≠ "java/lang/invoke/VarHandle") (w5 : (Jvm.Cond.selects C' x y).before a0 Z = true) (w6 : (Jvm.Cond.instanceMethod y).before a0 Z = true) (w3 : (Jvm.Cond.initialized y.cls).before a0 Z = true) (w4 : (Jvm.Cond.code y bytes' ml' ret').before a0 Z = true) (hdsc : parseMethodDescriptor x.desc = some ⟨ps, rt⟩)
    (C : Ct l Z a0 EL n0 kn wd y bytes' ml' ret' [] rm ws' as' h Q) (hsub : ∀ x ∈ ws', x ∈ ws) (hd : decode bytes pc = .ok (.invokevirtual index, 3)) (hp : pc + 3 = pc') (hsz : Ls.size = ml) (has : (.ref a :: argsL).toArray = as') (hlen : argsL.length = ps.length) (hst : st = argsL.reverse ++ .ref a :: rest) (hW : (rest.map fun v => v.category).sum ≤ wt)
    (hf : rm.frames + 1 ≤ R.frames) (hl : wt + (ml' + 11) + rm.locals ≤ R.locals) (hc : k + rm.cells ≤ R.cells) (hs : n + rm.slots ≤ R.slots)
    (G : ∀ v T' h', Wk p l e R s m args below meth c Z a0 EL n0 kn wd own bytes ml ws T' h' (k + rm.cells) (n + rm.slots) → h.size ≤ h'.size → Q v h' → Go p e below Φ T' (mkF m pc' Ls (v.toList ++ rest))) : Go p e below Φ T (mkF m pc Ls st) := by
  subst hp has
  obtain ⟨hall, vm0, k0, locs, X, eT, hS, hk, hZ, hC, hws, hF, hwd, hOl⟩ := W
  have hall' := hall
  obtain ⟨hx, hb', hml, hO, hE, hlk, hkn⟩ := hall'
  have hkn' : kn = true → vm0.MethodsKnown ∧ vm0.FramesKnown below := fun q => known_vm hS.1 (hkn q)
  obtain ⟨cq, kq, qa, qb, qc⟩ := isOf (s := s.setVm vm0) hZ eT E
  obtain ⟨v, vm₁, ⟨T', L', c', n'⟩, -, X', h2, hg, ⟨L, hQ, hF', l', y', z', hC', hwd', hOl'⟩, stp⟩ := virtualBackUpS X hx (x := x) (y := y) (owner := owner) ((hZ.alike.findClass own _).trans hO) (mv (s := s.setVm vm0) hZ w1) (mv (s := s.setVm vm0) hZ w2) (mv (s := s.setVm vm0) hZ w7) ho (mv (s := s.setVm vm0) hZ w5) (mv (s := s.setVm vm0) hZ w6)
    (C.backS (p := p) (e := e) (R := R) (s := s) (args := args) (below := below) (wt := wt) hZ w4 w3 hf hl hE hC.1 hOl (fun x q => hws x (hsub x q)) hkn') qa qc (g := mkF m pc Ls st) rfl (hsz.trans hml.symm) (Steps.refl _) (argsL := argsL) (rest := rest) (lenOf hdsc hlen) hst (by simpa using hW) (hb hb' hd) (fun _ _ => ⟨rfl, eT, hc, hs⟩)
  dsimp only [Pt.U, Pt.locs, Pt.cells, Pt.slots] at X' h2 hg l' y' z' stp hQ hC' hwd' hOl'
  subst l' y' z'
  rw [eT] at hg
  exact (G v T' T'.heap (Wk.after hall hS hk hZ hC hws hF hwd X' h2 hg hF' hC' hwd' hOl') hg hQ).back fun t q => stp.trans q
end OwnLayerMore
section OwnSteps
variable {p : Program} {l : Launch} {e : Env} {R : Room} {s : State} {m : MethodId} {args : Array Value} {below : List Frame} {meth : Method} {c : Code} {Z : State} {a0 : Array Value} {EL : List (String × Nat)} {n0 : Nat} {kn wd : Bool} {own : String} {bytes : ByteArray} {ml : Nat} {ws : List Addr} {T : State} {h : Heap} {k n : Nat} {Φ : Outcome → State → Prop} {pc pc' : Nat} {Ls : Array Slot} {st rest : List Value}
theorem s_iloadN {j : Fin 4} {v : Int32} (W : Wk p l e R s m args below meth c Z a0 EL n0 kn wd own bytes ml ws T h k n) (hd : decode bytes pc = .ok (.iload_n j, 1)) (hl : Ls[j.val]? = some (.val (.int v))) (hp : pc + 1 = pc') (G : Go p e below Φ T (mkF m pc' Ls ((.int v) :: st))) : Go p e below Φ T (mkF m pc Ls st) := by
  subst hp
  exact g1 W (fun t ha hx hb' q => XS.iloadN ha hx rfl (hb hb' hd) hl q) G
theorem s_iload {j : Nat} {v : Int32} (W : Wk p l e R s m args below meth c Z a0 EL n0 kn wd own bytes ml ws T h k n) (hd : decode bytes pc = .ok (.iload j, 2)) (hl : Ls[j]? = some (.val (.int v))) (hp : pc + 2 = pc') (G : Go p e below Φ T (mkF m pc' Ls ((.int v) :: st))) : Go p e below Φ T (mkF m pc Ls st) := by
  subst hp
  exact g1 W (fun t ha hx hb' q => XS.iload ha hx rfl (hb hb' hd) hl q) G
theorem s_lloadN {j : Fin 4} {v : Int64} (W : Wk p l e R s m args below meth c Z a0 EL n0 kn wd own bytes ml ws T h k n) (hd : decode bytes pc = .ok (.lload_n j, 1)) (hl : Ls[j.val]? = some (.val (.long v))) (hp : pc + 1 = pc') (G : Go p e below Φ T (mkF m pc' Ls ((.long v) :: st))) : Go p e below Φ T (mkF m pc Ls st) := by
  subst hp
  exact g1 W (fun t ha hx hb' q => XS.lloadN ha hx rfl (hb hb' hd) hl q) G
theorem s_lload {j : Nat} {v : Int64} (W : Wk p l e R s m args below meth c Z a0 EL n0 kn wd own bytes ml ws T h k n) (hd : decode bytes pc = .ok (.lload j, 2)) (hl : Ls[j]? = some (.val (.long v))) (hp : pc + 2 = pc') (G : Go p e below Φ T (mkF m pc' Ls ((.long v) :: st))) : Go p e below Φ T (mkF m pc Ls st) := by
  subst hp
  exact g1 W (fun t ha hx hb' q => XS.lload ha hx rfl (hb hb' hd) hl q) G
theorem s_aloadN {j : Fin 4} {v : Value} (W : Wk p l e R s m args below meth c Z a0 EL n0 kn wd own bytes ml ws T h k n) (hd : decode bytes pc = .ok (.aload_n j, 1)) (hl : Ls[j.val]? = some (.val v)) (hv : v.isRef = true) (hp : pc + 1 = pc') (G : Go p e below Φ T (mkF m pc' Ls (v :: st))) : Go p e below Φ T (mkF m pc Ls st) := by
  subst hp
  exact g1 W (fun t ha hx hb' q => XS.aloadN ha hx rfl (hb hb' hd) hl hv q) G
theorem s_aload {j : Nat} {v : Value} (W : Wk p l e R s m args below meth c Z a0 EL n0 kn wd own bytes ml ws T h k n) (hd : decode bytes pc = .ok (.aload j, 2)) (hl : Ls[j]? = some (.val v)) (hv : v.isRef = true) (hp : pc + 2 = pc') (G : Go p e below Φ T (mkF m pc' Ls (v :: st))) : Go p e below Φ T (mkF m pc Ls st) := by
  subst hp
  exact g1 W (fun t ha hx hb' q => XS.aload ha hx rfl (hb hb' hd) hl hv q) G
theorem s_istoreN {j : Fin 4} {v : Int32} {l' : Array Slot} (W : Wk p l e R s m args below meth c Z a0 EL n0 kn wd own bytes ml ws T h k n) (hd : decode bytes pc = .ok (.istore_n j, 1)) (hl : storeLocals Ls j.val (.int v) = some l') (hp : pc + 1 = pc') (G : Go p e below Φ T (mkF m pc' l' rest)) : Go p e below Φ T (mkF m pc Ls ((.int v) :: rest)) := by
  subst hp
  exact g1 W (fun t ha hx hb' q => XS.istoreN ha hx rfl (hb hb' hd) rfl hl q) G
theorem s_istore {j : Nat} {v : Int32} {l' : Array Slot} (W : Wk p l e R s m args below meth c Z a0 EL n0 kn wd own bytes ml ws T h k n) (hd : decode bytes pc = .ok (.istore j, 2)) (hl : storeLocals Ls j (.int v) = some l') (hp : pc + 2 = pc') (G : Go p e below Φ T (mkF m pc' l' rest)) : Go p e below Φ T (mkF m pc Ls ((.int v) :: rest)) := by
  subst hp
  exact g1 W (fun t ha hx hb' q => XS.istore ha hx rfl (hb hb' hd) rfl hl q) G
theorem s_lstoreN {j : Fin 4} {v : Int64} {l' : Array Slot} (W : Wk p l e R s m args below meth c Z a0 EL n0 kn wd own bytes ml ws T h k n) (hd : decode bytes pc = .ok (.lstore_n j, 1)) (hl : storeLocals Ls j.val (.long v) = some l') (hp : pc + 1 = pc') (G : Go p e below Φ T (mkF m pc' l' rest)) : Go p e below Φ T (mkF m pc Ls ((.long v) :: rest)) := by
  subst hp
  exact g1 W (fun t ha hx hb' q => XS.lstoreN ha hx rfl (hb hb' hd) rfl hl q) G
theorem s_lstore {j : Nat} {v : Int64} {l' : Array Slot} (W : Wk p l e R s m args below meth c Z a0 EL n0 kn wd own bytes ml ws T h k n) (hd : decode bytes pc = .ok (.lstore j, 2)) (hl : storeLocals Ls j (.long v) = some l') (hp : pc + 2 = pc') (G : Go p e below Φ T (mkF m pc' l' rest)) : Go p e below Φ T (mkF m pc Ls ((.long v) :: rest)) := by
  subst hp
  exact g1 W (fun t ha hx hb' q => XS.lstore ha hx rfl (hb hb' hd) rfl hl q) G
theorem s_astoreN {j : Fin 4} {v : Value} {l' : Array Slot} (W : Wk p l e R s m args below meth c Z a0 EL n0 kn wd own bytes ml ws T h k n) (hd : decode bytes pc = .ok (.astore_n j, 1)) (hv : v.isRef = true) (hl : storeLocals Ls j.val v = some l') (hp : pc + 1 = pc') (G : Go p e below Φ T (mkF m pc' l' rest)) : Go p e below Φ T (mkF m pc Ls (v :: rest)) := by
  subst hp
  exact g1 W (fun t ha hx hb' q => XS.astoreN ha hx rfl (hb hb' hd) rfl hv hl q) G
theorem s_astore {j : Nat} {v : Value} {l' : Array Slot} (W : Wk p l e R s m args below meth c Z a0 EL n0 kn wd own bytes ml ws T h k n) (hd : decode bytes pc = .ok (.astore j, 2)) (hv : v.isRef = true) (hl : storeLocals Ls j v = some l') (hp : pc + 2 = pc') (G : Go p e below Φ T (mkF m pc' l' rest)) : Go p e below Φ T (mkF m pc Ls (v :: rest)) := by
  subst hp
  exact g1 W (fun t ha hx hb' q => XS.astore ha hx rfl (hb hb' hd) rfl hv hl q) G
theorem s_iconst {i : Int} {v : Int32} (W : Wk p l e R s m args below meth c Z a0 EL n0 kn wd own bytes ml ws T h k n) (hd : decode bytes pc = .ok (.iconst i, 1)) (hv : Int32.ofInt i = v) (hp : pc + 1 = pc') (G : Go p e below Φ T (mkF m pc' Ls (.int v :: st))) : Go p e below Φ T (mkF m pc Ls st) := by
  subst hp hv
  exact g1 W (fun t ha hx hb' q => XS.iconst ha hx rfl (hb hb' hd) q) G
theorem s_bipush {i : Int} {v : Int32} (W : Wk p l e R s m args below meth c Z a0 EL n0 kn wd own bytes ml ws T h k n) (hd : decode bytes pc = .ok (.bipush i, 2)) (hv : (Int8.ofInt i).toInt32 = v) (hp : pc + 2 = pc') (G : Go p e below Φ T (mkF m pc' Ls (.int v :: st))) : Go p e below Φ T (mkF m pc Ls st) := by
  subst hp hv
  exact g1 W (fun t ha hx hb' q => XS.bipush ha hx rfl (hb hb' hd) q) G
theorem s_sipush {i : Int} {v : Int32} (W : Wk p l e R s m args below meth c Z a0 EL n0 kn wd own bytes ml ws T h k n) (hd : decode bytes pc = .ok (.sipush i, 3)) (hv : (Int16.ofInt i).toInt32 = v) (hp : pc + 3 = pc') (G : Go p e below Φ T (mkF m pc' Ls (.int v :: st))) : Go p e below Φ T (mkF m pc Ls st) := by
  subst hp hv
  exact g1 W (fun t ha hx hb' q => XS.sipush ha hx rfl (hb hb' hd) q) G
theorem s_lconst {i : Fin 2} {v : Int64} (W : Wk p l e R s m args below meth c Z a0 EL n0 kn wd own bytes ml ws T h k n) (hd : decode bytes pc = .ok (.lconst i, 1)) (hv : Int64.ofNat i = v) (hp : pc + 1 = pc') (G : Go p e below Φ T (mkF m pc' Ls (.long v :: st))) : Go p e below Φ T (mkF m pc Ls st) := by
  subst hp hv
  exact g1 W (fun t ha hx hb' q => XS.lconst ha hx rfl (hb hb' hd) q) G
theorem s_aconst_null (W : Wk p l e R s m args below meth c Z a0 EL n0 kn wd own bytes ml ws T h k n) (hd : decode bytes pc = .ok (.aconst_null, 1)) (hp : pc + 1 = pc') (G : Go p e below Φ T (mkF m pc' Ls (.null :: st))) : Go p e below Φ T (mkF m pc Ls st) := by
  subst hp
  exact g1 W (fun t ha hx hb' q => XS.aconstNull ha hx rfl (hb hb' hd)  q) G
theorem s_iadd {x y : Int32} (W : Wk p l e R s m args below meth c Z a0 EL n0 kn wd own bytes ml ws T h k n) (hd : decode bytes pc = .ok (.iadd, 1)) (hp : pc + 1 = pc') (G : Go p e below Φ T (mkF m pc' Ls (.int (x + y) :: rest))) : Go p e below Φ T (mkF m pc Ls (.int y :: .int x :: rest)) := by
  subst hp
  exact g1 W (fun t ha hx hb' q => XS.iadd ha hx rfl (hb hb' hd) rfl q) G
theorem s_isub {x y : Int32} (W : Wk p l e R s m args below meth c Z a0 EL n0 kn wd own bytes ml ws T h k n) (hd : decode bytes pc = .ok (.isub, 1)) (hp : pc + 1 = pc') (G : Go p e below Φ T (mkF m pc' Ls (.int (x - y) :: rest))) : Go p e below Φ T (mkF m pc Ls (.int y :: .int x :: rest)) := by
  subst hp
  exact g1 W (fun t ha hx hb' q => XS.isub ha hx rfl (hb hb' hd) rfl q) G
theorem s_imul {x y : Int32} (W : Wk p l e R s m args below meth c Z a0 EL n0 kn wd own bytes ml ws T h k n) (hd : decode bytes pc = .ok (.imul, 1)) (hp : pc + 1 = pc') (G : Go p e below Φ T (mkF m pc' Ls (.int (x * y) :: rest))) : Go p e below Φ T (mkF m pc Ls (.int y :: .int x :: rest)) := by
  subst hp
  exact g1 W (fun t ha hx hb' q => XS.imul ha hx rfl (hb hb' hd) rfl q) G
theorem s_iand {x y : Int32} (W : Wk p l e R s m args below meth c Z a0 EL n0 kn wd own bytes ml ws T h k n) (hd : decode bytes pc = .ok (.iand, 1)) (hp : pc + 1 = pc') (G : Go p e below Φ T (mkF m pc' Ls (.int (x &&& y) :: rest))) : Go p e below Φ T (mkF m pc Ls (.int y :: .int x :: rest)) := by
  subst hp
  exact g1 W (fun t ha hx hb' q => XS.iand ha hx rfl (hb hb' hd) rfl q) G
theorem s_ior {x y : Int32} (W : Wk p l e R s m args below meth c Z a0 EL n0 kn wd own bytes ml ws T h k n) (hd : decode bytes pc = .ok (.ior, 1)) (hp : pc + 1 = pc') (G : Go p e below Φ T (mkF m pc' Ls (.int (x ||| y) :: rest))) : Go p e below Φ T (mkF m pc Ls (.int y :: .int x :: rest)) := by
  subst hp
  exact g1 W (fun t ha hx hb' q => XS.ior ha hx rfl (hb hb' hd) rfl q) G
theorem s_ixor {x y : Int32} (W : Wk p l e R s m args below meth c Z a0 EL n0 kn wd own bytes ml ws T h k n) (hd : decode bytes pc = .ok (.ixor, 1)) (hp : pc + 1 = pc') (G : Go p e below Φ T (mkF m pc' Ls (.int (x ^^^ y) :: rest))) : Go p e below Φ T (mkF m pc Ls (.int y :: .int x :: rest)) := by
  subst hp
  exact g1 W (fun t ha hx hb' q => XS.ixor ha hx rfl (hb hb' hd) rfl q) G
theorem s_ladd {x y : Int64} (W : Wk p l e R s m args below meth c Z a0 EL n0 kn wd own bytes ml ws T h k n) (hd : decode bytes pc = .ok (.ladd, 1)) (hp : pc + 1 = pc') (G : Go p e below Φ T (mkF m pc' Ls (.long (x + y) :: rest))) : Go p e below Φ T (mkF m pc Ls (.long y :: .long x :: rest)) := by
  subst hp
  exact g1 W (fun t ha hx hb' q => XS.ladd ha hx rfl (hb hb' hd) rfl q) G
theorem s_lsub {x y : Int64} (W : Wk p l e R s m args below meth c Z a0 EL n0 kn wd own bytes ml ws T h k n) (hd : decode bytes pc = .ok (.lsub, 1)) (hp : pc + 1 = pc') (G : Go p e below Φ T (mkF m pc' Ls (.long (x - y) :: rest))) : Go p e below Φ T (mkF m pc Ls (.long y :: .long x :: rest)) := by
  subst hp
  exact g1 W (fun t ha hx hb' q => XS.lsub ha hx rfl (hb hb' hd) rfl q) G
theorem s_lmul {x y : Int64} (W : Wk p l e R s m args below meth c Z a0 EL n0 kn wd own bytes ml ws T h k n) (hd : decode bytes pc = .ok (.lmul, 1)) (hp : pc + 1 = pc') (G : Go p e below Φ T (mkF m pc' Ls (.long (x * y) :: rest))) : Go p e below Φ T (mkF m pc Ls (.long y :: .long x :: rest)) := by
  subst hp
  exact g1 W (fun t ha hx hb' q => XS.lmul ha hx rfl (hb hb' hd) rfl q) G
theorem s_land {x y : Int64} (W : Wk p l e R s m args below meth c Z a0 EL n0 kn wd own bytes ml ws T h k n) (hd : decode bytes pc = .ok (.land, 1)) (hp : pc + 1 = pc') (G : Go p e below Φ T (mkF m pc' Ls (.long (x &&& y) :: rest))) : Go p e below Φ T (mkF m pc Ls (.long y :: .long x :: rest)) := by
  subst hp
  exact g1 W (fun t ha hx hb' q => XS.land ha hx rfl (hb hb' hd) rfl q) G
theorem s_lor {x y : Int64} (W : Wk p l e R s m args below meth c Z a0 EL n0 kn wd own bytes ml ws T h k n) (hd : decode bytes pc = .ok (.lor, 1)) (hp : pc + 1 = pc') (G : Go p e below Φ T (mkF m pc' Ls (.long (x ||| y) :: rest))) : Go p e below Φ T (mkF m pc Ls (.long y :: .long x :: rest)) := by
  subst hp
  exact g1 W (fun t ha hx hb' q => XS.lor ha hx rfl (hb hb' hd) rfl q) G
theorem s_lxor {x y : Int64} (W : Wk p l e R s m args below meth c Z a0 EL n0 kn wd own bytes ml ws T h k n) (hd : decode bytes pc = .ok (.lxor, 1)) (hp : pc + 1 = pc') (G : Go p e below Φ T (mkF m pc' Ls (.long (x ^^^ y) :: rest))) : Go p e below Φ T (mkF m pc Ls (.long y :: .long x :: rest)) := by
  subst hp
  exact g1 W (fun t ha hx hb' q => XS.lxor ha hx rfl (hb hb' hd) rfl q) G
theorem s_ishl {x y : Int32} (W : Wk p l e R s m args below meth c Z a0 EL n0 kn wd own bytes ml ws T h k n) (hd : decode bytes pc = .ok (.ishl, 1)) (hp : pc + 1 = pc') (G : Go p e below Φ T (mkF m pc' Ls (.int (x <<< (y &&& 31)) :: rest))) : Go p e below Φ T (mkF m pc Ls (.int y :: .int x :: rest)) := by
  subst hp
  exact g1 W (fun t ha hx hb' q => XS.ishl ha hx rfl (hb hb' hd) rfl q) G
theorem s_ishr {x y : Int32} (W : Wk p l e R s m args below meth c Z a0 EL n0 kn wd own bytes ml ws T h k n) (hd : decode bytes pc = .ok (.ishr, 1)) (hp : pc + 1 = pc') (G : Go p e below Φ T (mkF m pc' Ls (.int (x >>> (y &&& 31)) :: rest))) : Go p e below Φ T (mkF m pc Ls (.int y :: .int x :: rest)) := by
  subst hp
  exact g1 W (fun t ha hx hb' q => XS.ishr ha hx rfl (hb hb' hd) rfl q) G
theorem s_iushr {x y : Int32} (W : Wk p l e R s m args below meth c Z a0 EL n0 kn wd own bytes ml ws T h k n) (hd : decode bytes pc = .ok (.iushr, 1)) (hp : pc + 1 = pc') (G : Go p e below Φ T (mkF m pc' Ls (.int ((x.toUInt32 >>> (y &&& 31).toUInt32).toInt32) :: rest))) : Go p e below Φ T (mkF m pc Ls (.int y :: .int x :: rest)) := by
  subst hp
  exact g1 W (fun t ha hx hb' q => XS.iushr ha hx rfl (hb hb' hd) rfl q) G
theorem s_lshl {x : Int64} {y : Int32} (W : Wk p l e R s m args below meth c Z a0 EL n0 kn wd own bytes ml ws T h k n) (hd : decode bytes pc = .ok (.lshl, 1)) (hp : pc + 1 = pc') (G : Go p e below Φ T (mkF m pc' Ls (.long (x <<< (y &&& 0x3f).toInt64) :: rest))) : Go p e below Φ T (mkF m pc Ls (.int y :: .long x :: rest)) := by
  subst hp
  exact g1 W (fun t ha hx hb' q => XS.lshl ha hx rfl (hb hb' hd) rfl q) G
theorem s_lshr {x : Int64} {y : Int32} (W : Wk p l e R s m args below meth c Z a0 EL n0 kn wd own bytes ml ws T h k n) (hd : decode bytes pc = .ok (.lshr, 1)) (hp : pc + 1 = pc') (G : Go p e below Φ T (mkF m pc' Ls (.long (x >>> (y &&& 0x3f).toInt64) :: rest))) : Go p e below Φ T (mkF m pc Ls (.int y :: .long x :: rest)) := by
  subst hp
  exact g1 W (fun t ha hx hb' q => XS.lshr ha hx rfl (hb hb' hd) rfl q) G
theorem s_lushr {x : Int64} {y : Int32} (W : Wk p l e R s m args below meth c Z a0 EL n0 kn wd own bytes ml ws T h k n) (hd : decode bytes pc = .ok (.lushr, 1)) (hp : pc + 1 = pc') (G : Go p e below Φ T (mkF m pc' Ls (.long ((x.toUInt64 >>> (y &&& 0x3f).toInt64.toUInt64).toInt64) :: rest))) : Go p e below Φ T (mkF m pc Ls (.int y :: .long x :: rest)) := by
  subst hp
  exact g1 W (fun t ha hx hb' q => XS.lushr ha hx rfl (hb hb' hd) rfl q) G
theorem s_idiv {x y : Int32} (W : Wk p l e R s m args below meth c Z a0 EL n0 kn wd own bytes ml ws T h k n) (hd : decode bytes pc = .ok (.idiv, 1)) (hy : y ≠ 0) (hp : pc + 1 = pc') (G : Go p e below Φ T (mkF m pc' Ls (.int (x / y) :: rest))) : Go p e below Φ T (mkF m pc Ls (.int y :: .int x :: rest)) := by
  subst hp
  exact g1 W (fun t ha hx hb' q => XS.idiv ha hx rfl (hb hb' hd) rfl hy q) G
theorem s_irem {x y : Int32} (W : Wk p l e R s m args below meth c Z a0 EL n0 kn wd own bytes ml ws T h k n) (hd : decode bytes pc = .ok (.irem, 1)) (hy : y ≠ 0) (hp : pc + 1 = pc') (G : Go p e below Φ T (mkF m pc' Ls (.int (x % y) :: rest))) : Go p e below Φ T (mkF m pc Ls (.int y :: .int x :: rest)) := by
  subst hp
  exact g2 W (fun vm0 locs X hx hb' hZ eT hO t q => iremM (g := mkF m pc Ls (.int y :: .int x :: rest)) X hx rfl (hb hb' hd) rfl hy q) G
theorem s_ldiv {x y : Int64} (W : Wk p l e R s m args below meth c Z a0 EL n0 kn wd own bytes ml ws T h k n) (hd : decode bytes pc = .ok (.ldiv, 1)) (hy : y ≠ 0) (hp : pc + 1 = pc') (G : Go p e below Φ T (mkF m pc' Ls (.long (x / y) :: rest))) : Go p e below Φ T (mkF m pc Ls (.long y :: .long x :: rest)) := by
  subst hp
  exact g1 W (fun t ha hx hb' q => XS.ldiv ha hx rfl (hb hb' hd) rfl hy q) G
theorem s_ineg {x : Int32} (W : Wk p l e R s m args below meth c Z a0 EL n0 kn wd own bytes ml ws T h k n) (hd : decode bytes pc = .ok (.ineg, 1)) (hp : pc + 1 = pc') (G : Go p e below Φ T (mkF m pc' Ls (.int (-x) :: rest))) : Go p e below Φ T (mkF m pc Ls (.int x :: rest)) := by
  subst hp
  exact g1 W (fun t ha hx hb' q => XS.ineg ha hx rfl (hb hb' hd) rfl q) G
theorem s_lneg {x : Int64} (W : Wk p l e R s m args below meth c Z a0 EL n0 kn wd own bytes ml ws T h k n) (hd : decode bytes pc = .ok (.lneg, 1)) (hp : pc + 1 = pc') (G : Go p e below Φ T (mkF m pc' Ls (.long (-x) :: rest))) : Go p e below Φ T (mkF m pc Ls (.long x :: rest)) := by
  subst hp
  exact g1 W (fun t ha hx hb' q => XS.lneg ha hx rfl (hb hb' hd) rfl q) G
theorem s_i2l {x : Int32} (W : Wk p l e R s m args below meth c Z a0 EL n0 kn wd own bytes ml ws T h k n) (hd : decode bytes pc = .ok (.i2l, 1)) (hp : pc + 1 = pc') (G : Go p e below Φ T (mkF m pc' Ls (.long x.toInt64 :: rest))) : Go p e below Φ T (mkF m pc Ls (.int x :: rest)) := by
  subst hp
  exact g1 W (fun t ha hx hb' q => XS.i2l ha hx rfl (hb hb' hd) rfl q) G
theorem s_l2i {x : Int64} (W : Wk p l e R s m args below meth c Z a0 EL n0 kn wd own bytes ml ws T h k n) (hd : decode bytes pc = .ok (.l2i, 1)) (hp : pc + 1 = pc') (G : Go p e below Φ T (mkF m pc' Ls (.int x.toInt32 :: rest))) : Go p e below Φ T (mkF m pc Ls (.long x :: rest)) := by
  subst hp
  exact g1 W (fun t ha hx hb' q => XS.l2i ha hx rfl (hb hb' hd) rfl q) G
theorem s_i2b {x : Int32} (W : Wk p l e R s m args below meth c Z a0 EL n0 kn wd own bytes ml ws T h k n) (hd : decode bytes pc = .ok (.i2b, 1)) (hp : pc + 1 = pc') (G : Go p e below Φ T (mkF m pc' Ls (.int x.toInt8.toInt32 :: rest))) : Go p e below Φ T (mkF m pc Ls (.int x :: rest)) := by
  subst hp
  exact g1 W (fun t ha hx hb' q => XS.i2b ha hx rfl (hb hb' hd) rfl q) G
theorem s_i2s {x : Int32} (W : Wk p l e R s m args below meth c Z a0 EL n0 kn wd own bytes ml ws T h k n) (hd : decode bytes pc = .ok (.i2s, 1)) (hp : pc + 1 = pc') (G : Go p e below Φ T (mkF m pc' Ls (.int x.toInt16.toInt32 :: rest))) : Go p e below Φ T (mkF m pc Ls (.int x :: rest)) := by
  subst hp
  exact g1 W (fun t ha hx hb' q => XS.i2s ha hx rfl (hb hb' hd) rfl q) G
theorem s_i2c {x : Int32} (W : Wk p l e R s m args below meth c Z a0 EL n0 kn wd own bytes ml ws T h k n) (hd : decode bytes pc = .ok (.i2c, 1)) (hp : pc + 1 = pc') (G : Go p e below Φ T (mkF m pc' Ls (.int x.toUInt32.toUInt16.toUInt32.toInt32 :: rest))) : Go p e below Φ T (mkF m pc Ls (.int x :: rest)) := by
  subst hp
  exact g1 W (fun t ha hx hb' q => XS.i2c ha hx rfl (hb hb' hd) rfl q) G
theorem s_lcmp {x y : Int64} (W : Wk p l e R s m args below meth c Z a0 EL n0 kn wd own bytes ml ws T h k n) (hd : decode bytes pc = .ok (.lcmp, 1)) (hp : pc + 1 = pc') (G : Go p e below Φ T (mkF m pc' Ls (.int (lcmpW x y) :: rest))) : Go p e below Φ T (mkF m pc Ls (.long y :: .long x :: rest)) := by
  subst hp
  exact g1 W (fun t ha hx hb' q => XS.lcmp ha hx rfl (hb hb' hd) rfl q) G
theorem s_dup {v : Value} (W : Wk p l e R s m args below meth c Z a0 EL n0 kn wd own bytes ml ws T h k n) (hd : decode bytes pc = .ok (.dup, 1)) (hv : v.category = 1) (hp : pc + 1 = pc') (G : Go p e below Φ T (mkF m pc' Ls (v :: v :: rest))) : Go p e below Φ T (mkF m pc Ls (v :: rest)) := by
  subst hp
  exact g1 W (fun t ha hx hb' q => XS.dup ha hx rfl (hb hb' hd) rfl hv q) G
theorem s_pop {v : Value} (W : Wk p l e R s m args below meth c Z a0 EL n0 kn wd own bytes ml ws T h k n) (hd : decode bytes pc = .ok (.pop, 1)) (hv : v.category = 1) (hp : pc + 1 = pc') (G : Go p e below Φ T (mkF m pc' Ls rest)) : Go p e below Φ T (mkF m pc Ls (v :: rest)) := by
  subst hp
  exact g1 W (fun t ha hx hb' q => XS.pop ha hx rfl (hb hb' hd) rfl hv q) G
theorem s_dup_x1 {v w : Value} (W : Wk p l e R s m args below meth c Z a0 EL n0 kn wd own bytes ml ws T h k n) (hd : decode bytes pc = .ok (.dup_x1, 1)) (hv : v.category = 1) (hw' : w.category = 1) (hp : pc + 1 = pc') (G : Go p e below Φ T (mkF m pc' Ls (v :: w :: v :: rest))) : Go p e below Φ T (mkF m pc Ls (v :: w :: rest)) := by
  subst hp
  exact g1 W (fun t ha hx hb' q => XS.dupX1 ha hx rfl (hb hb' hd) rfl hv hw' q) G
theorem s_dup2 {v w : Value} (W : Wk p l e R s m args below meth c Z a0 EL n0 kn wd own bytes ml ws T h k n) (hd : decode bytes pc = .ok (.dup2, 1)) (hv : v.category = 1) (hw' : w.category = 1) (hp : pc + 1 = pc') (G : Go p e below Φ T (mkF m pc' Ls (v :: w :: v :: w :: rest))) : Go p e below Φ T (mkF m pc Ls (v :: w :: rest)) := by
  subst hp
  exact g1 W (fun t ha hx hb' q => XT.dup2 ha hx rfl (hb hb' hd) rfl hv hw' q) G
theorem s_dup2L {x : Int64} (W : Wk p l e R s m args below meth c Z a0 EL n0 kn wd own bytes ml ws T h k n) (hd : decode bytes pc = .ok (.dup2, 1)) (hp : pc + 1 = pc') (G : Go p e below Φ T (mkF m pc' Ls (.long x :: .long x :: rest))) : Go p e below Φ T (mkF m pc Ls (.long x :: rest)) := by
  subst hp
  exact g1 W (fun t ha hx hb' q => XT.dup2L ha hx rfl (hb hb' hd) rfl q) G
theorem s_iinc {j : Nat} {cst : Int} {x v : Int32} {l' : Array Slot} (W : Wk p l e R s m args below meth c Z a0 EL n0 kn wd own bytes ml ws T h k n) (hd : decode bytes pc = .ok (.iinc j cst, 3)) (hv : Int32.ofInt cst = v) (hl : Ls[j]? = some (.val (.int x))) (hl' : storeLocals Ls j (.int (x + v)) = some l') (hp : pc + 3 = pc') (G : Go p e below Φ T (mkF m pc' l' st)) : Go p e below Φ T (mkF m pc Ls st) := by
  subst hp hv
  exact g1 W (fun t ha hx hb' q => XS.iinc ha hx rfl (hb hb' hd) hl hl' q) G
theorem s_goto {o : Int} (W : Wk p l e R s m args below meth c Z a0 EL n0 kn wd own bytes ml ws T h k n) (hd : decode bytes pc = .ok (.goto o, 3)) (ho : 0 ≤ (pc : Int) + o) (hp : ((pc : Int) + o).toNat = pc') (G : Go p e below Φ T (mkF m pc' Ls st)) : Go p e below Φ T (mkF m pc Ls st) := by
  subst hp
  exact g1 W (fun t ha hx hb' q => XS.goto ha hx rfl rfl (hb hb' hd) ho rfl q) G
theorem s_ifeq {o : Int} {pc1 pc2 : Nat} {x : Int32} (W : Wk p l e R s m args below meth c Z a0 EL n0 kn wd own bytes ml ws T h k n) (hd : decode bytes pc = .ok (.ifCond .eq o, 3)) (ho : 0 ≤ (pc : Int) + o) (hp1 : ((pc : Int) + o).toNat = pc1) (hp2 : pc + 3 = pc2) (G1 : x = (0 : Int32) → Go p e below Φ T (mkF m pc1 Ls rest)) (G2 : ¬ x = (0 : Int32) → Go p e below Φ T (mkF m pc2 Ls rest)) : Go p e below Φ T (mkF m pc Ls (.int x :: rest)) := by
  subst hp1 hp2
  by_cases q : x = (0 : Int32)
  · exact g1 W (fun t ha hx hb' q' => XS.ifYes ha hx rfl rfl (hb hb' hd) rfl ((if0 _ _).trans (teq q).1) ho rfl q') (G1 q)
  · have q : ¬ x = (0 : Int32) := by first | exact q | exact Classical.not_not.mp q
    exact g1 W (fun t ha hx hb' q' => XS.ifNo ha hx rfl (hb hb' hd) rfl ((if0 _ _).trans (feq q).1) q') (G2 q)
theorem s_icmpeq {o : Int} {pc1 pc2 : Nat} {x y : Int32} (W : Wk p l e R s m args below meth c Z a0 EL n0 kn wd own bytes ml ws T h k n) (hd : decode bytes pc = .ok (.if_icmp .eq o, 3)) (ho : 0 ≤ (pc : Int) + o) (hp1 : ((pc : Int) + o).toNat = pc1) (hp2 : pc + 3 = pc2) (G1 : x = y → Go p e below Φ T (mkF m pc1 Ls rest)) (G2 : ¬ x = y → Go p e below Φ T (mkF m pc2 Ls rest)) : Go p e below Φ T (mkF m pc Ls (.int y :: .int x :: rest)) := by
  subst hp1 hp2
  by_cases q : x = y
  · exact g1 W (fun t ha hx hb' q' => XS.icmpYes ha hx rfl rfl (hb hb' hd) rfl (teq q).1 ho rfl q') (G1 q)
  · have q : ¬ x = y := by first | exact q | exact Classical.not_not.mp q
    exact g1 W (fun t ha hx hb' q' => XS.icmpNo ha hx rfl (hb hb' hd) rfl (feq q).1 q') (G2 q)
theorem s_ifne {o : Int} {pc1 pc2 : Nat} {x : Int32} (W : Wk p l e R s m args below meth c Z a0 EL n0 kn wd own bytes ml ws T h k n) (hd : decode bytes pc = .ok (.ifCond .ne o, 3)) (ho : 0 ≤ (pc : Int) + o) (hp1 : ((pc : Int) + o).toNat = pc1) (hp2 : pc + 3 = pc2) (G1 : ¬ x = (0 : Int32) → Go p e below Φ T (mkF m pc1 Ls rest)) (G2 : x = (0 : Int32) → Go p e below Φ T (mkF m pc2 Ls rest)) : Go p e below Φ T (mkF m pc Ls (.int x :: rest)) := by
  subst hp1 hp2
  by_cases q : ¬ x = (0 : Int32)
  · exact g1 W (fun t ha hx hb' q' => XS.ifYes ha hx rfl rfl (hb hb' hd) rfl ((if0 _ _).trans (feq q).2) ho rfl q') (G1 q)
  · have q : x = (0 : Int32) := by first | exact q | exact Classical.not_not.mp q
    exact g1 W (fun t ha hx hb' q' => XS.ifNo ha hx rfl (hb hb' hd) rfl ((if0 _ _).trans (teq q).2) q') (G2 q)
theorem s_icmpne {o : Int} {pc1 pc2 : Nat} {x y : Int32} (W : Wk p l e R s m args below meth c Z a0 EL n0 kn wd own bytes ml ws T h k n) (hd : decode bytes pc = .ok (.if_icmp .ne o, 3)) (ho : 0 ≤ (pc : Int) + o) (hp1 : ((pc : Int) + o).toNat = pc1) (hp2 : pc + 3 = pc2) (G1 : ¬ x = y → Go p e below Φ T (mkF m pc1 Ls rest)) (G2 : x = y → Go p e below Φ T (mkF m pc2 Ls rest)) : Go p e below Φ T (mkF m pc Ls (.int y :: .int x :: rest)) := by
  subst hp1 hp2
  by_cases q : ¬ x = y
  · exact g1 W (fun t ha hx hb' q' => XS.icmpYes ha hx rfl rfl (hb hb' hd) rfl (feq q).2 ho rfl q') (G1 q)
  · have q : x = y := by first | exact q | exact Classical.not_not.mp q
    exact g1 W (fun t ha hx hb' q' => XS.icmpNo ha hx rfl (hb hb' hd) rfl (teq q).2 q') (G2 q)
theorem s_iflt {o : Int} {pc1 pc2 : Nat} {x : Int32} (W : Wk p l e R s m args below meth c Z a0 EL n0 kn wd own bytes ml ws T h k n) (hd : decode bytes pc = .ok (.ifCond .lt o, 3)) (ho : 0 ≤ (pc : Int) + o) (hp1 : ((pc : Int) + o).toNat = pc1) (hp2 : pc + 3 = pc2) (G1 : x < (0 : Int32) → Go p e below Φ T (mkF m pc1 Ls rest)) (G2 : ¬ x < (0 : Int32) → Go p e below Φ T (mkF m pc2 Ls rest)) : Go p e below Φ T (mkF m pc Ls (.int x :: rest)) := by
  subst hp1 hp2
  by_cases q : x < (0 : Int32)
  · exact g1 W (fun t ha hx hb' q' => XS.ifYes ha hx rfl rfl (hb hb' hd) rfl ((if0 _ _).trans (tlt q).1) ho rfl q') (G1 q)
  · have q : ¬ x < (0 : Int32) := by first | exact q | exact Classical.not_not.mp q
    exact g1 W (fun t ha hx hb' q' => XS.ifNo ha hx rfl (hb hb' hd) rfl ((if0 _ _).trans (flt q).1) q') (G2 q)
theorem s_icmplt {o : Int} {pc1 pc2 : Nat} {x y : Int32} (W : Wk p l e R s m args below meth c Z a0 EL n0 kn wd own bytes ml ws T h k n) (hd : decode bytes pc = .ok (.if_icmp .lt o, 3)) (ho : 0 ≤ (pc : Int) + o) (hp1 : ((pc : Int) + o).toNat = pc1) (hp2 : pc + 3 = pc2) (G1 : x < y → Go p e below Φ T (mkF m pc1 Ls rest)) (G2 : ¬ x < y → Go p e below Φ T (mkF m pc2 Ls rest)) : Go p e below Φ T (mkF m pc Ls (.int y :: .int x :: rest)) := by
  subst hp1 hp2
  by_cases q : x < y
  · exact g1 W (fun t ha hx hb' q' => XS.icmpYes ha hx rfl rfl (hb hb' hd) rfl (tlt q).1 ho rfl q') (G1 q)
  · have q : ¬ x < y := by first | exact q | exact Classical.not_not.mp q
    exact g1 W (fun t ha hx hb' q' => XS.icmpNo ha hx rfl (hb hb' hd) rfl (flt q).1 q') (G2 q)
theorem s_ifge {o : Int} {pc1 pc2 : Nat} {x : Int32} (W : Wk p l e R s m args below meth c Z a0 EL n0 kn wd own bytes ml ws T h k n) (hd : decode bytes pc = .ok (.ifCond .ge o, 3)) (ho : 0 ≤ (pc : Int) + o) (hp1 : ((pc : Int) + o).toNat = pc1) (hp2 : pc + 3 = pc2) (G1 : ¬ x < (0 : Int32) → Go p e below Φ T (mkF m pc1 Ls rest)) (G2 : x < (0 : Int32) → Go p e below Φ T (mkF m pc2 Ls rest)) : Go p e below Φ T (mkF m pc Ls (.int x :: rest)) := by
  subst hp1 hp2
  by_cases q : ¬ x < (0 : Int32)
  · exact g1 W (fun t ha hx hb' q' => XS.ifYes ha hx rfl rfl (hb hb' hd) rfl ((if0 _ _).trans (flt q).2.1) ho rfl q') (G1 q)
  · have q : x < (0 : Int32) := by first | exact q | exact Classical.not_not.mp q
    exact g1 W (fun t ha hx hb' q' => XS.ifNo ha hx rfl (hb hb' hd) rfl ((if0 _ _).trans (tlt q).2.1) q') (G2 q)
theorem s_icmpge {o : Int} {pc1 pc2 : Nat} {x y : Int32} (W : Wk p l e R s m args below meth c Z a0 EL n0 kn wd own bytes ml ws T h k n) (hd : decode bytes pc = .ok (.if_icmp .ge o, 3)) (ho : 0 ≤ (pc : Int) + o) (hp1 : ((pc : Int) + o).toNat = pc1) (hp2 : pc + 3 = pc2) (G1 : ¬ x < y → Go p e below Φ T (mkF m pc1 Ls rest)) (G2 : x < y → Go p e below Φ T (mkF m pc2 Ls rest)) : Go p e below Φ T (mkF m pc Ls (.int y :: .int x :: rest)) := by
  subst hp1 hp2
  by_cases q : ¬ x < y
  · exact g1 W (fun t ha hx hb' q' => XS.icmpYes ha hx rfl rfl (hb hb' hd) rfl (flt q).2.1 ho rfl q') (G1 q)
  · have q : x < y := by first | exact q | exact Classical.not_not.mp q
    exact g1 W (fun t ha hx hb' q' => XS.icmpNo ha hx rfl (hb hb' hd) rfl (tlt q).2.1 q') (G2 q)
theorem s_ifgt {o : Int} {pc1 pc2 : Nat} {x : Int32} (W : Wk p l e R s m args below meth c Z a0 EL n0 kn wd own bytes ml ws T h k n) (hd : decode bytes pc = .ok (.ifCond .gt o, 3)) (ho : 0 ≤ (pc : Int) + o) (hp1 : ((pc : Int) + o).toNat = pc1) (hp2 : pc + 3 = pc2) (G1 : (0 : Int32) < x → Go p e below Φ T (mkF m pc1 Ls rest)) (G2 : ¬ (0 : Int32) < x → Go p e below Φ T (mkF m pc2 Ls rest)) : Go p e below Φ T (mkF m pc Ls (.int x :: rest)) := by
  subst hp1 hp2
  by_cases q : (0 : Int32) < x
  · exact g1 W (fun t ha hx hb' q' => XS.ifYes ha hx rfl rfl (hb hb' hd) rfl ((if0 _ _).trans (tlt q).2.2.1) ho rfl q') (G1 q)
  · have q : ¬ (0 : Int32) < x := by first | exact q | exact Classical.not_not.mp q
    exact g1 W (fun t ha hx hb' q' => XS.ifNo ha hx rfl (hb hb' hd) rfl ((if0 _ _).trans (flt q).2.2.1) q') (G2 q)
theorem s_icmpgt {o : Int} {pc1 pc2 : Nat} {x y : Int32} (W : Wk p l e R s m args below meth c Z a0 EL n0 kn wd own bytes ml ws T h k n) (hd : decode bytes pc = .ok (.if_icmp .gt o, 3)) (ho : 0 ≤ (pc : Int) + o) (hp1 : ((pc : Int) + o).toNat = pc1) (hp2 : pc + 3 = pc2) (G1 : y < x → Go p e below Φ T (mkF m pc1 Ls rest)) (G2 : ¬ y < x → Go p e below Φ T (mkF m pc2 Ls rest)) : Go p e below Φ T (mkF m pc Ls (.int y :: .int x :: rest)) := by
  subst hp1 hp2
  by_cases q : y < x
  · exact g1 W (fun t ha hx hb' q' => XS.icmpYes ha hx rfl rfl (hb hb' hd) rfl (tlt q).2.2.1 ho rfl q') (G1 q)
  · have q : ¬ y < x := by first | exact q | exact Classical.not_not.mp q
    exact g1 W (fun t ha hx hb' q' => XS.icmpNo ha hx rfl (hb hb' hd) rfl (flt q).2.2.1 q') (G2 q)
theorem s_ifle {o : Int} {pc1 pc2 : Nat} {x : Int32} (W : Wk p l e R s m args below meth c Z a0 EL n0 kn wd own bytes ml ws T h k n) (hd : decode bytes pc = .ok (.ifCond .le o, 3)) (ho : 0 ≤ (pc : Int) + o) (hp1 : ((pc : Int) + o).toNat = pc1) (hp2 : pc + 3 = pc2) (G1 : ¬ (0 : Int32) < x → Go p e below Φ T (mkF m pc1 Ls rest)) (G2 : (0 : Int32) < x → Go p e below Φ T (mkF m pc2 Ls rest)) : Go p e below Φ T (mkF m pc Ls (.int x :: rest)) := by
  subst hp1 hp2
  by_cases q : ¬ (0 : Int32) < x
  · exact g1 W (fun t ha hx hb' q' => XS.ifYes ha hx rfl rfl (hb hb' hd) rfl ((if0 _ _).trans (flt q).2.2.2) ho rfl q') (G1 q)
  · have q : (0 : Int32) < x := by first | exact q | exact Classical.not_not.mp q
    exact g1 W (fun t ha hx hb' q' => XS.ifNo ha hx rfl (hb hb' hd) rfl ((if0 _ _).trans (tlt q).2.2.2) q') (G2 q)
theorem s_icmple {o : Int} {pc1 pc2 : Nat} {x y : Int32} (W : Wk p l e R s m args below meth c Z a0 EL n0 kn wd own bytes ml ws T h k n) (hd : decode bytes pc = .ok (.if_icmp .le o, 3)) (ho : 0 ≤ (pc : Int) + o) (hp1 : ((pc : Int) + o).toNat = pc1) (hp2 : pc + 3 = pc2) (G1 : ¬ y < x → Go p e below Φ T (mkF m pc1 Ls rest)) (G2 : y < x → Go p e below Φ T (mkF m pc2 Ls rest)) : Go p e below Φ T (mkF m pc Ls (.int y :: .int x :: rest)) := by
  subst hp1 hp2
  by_cases q : ¬ y < x
  · exact g1 W (fun t ha hx hb' q' => XS.icmpYes ha hx rfl rfl (hb hb' hd) rfl (flt q).2.2.2 ho rfl q') (G1 q)
  · have q : y < x := by first | exact q | exact Classical.not_not.mp q
    exact g1 W (fun t ha hx hb' q' => XS.icmpNo ha hx rfl (hb hb' hd) rfl (tlt q).2.2.2 q') (G2 q)
theorem s_ifnull {o : Int} {pc1 pc2 : Nat} {v : Value} (W : Wk p l e R s m args below meth c Z a0 EL n0 kn wd own bytes ml ws T h k n) (hd : decode bytes pc = .ok (.ifnull o, 3)) (hv : v.isRef = true) (ho : 0 ≤ (pc : Int) + o) (hp1 : ((pc : Int) + o).toNat = pc1) (hp2 : pc + 3 = pc2) (G1 : v = .null → Go p e below Φ T (mkF m pc1 Ls rest)) (G2 : ¬ v = .null → Go p e below Φ T (mkF m pc2 Ls rest)) : Go p e below Φ T (mkF m pc Ls (v :: rest)) := by
  subst hp1 hp2
  by_cases q : v = .null
  · exact g1 W (fun t ha hx hb' q' => XT.nullYes ha hx rfl rfl (hb hb' hd) rfl q ho rfl q') (G1 q)
  · have q : ¬ v = .null := by first | exact q | exact Classical.not_not.mp q
    exact g1 W (fun t ha hx hb' q' => XT.nullNo ha hx rfl (hb hb' hd) rfl hv q q') (G2 q)
theorem s_ifnonnull {o : Int} {pc1 pc2 : Nat} {v : Value} (W : Wk p l e R s m args below meth c Z a0 EL n0 kn wd own bytes ml ws T h k n) (hd : decode bytes pc = .ok (.ifnonnull o, 3)) (hv : v.isRef = true) (ho : 0 ≤ (pc : Int) + o) (hp1 : ((pc : Int) + o).toNat = pc1) (hp2 : pc + 3 = pc2) (G1 : ¬ v = .null → Go p e below Φ T (mkF m pc1 Ls rest)) (G2 : v = .null → Go p e below Φ T (mkF m pc2 Ls rest)) : Go p e below Φ T (mkF m pc Ls (v :: rest)) := by
  subst hp1 hp2
  by_cases q : ¬ v = .null
  · exact g1 W (fun t ha hx hb' q' => XT.nonnullYes ha hx rfl rfl (hb hb' hd) rfl hv q ho rfl q') (G1 q)
  · have q : v = .null := by first | exact q | exact Classical.not_not.mp q
    exact g1 W (fun t ha hx hb' q' => XT.nonnullNo ha hx rfl (hb hb' hd) rfl q q') (G2 q)
theorem s_acmpeq {o : Int} {pc1 pc2 : Nat} {v w : Value} (W : Wk p l e R s m args below meth c Z a0 EL n0 kn wd own bytes ml ws T h k n) (hd : decode bytes pc = .ok (.if_acmp .eq o, 3)) (hv : v.isRef = true) (hw' : w.isRef = true) (ho : 0 ≤ (pc : Int) + o) (hp1 : ((pc : Int) + o).toNat = pc1) (hp2 : pc + 3 = pc2) (G1 : v = w → Go p e below Φ T (mkF m pc1 Ls rest)) (G2 : ¬ v = w → Go p e below Φ T (mkF m pc2 Ls rest)) : Go p e below Φ T (mkF m pc Ls (w :: v :: rest)) := by
  subst hp1 hp2
  by_cases q : v = w
  · exact g1 W (fun t ha hx hb' q' => XT.acmpYes ha hx rfl rfl (hb hb' hd) rfl hv hw' (decide_eq_true q) ho rfl q') (G1 q)
  · have q : ¬ v = w := by first | exact q | exact Classical.not_not.mp q
    exact g1 W (fun t ha hx hb' q' => XT.acmpNo ha hx rfl (hb hb' hd) rfl hv hw' (decide_eq_false q) q') (G2 q)
theorem s_acmpne {o : Int} {pc1 pc2 : Nat} {v w : Value} (W : Wk p l e R s m args below meth c Z a0 EL n0 kn wd own bytes ml ws T h k n) (hd : decode bytes pc = .ok (.if_acmp .ne o, 3)) (hv : v.isRef = true) (hw' : w.isRef = true) (ho : 0 ≤ (pc : Int) + o) (hp1 : ((pc : Int) + o).toNat = pc1) (hp2 : pc + 3 = pc2) (G1 : ¬ v = w → Go p e below Φ T (mkF m pc1 Ls rest)) (G2 : v = w → Go p e below Φ T (mkF m pc2 Ls rest)) : Go p e below Φ T (mkF m pc Ls (w :: v :: rest)) := by
  subst hp1 hp2
  by_cases q : ¬ v = w
  · exact g1 W (fun t ha hx hb' q' => XT.acmpYes ha hx rfl rfl (hb hb' hd) rfl hv hw' (decide_eq_true q) ho rfl q') (G1 q)
  · have q : v = w := by first | exact q | exact Classical.not_not.mp q
    exact g1 W (fun t ha hx hb' q' => XT.acmpNo ha hx rfl (hb hb' hd) rfl hv hw' (decide_eq_false (fun r => r q)) q') (G2 q)
theorem s_ldcI {index : Nat} {v : Int32} (W : Wk p l e R s m args below meth c Z a0 EL n0 kn wd own bytes ml ws T h k n) (w : (Jvm.Cond.constant own index v).before a0 Z = true) (hd : decode bytes pc = .ok (.ldc index, 2)) (hp : pc + 2 = pc') (G : Go p e below Φ T (mkF m pc' Ls (.int v :: st))) : Go p e below Φ T (mkF m pc Ls st) := by
  subst hp
  exact g2 W (fun vm0 locs X hx hb' hZ eT hO t q => X.ldcInt hx hO (mv (s := s.setVm vm0) hZ w) (g := mkF m pc Ls st) rfl (hb hb' hd) t q) G
theorem s_ldcJ {index : Nat} {v : Int64} (W : Wk p l e R s m args below meth c Z a0 EL n0 kn wd own bytes ml ws T h k n) (w : (Jvm.Cond.constantLong own index v).before a0 Z = true) (hd : decode bytes pc = .ok (.ldc2_w index, 3)) (hp : pc + 3 = pc') (G : Go p e below Φ T (mkF m pc' Ls (.long v :: st))) : Go p e below Φ T (mkF m pc Ls st) := by
  subst hp
  exact g2 W (fun vm0 locs X hx hb' hZ eT hO t q => X.ldc2Long hx hO (mv (s := s.setVm vm0) hZ w) (g := mkF m pc Ls st) rfl (hb hb' hd) t q) G
theorem s_castNull {index : Nat} (W : Wk p l e R s m args below meth c Z a0 EL n0 kn wd own bytes ml ws T h k n) (hd : decode bytes pc = .ok (.checkcast index, 3)) (hp : pc + 3 = pc') (G : Go p e below Φ T (mkF m pc' Ls (.null :: rest))) : Go p e below Φ T (mkF m pc Ls (.null :: rest)) := by
  subst hp
  exact g2 W (fun vm0 locs X hx hb' hZ eT hO t q => X.checkcastNull hx (g := mkF m pc Ls (.null :: rest)) rfl rfl (hb hb' hd) t q) G
theorem s_instNull {index : Nat} (W : Wk p l e R s m args below meth c Z a0 EL n0 kn wd own bytes ml ws T h k n) (hd : decode bytes pc = .ok (.instanceof index, 3)) (hp : pc + 3 = pc') (G : Go p e below Φ T (mkF m pc' Ls (.int 0 :: rest))) : Go p e below Φ T (mkF m pc Ls (.null :: rest)) := by
  subst hp
  exact g2 W (fun vm0 locs X hx hb' hZ eT hO t q => X.instanceofNull hx (g := mkF m pc Ls (.null :: rest)) rfl rfl (hb hb' hd) t q) G
theorem Go.cast {f f' : JFrame} (q : f = f') (G : Go p e below Φ T f') : Go p e below Φ T f := q ▸ G
end OwnSteps
section OwnNat
theorem natlt {a n : Nat} (q : a < n) : a < n := q
theorem natle {a n : Nat} (q : a ≤ n) : a ≤ n := q
theorem nateq {a n : Nat} (q : a = n) : a = n := q
theorem ane {a b : Nat} (q : a < b ∨ b < a) : a ≠ b := by omega
end OwnNat
section OwnFacts
variable {Z : State} {h h' h0 : Heap} {a b : Addr} {ws : List Addr} {v w : Value}
theorem isRef_cat (q : v.isRef = true) : v.category = 1 := by cases v <;> first | rfl | (simp [Value.isRef] at q)
theorem narrow_ref {ty : FieldType} (q : v.isRef = true) : narrow ty v = v := by cases v <;> first | (simp [Value.isRef] at q; done) | (cases ty <;> rfl)
theorem fits_ref' {ty : FieldType} (ht : ty.isReference = true) (q : v.isRef = true) : fits ty v = true := by cases ty <;> cases v <;> first | rfl | (simp [Value.isRef] at q; done) | (simp [FieldType.isReference] at ht; done)
/-- a String, its byte array, its coder -/
def Str (Z : State) (h : Heap) (a b : Addr) (kb : ClassId) (cd z : Int32) (bs : List Value) : Prop := Exa Z h a "java/lang/String" ∧ Fld Z h a "java/lang/String" "value" "[B" (.ref b) ∧ Fld Z h a "java/lang/String" "coder" "B" (.int cd) ∧ Arv Z h b kb .byte z bs (.int 0)
theorem Str.keep {kb : ClassId} {cd z : Int32} {bs : List Value} (S : Str Z h a b kb cd z bs) (K : Keep h h' ws) (ha : a ∉ ws) (hb : b ∉ ws) : Str Z h' a b kb cd z bs := ⟨S.1.keep K, S.2.1.keep K ha, S.2.2.1.keep K ha, S.2.2.2.keep K hb⟩
theorem Str.ext {kb : ClassId} {cd z : Int32} {bs : List Value} (S : Str Z h a b kb cd z bs) (E : Ext h h') : Str Z h' a b kb cd z bs := ⟨S.1.ext E, S.2.1.ext E, S.2.2.1.ext E, S.2.2.2.ext E⟩
theorem Unt.keep' (U : Unt h a) (K : Keep h h' ws) (q : a ∉ ws) : Unt h' a := Unt.keep K q U
def One1 (s : Slot) : Prop := s = .unset ∨ ∃ v, s = .val v ∧ v.category = 1
theorem One1.i (x : Int32) : One1 (.val (.int x)) := Or.inr ⟨_, rfl, rfl⟩
theorem One1.u : One1 .unset := Or.inl rfl
theorem n32 {j : Nat} (q : j < 2147483648) : j.toInt32.toInt = (j : Int) := Int32.toInt_ofNat_small (by omega)
theorem n32c {j : Nat} (q : j < 2147483648) : j.toInt32.toNatClampNeg = j := by
  show j.toInt32.toInt.toNat = j
  rw [n32 q]; exact Int.toNat_natCast j
theorem n32s (j : Nat) : j.toInt32 + (1 : Int32) = (j + 1).toInt32 := (Int32.ofNat_add j 1).symm
theorem set_last (vs : List Value) (d x : Value) {j : Nat} (q : j = vs.length) : (vs ++ List.replicate 1 d).set j x = vs ++ [x] := by
  subst q; simp
theorem take_succ' (f : Int32 → Value) (cs : List Int32) {j : Nat} (q : j < cs.length) : (cs.take (j + 1)).map f = (cs.take j).map f ++ [f cs[j]] := by
  rw [List.take_succ_eq_append_getElem q, List.map_append]; rfl
theorem getD_map' (f : Int32 → Value) (cs : List Int32) (d : Value) {j : Nat} (q : j < cs.length) : (cs.map f).getD j d = f cs[j] := by
  rw [List.getD_eq_getElem?_getD, List.getElem?_map, List.getElem?_eq_getElem q]; rfl
theorem lt32 {x y : Int32} (q : x.toInt < y.toInt) : x < y := Int32.lt_iff_toInt_lt.mpr q
theorem nlt32 {x y : Int32} (q : ¬ x.toInt < y.toInt) : ¬ x < y := fun r => q (Int32.lt_iff_toInt_lt.mp r)
theorem eq32 {x y : Int32} (q : x.toInt = y.toInt) : x = y := Int32.toInt_inj.mp q
theorem zero32 : (0 : Int32).toInt = 0 := by decide
end OwnFacts
section OwnWords
theorem allC {P : Jvm.Cond → Prop} {y : Jvm.Cond} {L : List Jvm.Cond} (q : P y) (r : ∀ x ∈ L, P x) : ∀ x ∈ y :: L, P x := fun x z => (List.mem_cons.mp z).elim (fun u => u ▸ q) (r x)
theorem allC0 {P : Jvm.Cond → Prop} : ∀ x ∈ ([] : List Jvm.Cond), P x := fun _ q => nomatch q
end OwnWords
section OwnStr
variable {Z : State} {h h' h0 : Heap} {a b : Addr} {ws : List Addr} {v w : Value} {a0 : Array Value}
theorem Str.uniq {d1 d2 : Addr} {k1 k2 : ClassId} {cd1 cd2 z1 z2 : Int32} {xs1 xs2 : List Int32} (S1 : Str Z h a d1 k1 cd1 z1 (xs1.map Value.int)) (S2 : Str Z h a d2 k2 cd2 z2 (xs2.map Value.int)) (l1 : z1.toInt = xs1.length) (l2 : z2.toInt = xs2.length) : cd1 = cd2 ∧ xs1 = xs2 := by
  have hd : d1 = d2 := by
    by_cases q : d1 = d2
    · exact q
    · exact absurd rfl (S1.2.1.ne S2.2.1 (fun r => q (Value.ref.inj r)))
  have hc : cd1 = cd2 := by
    by_cases q : cd1 = cd2
    · exact q
    · exact absurd rfl (S1.2.2.1.ne S2.2.2.1 (fun r => q (Value.int.inj r)))
  subst hd
  refine ⟨hc, ?_⟩
  have e1 : z1.toNatClampNeg = xs1.length := by show z1.toInt.toNat = _; omega
  have e2 : z2.toNatClampNeg = xs2.length := by show z2.toInt.toNat = _; omega
  have hl : xs1.length = xs2.length := by
    by_cases q : z1.toNatClampNeg = z2.toNatClampNeg
    · rw [← e1, ← e2]; exact q
    · exact absurd rfl (arv_ne S1.2.2.2 S2.2.2.2 (Or.inl q))
  refine List.ext_getElem hl fun i q1 q2 => ?_
  by_cases q : xs1[i] = xs2[i]
  · exact q
  · refine absurd rfl (arv_ne S1.2.2.2 S2.2.2.2 (Or.inr ⟨i, by omega, ?_⟩))
    rw [getD_map' _ _ _ q1, getD_map' _ _ _ q2]
    exact fun r => q (Value.int.inj r)
/-- null, or a String of these bytes -/
def NSt (Z : State) (h : Heap) (w : Value) (o : Option (List Int32)) : Prop := match o with
  | none => w = .null
  | some xs => ∃ (a d : Addr) (kd : ClassId) (z : Int32), w = .ref a ∧ z.toInt = xs.length ∧ xs.length ≤ 64 ∧ Str Z h a d kd 0 z (xs.map Value.int)
theorem NSt.ref {o : Option (List Int32)} (N : NSt Z h w o) : w.isRef = true := by
  cases o with
  | none => cases N; rfl
  | some xs => obtain ⟨a, d, kd, z, rfl, -⟩ := N; rfl
theorem NSt.ext {o : Option (List Int32)} (N : NSt Z h w o) (E : Ext h h') : NSt Z h' w o := by
  cases o with
  | none => exact N
  | some xs => obtain ⟨a, d, kd, z, h1, h2, h3, S⟩ := N; exact ⟨a, d, kd, z, h1, h2, h3, S.ext E⟩
theorem NSt.keep0 {o : Option (List Int32)} (N : NSt Z h w o) (K : Keep h h' []) : NSt Z h' w o := by
  cases o with
  | none => exact N
  | some xs => obtain ⟨a, d, kd, z, h1, h2, h3, S⟩ := N; exact ⟨a, d, kd, z, h1, h2, h3, S.keep K nin0 nin0⟩
theorem NSt.keepX {o : Option (List Int32)} {C : String} {nn : Nat} (N : NSt Z h w o) (E : Exa Z h b C) (hC : C ≠ "java/lang/String") (wi : (Jvm.Cond.instantiable C nn).before a0 Z = true) (K : Keep h h' [b]) : NSt Z h' w o := by
  cases o with
  | none => exact N
  | some xs =>
    obtain ⟨a, d, kd, z, h1, h2, h3, S⟩ := N
    exact ⟨a, d, kd, z, h1, h2, h3, S.keep K (ninS (Ne.symm (ne_exa E S.1 hC)) nin0) (ninS (Ne.symm (E.neArv S.2.2.2 wi)) nin0)⟩
end OwnStr
section OwnChars
theorem byteCharF : ∀ n : Fin 256, nar .char (((Int32.ofNat n.val).toInt8.toInt32 &&& (255 : Int32)).toUInt32.toUInt16.toUInt32.toInt32) = Int32.ofNat n.val := by decide +kernel
theorem byteChar {c : Int32} (q : 0 ≤ c.toInt ∧ c.toInt < 256) : nar .char ((c.toInt8.toInt32 &&& (255 : Int32)).toUInt32.toUInt16.toUInt32.toInt32) = c := by
  have e : c = Int32.ofNat c.toInt.toNat := eq32 (by rw [show (Int32.ofNat c.toInt.toNat).toInt = _ from n32 (by omega)]; omega)
  rw [e]
  exact byteCharF ⟨c.toInt.toNat, by omega⟩
end OwnChars
section OwnChars2
theorem nar_charF : ∀ n : Fin 256, nar .char (Int32.ofNat n.val) = Int32.ofNat n.val := by decide +kernel
theorem nar_char {c : Int32} (q : 0 ≤ c.toInt ∧ c.toInt < 256) : nar .char c = c := by
  have e : c = Int32.ofNat c.toInt.toNat := eq32 (by rw [show (Int32.ofNat c.toInt.toNat).toInt = _ from n32 (by omega)]; omega)
  rw [e]
  exact nar_charF ⟨c.toInt.toNat, by omega⟩
end OwnChars2
abbrev EL0 : List (String × Nat) := [("com/example/trifold/trifold/model/XmiIdentityEqualsPinLaw", 31), ("java/lang/String", 7)]
theorem w_0 {Z : State} {a0 : Array Value} (hw : ∀ d ∈ tables_1, d.before a0 Z = true) : (Jvm.Cond.classLink "com/example/trifold/trifold/model/XmiIdentityEqualsPinLaw" (16 : Nat) "com/example/trifold/trifold/model/XmiIdentity").before a0 Z = true := hw _ (List.mem_of_getElem? (i := 0) rfl)
theorem w_1 {Z : State} {a0 : Array Value} (hw : ∀ d ∈ tables_1, d.before a0 Z = true) : (Jvm.Cond.instantiable "com/example/trifold/trifold/model/XmiIdentity" (2 : Nat)).before a0 Z = true := hw _ (List.mem_of_getElem? (i := 1) rfl)
theorem w_2 {Z : State} {a0 : Array Value} (hw : ∀ d ∈ tables_1, d.before a0 Z = true) : (Jvm.Cond.initialized "com/example/trifold/trifold/model/XmiIdentity").before a0 Z = true := hw _ (List.mem_of_getElem? (i := 2) rfl)
theorem w_3 {Z : State} {a0 : Array Value} (hw : ∀ d ∈ tables_1, d.before a0 Z = true) : (Jvm.Cond.methodLink "com/example/trifold/trifold/model/XmiIdentityEqualsPinLaw" (18 : Nat) ({ cls := "com/example/trifold/trifold/model/XmiIdentityEqualsPinLaw", name := "mk", desc := "(I)Ljava/lang/String;" } : Jvm.MethodName)).before a0 Z = true := hw _ (List.mem_of_getElem? (i := 3) rfl)
theorem w_4 {Z : State} {a0 : Array Value} (hw : ∀ d ∈ tables_1, d.before a0 Z = true) : (Jvm.Cond.static ({ cls := "com/example/trifold/trifold/model/XmiIdentityEqualsPinLaw", name := "mk", desc := "(I)Ljava/lang/String;" } : Jvm.MethodName)).before a0 Z = true := hw _ (List.mem_of_getElem? (i := 4) rfl)
theorem w_5 {Z : State} {a0 : Array Value} (hw : ∀ d ∈ tables_1, d.before a0 Z = true) : (Jvm.Cond.initialized "com/example/trifold/trifold/model/XmiIdentityEqualsPinLaw").before a0 Z = true := hw _ (List.mem_of_getElem? (i := 5) rfl)
theorem w_6 {Z : State} {a0 : Array Value} (hw : ∀ d ∈ tables_1, d.before a0 Z = true) : (Jvm.Cond.code ({ cls := "com/example/trifold/trifold/model/XmiIdentityEqualsPinLaw", name := "mk", desc := "(I)Ljava/lang/String;" } : Jvm.MethodName) method_2_code (3 : Nat) (Option.some (Jvm.ClassFile.FieldType.object "java/lang/String"))).before a0 Z = true := hw _ (List.mem_of_getElem? (i := 6) rfl)
theorem w_7 {Z : State} {a0 : Array Value} (hw : ∀ d ∈ tables_1, d.before a0 Z = true) : (Jvm.Cond.arrayClass Jvm.ClassFile.FieldType.char).before a0 Z = true := hw _ (List.mem_of_getElem? (i := 7) rfl)
theorem w_8 {Z : State} {a0 : Array Value} (hw : ∀ d ∈ tables_1, d.before a0 Z = true) : (Jvm.Cond.classLink "com/example/trifold/trifold/model/XmiIdentityEqualsPinLaw" (7 : Nat) "java/lang/String").before a0 Z = true := hw _ (List.mem_of_getElem? (i := 8) rfl)
theorem w_9 {Z : State} {a0 : Array Value} (hw : ∀ d ∈ tables_1, d.before a0 Z = true) : (Jvm.Cond.instantiable "java/lang/String" (4 : Nat)).before a0 Z = true := hw _ (List.mem_of_getElem? (i := 9) rfl)
theorem w_10 {Z : State} {a0 : Array Value} (hw : ∀ d ∈ tables_1, d.before a0 Z = true) : (Jvm.Cond.initialized "java/lang/String").before a0 Z = true := hw _ (List.mem_of_getElem? (i := 10) rfl)
theorem w_11 {Z : State} {a0 : Array Value} (hw : ∀ d ∈ tables_1, d.before a0 Z = true) : (Jvm.Cond.methodLink "com/example/trifold/trifold/model/XmiIdentityEqualsPinLaw" (9 : Nat) ({ cls := "java/lang/String", name := "<init>", desc := "([C)V" } : Jvm.MethodName)).before a0 Z = true := hw _ (List.mem_of_getElem? (i := 11) rfl)
theorem w_12 {Z : State} {a0 : Array Value} (hw : ∀ d ∈ tables_1, d.before a0 Z = true) : (Jvm.Cond.instanceMethod ({ cls := "java/lang/String", name := "<init>", desc := "([C)V" } : Jvm.MethodName)).before a0 Z = true := hw _ (List.mem_of_getElem? (i := 12) rfl)
theorem w_13 {Z : State} {a0 : Array Value} (hw : ∀ d ∈ tables_1, d.before a0 Z = true) : (Jvm.Cond.code ({ cls := "java/lang/String", name := "<init>", desc := "([C)V" } : Jvm.MethodName) jdk_42_method_3_code (2 : Nat) (Option.none : Option Jvm.ClassFile.FieldType)).before a0 Z = true := hw _ (List.mem_of_getElem? (i := 13) rfl)
theorem w_14 {Z : State} {a0 : Array Value} (hw : ∀ d ∈ tables_1, d.before a0 Z = true) : (Jvm.Cond.methodLink "java/lang/String" (27 : Nat) ({ cls := "java/lang/String", name := "<init>", desc := "([CIILjava/lang/Void;)V" } : Jvm.MethodName)).before a0 Z = true := hw _ (List.mem_of_getElem? (i := 14) rfl)
theorem w_15 {Z : State} {a0 : Array Value} (hw : ∀ d ∈ tables_1, d.before a0 Z = true) : (Jvm.Cond.instanceMethod ({ cls := "java/lang/String", name := "<init>", desc := "([CIILjava/lang/Void;)V" } : Jvm.MethodName)).before a0 Z = true := hw _ (List.mem_of_getElem? (i := 15) rfl)
theorem w_17 {Z : State} {a0 : Array Value} (hw : ∀ d ∈ tables_1, d.before a0 Z = true) : (Jvm.Cond.code ({ cls := "java/lang/String", name := "<init>", desc := "([CIILjava/lang/Void;)V" } : Jvm.MethodName) jdk_42_method_149_code (6 : Nat) (Option.none : Option Jvm.ClassFile.FieldType)).before a0 Z = true := hw _ (List.mem_of_getElem? (i := 17) rfl)
theorem w_18 {Z : State} {a0 : Array Value} (hw : ∀ d ∈ tables_1, d.before a0 Z = true) : (Jvm.Cond.methodLink "java/lang/String" (1 : Nat) ({ cls := "java/lang/Object", name := "<init>", desc := "()V" } : Jvm.MethodName)).before a0 Z = true := hw _ (List.mem_of_getElem? (i := 18) rfl)
theorem w_19 {Z : State} {a0 : Array Value} (hw : ∀ d ∈ tables_1, d.before a0 Z = true) : (Jvm.Cond.instanceMethod ({ cls := "java/lang/Object", name := "<init>", desc := "()V" } : Jvm.MethodName)).before a0 Z = true := hw _ (List.mem_of_getElem? (i := 19) rfl)
theorem w_20 {Z : State} {a0 : Array Value} (hw : ∀ d ∈ tables_1, d.before a0 Z = true) : (Jvm.Cond.code ({ cls := "java/lang/Object", name := "<init>", desc := "()V" } : Jvm.MethodName) object_method_1_code (1 : Nat) (Option.none : Option Jvm.ClassFile.FieldType)).before a0 Z = true := hw _ (List.mem_of_getElem? (i := 20) rfl)
theorem w_21 {Z : State} {a0 : Array Value} (hw : ∀ d ∈ tables_1, d.before a0 Z = true) : (Jvm.Cond.fieldLink "java/lang/String" (38 : Nat) "java/lang/String" "COMPACT_STRINGS" "Z").before a0 Z = true := hw _ (List.mem_of_getElem? (i := 21) rfl)
theorem w_22 {Z : State} {a0 : Array Value} (hw : ∀ d ∈ tables_1, d.before a0 Z = true) : (Jvm.Cond.methodLink "java/lang/String" (177 : Nat) ({ cls := "java/lang/StringUTF16", name := "compress", desc := "([CII)[B" } : Jvm.MethodName)).before a0 Z = true := hw _ (List.mem_of_getElem? (i := 22) rfl)
theorem w_23 {Z : State} {a0 : Array Value} (hw : ∀ d ∈ tables_1, d.before a0 Z = true) : (Jvm.Cond.static ({ cls := "java/lang/StringUTF16", name := "compress", desc := "([CII)[B" } : Jvm.MethodName)).before a0 Z = true := hw _ (List.mem_of_getElem? (i := 23) rfl)
theorem w_24 {Z : State} {a0 : Array Value} (hw : ∀ d ∈ tables_1, d.before a0 Z = true) : (Jvm.Cond.initialized "java/lang/StringUTF16").before a0 Z = true := hw _ (List.mem_of_getElem? (i := 24) rfl)
theorem w_25 {Z : State} {a0 : Array Value} (hw : ∀ d ∈ tables_1, d.before a0 Z = true) : (Jvm.Cond.code ({ cls := "java/lang/StringUTF16", name := "compress", desc := "([CII)[B" } : Jvm.MethodName) jdk_52_method_16_code (6 : Nat) (Option.some (Jvm.ClassFile.FieldType.array Jvm.ClassFile.FieldType.byte))).before a0 Z = true := hw _ (List.mem_of_getElem? (i := 25) rfl)
theorem w_26 {Z : State} {a0 : Array Value} (hw : ∀ d ∈ tables_1, d.before a0 Z = true) : (Jvm.Cond.arrayClass Jvm.ClassFile.FieldType.byte).before a0 Z = true := hw _ (List.mem_of_getElem? (i := 26) rfl)
theorem w_27 {Z : State} {a0 : Array Value} (hw : ∀ d ∈ tables_1, d.before a0 Z = true) : (Jvm.Cond.methodLink "java/lang/StringUTF16" (115 : Nat) ({ cls := "java/lang/StringUTF16", name := "compress", desc := "([CI[BII)I" } : Jvm.MethodName)).before a0 Z = true := hw _ (List.mem_of_getElem? (i := 27) rfl)
theorem w_28 {Z : State} {a0 : Array Value} (hw : ∀ d ∈ tables_1, d.before a0 Z = true) : (Jvm.Cond.static ({ cls := "java/lang/StringUTF16", name := "compress", desc := "([CI[BII)I" } : Jvm.MethodName)).before a0 Z = true := hw _ (List.mem_of_getElem? (i := 28) rfl)
theorem w_29 {Z : State} {a0 : Array Value} (hw : ∀ d ∈ tables_1, d.before a0 Z = true) : (Jvm.Cond.code ({ cls := "java/lang/StringUTF16", name := "compress", desc := "([CI[BII)I" } : Jvm.MethodName) jdk_52_method_21_code (7 : Nat) (Option.some Jvm.ClassFile.FieldType.int)).before a0 Z = true := hw _ (List.mem_of_getElem? (i := 29) rfl)
theorem w_30 {Z : State} {a0 : Array Value} (hw : ∀ d ∈ tables_1, d.before a0 Z = true) : (Jvm.Cond.methodLink "java/lang/String" (47 : Nat) ({ cls := "java/lang/StringUTF16", name := "coderFromArrayLen", desc := "([BI)B" } : Jvm.MethodName)).before a0 Z = true := hw _ (List.mem_of_getElem? (i := 30) rfl)
theorem w_31 {Z : State} {a0 : Array Value} (hw : ∀ d ∈ tables_1, d.before a0 Z = true) : (Jvm.Cond.static ({ cls := "java/lang/StringUTF16", name := "coderFromArrayLen", desc := "([BI)B" } : Jvm.MethodName)).before a0 Z = true := hw _ (List.mem_of_getElem? (i := 31) rfl)
theorem w_32 {Z : State} {a0 : Array Value} (hw : ∀ d ∈ tables_1, d.before a0 Z = true) : (Jvm.Cond.code ({ cls := "java/lang/StringUTF16", name := "coderFromArrayLen", desc := "([BI)B" } : Jvm.MethodName) jdk_52_method_15_code (2 : Nat) (Option.some Jvm.ClassFile.FieldType.byte)).before a0 Z = true := hw _ (List.mem_of_getElem? (i := 32) rfl)
theorem w_33 {Z : State} {a0 : Array Value} (hw : ∀ d ∈ tables_1, d.before a0 Z = true) : (Jvm.Cond.fieldLink "java/lang/String" (15 : Nat) "java/lang/String" "coder" "B").before a0 Z = true := hw _ (List.mem_of_getElem? (i := 33) rfl)
theorem w_34 {Z : State} {a0 : Array Value} (hw : ∀ d ∈ tables_1, d.before a0 Z = true) : (Jvm.Cond.laysFinal "java/lang/String" "java/lang/String" "coder" "B").before a0 Z = true := hw _ (List.mem_of_getElem? (i := 34) rfl)
theorem w_35 {Z : State} {a0 : Array Value} (hw : ∀ d ∈ tables_1, d.before a0 Z = true) : (Jvm.Cond.fieldLink "java/lang/String" (9 : Nat) "java/lang/String" "value" "[B").before a0 Z = true := hw _ (List.mem_of_getElem? (i := 35) rfl)
theorem w_36 {Z : State} {a0 : Array Value} (hw : ∀ d ∈ tables_1, d.before a0 Z = true) : (Jvm.Cond.laysFinal "java/lang/String" "java/lang/String" "value" "[B").before a0 Z = true := hw _ (List.mem_of_getElem? (i := 36) rfl)
theorem w_37 {Z : State} {a0 : Array Value} (hw : ∀ d ∈ tables_1, d.before a0 Z = true) : (Jvm.Cond.methodLink "com/example/trifold/trifold/model/XmiIdentityEqualsPinLaw" (24 : Nat) ({ cls := "com/example/trifold/trifold/model/XmiIdentity", name := "<init>", desc := "(Ljava/lang/String;Ljava/lang/String;)V" } : Jvm.MethodName)).before a0 Z = true := hw _ (List.mem_of_getElem? (i := 37) rfl)
theorem w_38 {Z : State} {a0 : Array Value} (hw : ∀ d ∈ tables_1, d.before a0 Z = true) : (Jvm.Cond.instanceMethod ({ cls := "com/example/trifold/trifold/model/XmiIdentity", name := "<init>", desc := "(Ljava/lang/String;Ljava/lang/String;)V" } : Jvm.MethodName)).before a0 Z = true := hw _ (List.mem_of_getElem? (i := 38) rfl)
theorem w_39 {Z : State} {a0 : Array Value} (hw : ∀ d ∈ tables_1, d.before a0 Z = true) : (Jvm.Cond.code ({ cls := "com/example/trifold/trifold/model/XmiIdentity", name := "<init>", desc := "(Ljava/lang/String;Ljava/lang/String;)V" } : Jvm.MethodName) prog_14_method_1_code (3 : Nat) (Option.none : Option Jvm.ClassFile.FieldType)).before a0 Z = true := hw _ (List.mem_of_getElem? (i := 39) rfl)
theorem w_40 {Z : State} {a0 : Array Value} (hw : ∀ d ∈ tables_1, d.before a0 Z = true) : (Jvm.Cond.methodLink "com/example/trifold/trifold/model/XmiIdentity" (1 : Nat) ({ cls := "java/lang/Record", name := "<init>", desc := "()V" } : Jvm.MethodName)).before a0 Z = true := hw _ (List.mem_of_getElem? (i := 40) rfl)
theorem w_41 {Z : State} {a0 : Array Value} (hw : ∀ d ∈ tables_1, d.before a0 Z = true) : (Jvm.Cond.instanceMethod ({ cls := "java/lang/Record", name := "<init>", desc := "()V" } : Jvm.MethodName)).before a0 Z = true := hw _ (List.mem_of_getElem? (i := 41) rfl)
theorem w_43 {Z : State} {a0 : Array Value} (hw : ∀ d ∈ tables_1, d.before a0 Z = true) : (Jvm.Cond.initialized "java/lang/Record").before a0 Z = true := hw _ (List.mem_of_getElem? (i := 43) rfl)
theorem w_44 {Z : State} {a0 : Array Value} (hw : ∀ d ∈ tables_1, d.before a0 Z = true) : (Jvm.Cond.code ({ cls := "java/lang/Record", name := "<init>", desc := "()V" } : Jvm.MethodName) jdk_30_method_1_code (1 : Nat) (Option.none : Option Jvm.ClassFile.FieldType)).before a0 Z = true := hw _ (List.mem_of_getElem? (i := 44) rfl)
theorem w_45 {Z : State} {a0 : Array Value} (hw : ∀ d ∈ tables_1, d.before a0 Z = true) : (Jvm.Cond.methodLink "java/lang/Record" (1 : Nat) ({ cls := "java/lang/Object", name := "<init>", desc := "()V" } : Jvm.MethodName)).before a0 Z = true := hw _ (List.mem_of_getElem? (i := 45) rfl)
theorem w_46 {Z : State} {a0 : Array Value} (hw : ∀ d ∈ tables_1, d.before a0 Z = true) : (Jvm.Cond.fieldLink "com/example/trifold/trifold/model/XmiIdentity" (7 : Nat) "com/example/trifold/trifold/model/XmiIdentity" "id" "Ljava/lang/String;").before a0 Z = true := hw _ (List.mem_of_getElem? (i := 46) rfl)
theorem w_47 {Z : State} {a0 : Array Value} (hw : ∀ d ∈ tables_1, d.before a0 Z = true) : (Jvm.Cond.laysFinal "com/example/trifold/trifold/model/XmiIdentity" "com/example/trifold/trifold/model/XmiIdentity" "id" "Ljava/lang/String;").before a0 Z = true := hw _ (List.mem_of_getElem? (i := 47) rfl)
theorem w_48 {Z : State} {a0 : Array Value} (hw : ∀ d ∈ tables_1, d.before a0 Z = true) : (Jvm.Cond.fieldLink "com/example/trifold/trifold/model/XmiIdentity" (13 : Nat) "com/example/trifold/trifold/model/XmiIdentity" "uuid" "Ljava/lang/String;").before a0 Z = true := hw _ (List.mem_of_getElem? (i := 48) rfl)
theorem w_49 {Z : State} {a0 : Array Value} (hw : ∀ d ∈ tables_1, d.before a0 Z = true) : (Jvm.Cond.laysFinal "com/example/trifold/trifold/model/XmiIdentity" "com/example/trifold/trifold/model/XmiIdentity" "uuid" "Ljava/lang/String;").before a0 Z = true := hw _ (List.mem_of_getElem? (i := 49) rfl)
theorem w_50 {Z : State} {a0 : Array Value} (hw : ∀ d ∈ tables_1, d.before a0 Z = true) : (Jvm.Cond.stringLink "java/lang/String" (7 : Nat) "").before a0 Z = true := hw _ (List.mem_of_getElem? (i := 50) rfl)
theorem w_51 {Z : State} {a0 : Array Value} (hw : ∀ d ∈ tables_1, d.before a0 Z = true) : (Jvm.Cond.soleField "java/lang/String" "value").before a0 Z = true := hw _ (List.mem_of_getElem? (i := 51) rfl)
theorem w_52 {Z : State} {a0 : Array Value} (hw : ∀ d ∈ tables_1, d.before a0 Z = true) : (Jvm.Cond.soleField "java/lang/String" "coder").before a0 Z = true := hw _ (List.mem_of_getElem? (i := 52) rfl)
theorem w_53 {Z : State} {a0 : Array Value} (hw : ∀ d ∈ tables_1, d.before a0 Z = true) : (Jvm.Cond.methodLink "com/example/trifold/trifold/model/XmiIdentityEqualsPinLaw" (33 : Nat) ({ cls := "com/example/trifold/trifold/model/XmiIdentityEqualsPinLaw", name := "canon", desc := "(I)J" } : Jvm.MethodName)).before a0 Z = true := hw _ (List.mem_of_getElem? (i := 53) rfl)
theorem w_54 {Z : State} {a0 : Array Value} (hw : ∀ d ∈ tables_1, d.before a0 Z = true) : (Jvm.Cond.static ({ cls := "com/example/trifold/trifold/model/XmiIdentityEqualsPinLaw", name := "canon", desc := "(I)J" } : Jvm.MethodName)).before a0 Z = true := hw _ (List.mem_of_getElem? (i := 54) rfl)
theorem w_55 {Z : State} {a0 : Array Value} (hw : ∀ d ∈ tables_1, d.before a0 Z = true) : (Jvm.Cond.code ({ cls := "com/example/trifold/trifold/model/XmiIdentityEqualsPinLaw", name := "canon", desc := "(I)J" } : Jvm.MethodName) method_3_code (6 : Nat) (Option.some Jvm.ClassFile.FieldType.long)).before a0 Z = true := hw _ (List.mem_of_getElem? (i := 55) rfl)
theorem w_56 {Z : State} {a0 : Array Value} (hw : ∀ d ∈ tables_1, d.before a0 Z = true) : (Jvm.Cond.constantLong "com/example/trifold/trifold/model/XmiIdentityEqualsPinLaw" (12 : Nat) (-1 : Int64)).before a0 Z = true := hw _ (List.mem_of_getElem? (i := 56) rfl)
theorem w_57 {Z : State} {a0 : Array Value} (hw : ∀ d ∈ tables_1, d.before a0 Z = true) : (Jvm.Cond.methodLink "com/example/trifold/trifold/model/XmiIdentityEqualsPinLaw" (27 : Nat) ({ cls := "com/example/trifold/trifold/model/XmiIdentity", name := "equals", desc := "(Ljava/lang/Object;)Z" } : Jvm.MethodName)).before a0 Z = true := hw _ (List.mem_of_getElem? (i := 57) rfl)
theorem w_58 {Z : State} {a0 : Array Value} (hw : ∀ d ∈ tables_1, d.before a0 Z = true) : (Jvm.Cond.declares ({ cls := "com/example/trifold/trifold/model/XmiIdentity", name := "equals", desc := "(Ljava/lang/Object;)Z" } : Jvm.MethodName)).before a0 Z = true := hw _ (List.mem_of_getElem? (i := 58) rfl)
theorem w_59 {Z : State} {a0 : Array Value} (hw : ∀ d ∈ tables_1, d.before a0 Z = true) : (Jvm.Cond.instanceMethod ({ cls := "com/example/trifold/trifold/model/XmiIdentity", name := "equals", desc := "(Ljava/lang/Object;)Z" } : Jvm.MethodName)).before a0 Z = true := hw _ (List.mem_of_getElem? (i := 59) rfl)
theorem w_60 {Z : State} {a0 : Array Value} (hw : ∀ d ∈ tables_1, d.before a0 Z = true) : (Jvm.Cond.selects "com/example/trifold/trifold/model/XmiIdentity" ({ cls := "com/example/trifold/trifold/model/XmiIdentity", name := "equals", desc := "(Ljava/lang/Object;)Z" } : Jvm.MethodName) ({ cls := "com/example/trifold/trifold/model/XmiIdentity", name := "equals", desc := "(Ljava/lang/Object;)Z" } : Jvm.MethodName)).before a0 Z = true := hw _ (List.mem_of_getElem? (i := 60) rfl)
theorem w_61 {Z : State} {a0 : Array Value} (hw : ∀ d ∈ tables_1, d.before a0 Z = true) : (Jvm.Cond.code ({ cls := "com/example/trifold/trifold/model/XmiIdentity", name := "equals", desc := "(Ljava/lang/Object;)Z" } : Jvm.MethodName) prog_14_method_2_code (3 : Nat) (Option.some Jvm.ClassFile.FieldType.boolean)).before a0 Z = true := hw _ (List.mem_of_getElem? (i := 61) rfl)
theorem w_62 {Z : State} {a0 : Array Value} (hw : ∀ d ∈ tables_1, d.before a0 Z = true) : (Jvm.Cond.classLink "com/example/trifold/trifold/model/XmiIdentity" (8 : Nat) "com/example/trifold/trifold/model/XmiIdentity").before a0 Z = true := hw _ (List.mem_of_getElem? (i := 62) rfl)
theorem w_64 {Z : State} {a0 : Array Value} (hw : ∀ d ∈ tables_1, d.before a0 Z = true) : (Jvm.Cond.methodLink "com/example/trifold/trifold/model/XmiIdentity" (16 : Nat) ({ cls := "java/util/Objects", name := "equals", desc := "(Ljava/lang/Object;Ljava/lang/Object;)Z" } : Jvm.MethodName)).before a0 Z = true := hw _ (List.mem_of_getElem? (i := 64) rfl)
theorem w_65 {Z : State} {a0 : Array Value} (hw : ∀ d ∈ tables_1, d.before a0 Z = true) : (Jvm.Cond.static ({ cls := "java/util/Objects", name := "equals", desc := "(Ljava/lang/Object;Ljava/lang/Object;)Z" } : Jvm.MethodName)).before a0 Z = true := hw _ (List.mem_of_getElem? (i := 65) rfl)
theorem w_66 {Z : State} {a0 : Array Value} (hw : ∀ d ∈ tables_1, d.before a0 Z = true) : (Jvm.Cond.initialized "java/util/Objects").before a0 Z = true := hw _ (List.mem_of_getElem? (i := 66) rfl)
theorem w_67 {Z : State} {a0 : Array Value} (hw : ∀ d ∈ tables_1, d.before a0 Z = true) : (Jvm.Cond.code ({ cls := "java/util/Objects", name := "equals", desc := "(Ljava/lang/Object;Ljava/lang/Object;)Z" } : Jvm.MethodName) jdk_31_method_2_code (2 : Nat) (Option.some Jvm.ClassFile.FieldType.boolean)).before a0 Z = true := hw _ (List.mem_of_getElem? (i := 67) rfl)
theorem w_68 {Z : State} {a0 : Array Value} (hw : ∀ d ∈ tables_1, d.before a0 Z = true) : (Jvm.Cond.methodLink "java/util/Objects" (14 : Nat) ({ cls := "java/lang/Object", name := "equals", desc := "(Ljava/lang/Object;)Z" } : Jvm.MethodName)).before a0 Z = true := hw _ (List.mem_of_getElem? (i := 68) rfl)
theorem w_69 {Z : State} {a0 : Array Value} (hw : ∀ d ∈ tables_1, d.before a0 Z = true) : (Jvm.Cond.declares ({ cls := "java/lang/Object", name := "equals", desc := "(Ljava/lang/Object;)Z" } : Jvm.MethodName)).before a0 Z = true := hw _ (List.mem_of_getElem? (i := 69) rfl)
theorem w_71 {Z : State} {a0 : Array Value} (hw : ∀ d ∈ tables_1, d.before a0 Z = true) : (Jvm.Cond.selects "java/lang/String" ({ cls := "java/lang/Object", name := "equals", desc := "(Ljava/lang/Object;)Z" } : Jvm.MethodName) ({ cls := "java/lang/String", name := "equals", desc := "(Ljava/lang/Object;)Z" } : Jvm.MethodName)).before a0 Z = true := hw _ (List.mem_of_getElem? (i := 71) rfl)
theorem w_72 {Z : State} {a0 : Array Value} (hw : ∀ d ∈ tables_1, d.before a0 Z = true) : (Jvm.Cond.instanceMethod ({ cls := "java/lang/String", name := "equals", desc := "(Ljava/lang/Object;)Z" } : Jvm.MethodName)).before a0 Z = true := hw _ (List.mem_of_getElem? (i := 72) rfl)
theorem w_73 {Z : State} {a0 : Array Value} (hw : ∀ d ∈ tables_1, d.before a0 Z = true) : (Jvm.Cond.code ({ cls := "java/lang/String", name := "equals", desc := "(Ljava/lang/Object;)Z" } : Jvm.MethodName) jdk_42_method_66_code (3 : Nat) (Option.some Jvm.ClassFile.FieldType.boolean)).before a0 Z = true := hw _ (List.mem_of_getElem? (i := 73) rfl)
theorem w_74 {Z : State} {a0 : Array Value} (hw : ∀ d ∈ tables_1, d.before a0 Z = true) : (Jvm.Cond.stringLink "com/example/trifold/trifold/model/XmiIdentityEqualsPinLaw" (31 : Nat) "x").before a0 Z = true := hw _ (List.mem_of_getElem? (i := 74) rfl)
theorem w_75 {Z : State} {a0 : Array Value} (hw : ∀ d ∈ tables_1, d.before a0 Z = true) : (Jvm.Cond.superclass "java/lang/String" "java/lang/Object").before a0 Z = true := hw _ (List.mem_of_getElem? (i := 75) rfl)
theorem w_76 {Z : State} {a0 : Array Value} (hw : ∀ d ∈ tables_1, d.before a0 Z = true) : (Jvm.Cond.noSuperclass "java/lang/Object").before a0 Z = true := hw _ (List.mem_of_getElem? (i := 76) rfl)
theorem w_77 {Z : State} {a0 : Array Value} (hw : ∀ d ∈ tables_1, d.before a0 Z = true) : (Jvm.Cond.constantLong "com/example/trifold/trifold/model/XmiIdentityEqualsPinLaw" (14 : Nat) (2 : Int64)).before a0 Z = true := hw _ (List.mem_of_getElem? (i := 77) rfl)
theorem w_78 {Z : State} {a0 : Array Value} (hw : ∀ d ∈ tables_1, d.before a0 Z = true) : (Jvm.Cond.classLink "java/lang/String" (10 : Nat) "java/lang/String").before a0 Z = true := hw _ (List.mem_of_getElem? (i := 78) rfl)
theorem w_79 {Z : State} {a0 : Array Value} (hw : ∀ d ∈ tables_1, d.before a0 Z = true) : (Jvm.Cond.methodLink "java/lang/String" (541 : Nat) ({ cls := "java/lang/StringLatin1", name := "equals", desc := "([B[B)Z" } : Jvm.MethodName)).before a0 Z = true := hw _ (List.mem_of_getElem? (i := 79) rfl)
theorem w_80 {Z : State} {a0 : Array Value} (hw : ∀ d ∈ tables_1, d.before a0 Z = true) : (Jvm.Cond.static ({ cls := "java/lang/StringLatin1", name := "equals", desc := "([B[B)Z" } : Jvm.MethodName)).before a0 Z = true := hw _ (List.mem_of_getElem? (i := 80) rfl)
theorem w_81 {Z : State} {a0 : Array Value} (hw : ∀ d ∈ tables_1, d.before a0 Z = true) : (Jvm.Cond.initialized "java/lang/StringLatin1").before a0 Z = true := hw _ (List.mem_of_getElem? (i := 81) rfl)
theorem w_82 {Z : State} {a0 : Array Value} (hw : ∀ d ∈ tables_1, d.before a0 Z = true) : (Jvm.Cond.code ({ cls := "java/lang/StringLatin1", name := "equals", desc := "([B[B)Z" } : Jvm.MethodName) jdk_43_method_13_code (3 : Nat) (Option.some Jvm.ClassFile.FieldType.boolean)).before a0 Z = true := hw _ (List.mem_of_getElem? (i := 82) rfl)
theorem pd_0 : parseMethodDescriptor "([CI[BII)I" = some ⟨[(.array .char), .int, (.array .byte), .int, .int], some .int⟩ := by decide +kernel
theorem pd_1 : parseMethodDescriptor "([CII)[B" = some ⟨[(.array .char), .int, .int], some (.array .byte)⟩ := by decide +kernel
theorem pd_2 : parseMethodDescriptor "([BI)B" = some ⟨[(.array .byte), .int], some .byte⟩ := by decide +kernel
theorem pd_3 : parseMethodDescriptor "([CIILjava/lang/Void;)V" = some ⟨[(.array .char), .int, .int, (.object "java/lang/Void")], none⟩ := by decide +kernel
theorem pd_4 : parseMethodDescriptor "([B[B)Z" = some ⟨[(.array .byte), (.array .byte)], some .boolean⟩ := by decide +kernel
theorem pd_5 : parseMethodDescriptor "(Ljava/lang/Object;)Z" = some ⟨[(.object "java/lang/Object")], some .boolean⟩ := by decide +kernel
theorem pd_6 : parseMethodDescriptor "()V" = some ⟨[], none⟩ := by decide +kernel
theorem pd_7 : parseMethodDescriptor "([C)V" = some ⟨[(.array .char)], none⟩ := by decide +kernel
theorem pd_8 : parseMethodDescriptor "(Ljava/lang/Object;Ljava/lang/Object;)Z" = some ⟨[(.object "java/lang/Object"), (.object "java/lang/Object")], some .boolean⟩ := by decide +kernel
theorem pd_9 : parseMethodDescriptor "(I)Ljava/lang/String;" = some ⟨[.int], some (.object "java/lang/String")⟩ := by decide +kernel
theorem pd_10 : parseMethodDescriptor "(Ljava/lang/String;Ljava/lang/String;)V" = some ⟨[(.object "java/lang/String"), (.object "java/lang/String")], none⟩ := by decide +kernel
theorem pd_11 : parseMethodDescriptor "(I)J" = some ⟨[.int], some .long⟩ := by decide +kernel
theorem pn_0 : plainName "java/lang/StringUTF16" = true := by first | (simp [plainName, overriddenIn]; done) | decide +kernel
theorem pn_1 : plainName "java/lang/String" = true := by first | (simp [plainName, overriddenIn]; done) | decide +kernel
theorem pn_2 : plainName "java/lang/StringLatin1" = true := by first | (simp [plainName, overriddenIn]; done) | decide +kernel
theorem pn_3 : plainName "java/util/Objects" = true := by first | (simp [plainName, overriddenIn]; done) | decide +kernel
theorem pn_4 : plainName "java/lang/Record" = true := by first | (simp [plainName, overriddenIn]; done) | decide +kernel
theorem pn_5 : plainName "com/example/trifold/trifold/model/XmiIdentity" = true := by first | (simp [plainName, overriddenIn]; done) | decide +kernel
theorem pn_6 : plainName "com/example/trifold/trifold/model/XmiIdentityEqualsPinLaw" = true := by first | (simp [plainName, overriddenIn]; done) | decide +kernel
theorem d1_0 : decode method_2_code 0 = .ok (.iload_n 0, 1) := by decide +kernel
theorem d1_1 : decode method_2_code 1 = .ok (.iconst 3, 1) := by decide +kernel
theorem d1_2 : decode method_2_code 2 = .ok (.iand, 1) := by decide +kernel
theorem d1_3 : decode method_2_code 3 = .ok (.istore_n 1, 1) := by decide +kernel
theorem d1_4 : decode method_2_code 4 = .ok (.iload_n 1, 1) := by decide +kernel
theorem d1_5 : decode method_2_code 5 = .ok (.ifCond .ne 5, 3) := by decide +kernel
theorem d1_8 : decode method_2_code 8 = .ok (.aconst_null, 1) := by decide +kernel
theorem d1_9 : decode method_2_code 9 = .ok (.areturn, 1) := by decide +kernel
theorem d1_10 : decode method_2_code 10 = .ok (.iload_n 1, 1) := by decide +kernel
theorem d1_11 : decode method_2_code 11 = .ok (.iconst 1, 1) := by decide +kernel
theorem d1_12 : decode method_2_code 12 = .ok (.if_icmp .ne 14, 3) := by decide +kernel
theorem d1_15 : decode method_2_code 15 = .ok (.new 7, 3) := by decide +kernel
theorem d1_18 : decode method_2_code 18 = .ok (.dup, 1) := by decide +kernel
theorem d1_19 : decode method_2_code 19 = .ok (.iconst 0, 1) := by decide +kernel
theorem d1_20 : decode method_2_code 20 = .ok (.newarray .char, 2) := by decide +kernel
theorem d1_22 : decode method_2_code 22 = .ok (.invokespecial 9, 3) := by decide +kernel
theorem d1_25 : decode method_2_code 25 = .ok (.areturn, 1) := by decide +kernel
theorem d1_26 : decode method_2_code 26 = .ok (.iload_n 1, 1) := by decide +kernel
theorem d1_27 : decode method_2_code 27 = .ok (.iconst 2, 1) := by decide +kernel
theorem d1_28 : decode method_2_code 28 = .ok (.if_icmp .ne 27, 3) := by decide +kernel
theorem d1_31 : decode method_2_code 31 = .ok (.iconst 1, 1) := by decide +kernel
theorem d1_32 : decode method_2_code 32 = .ok (.newarray .char, 2) := by decide +kernel
theorem d1_34 : decode method_2_code 34 = .ok (.astore_n 2, 1) := by decide +kernel
theorem d1_35 : decode method_2_code 35 = .ok (.aload_n 2, 1) := by decide +kernel
theorem d1_36 : decode method_2_code 36 = .ok (.iconst 0, 1) := by decide +kernel
theorem d1_37 : decode method_2_code 37 = .ok (.iload_n 0, 1) := by decide +kernel
theorem d1_38 : decode method_2_code 38 = .ok (.iconst 2, 1) := by decide +kernel
theorem d1_39 : decode method_2_code 39 = .ok (.iushr, 1) := by decide +kernel
theorem d1_40 : decode method_2_code 40 = .ok (.sipush 255, 3) := by decide +kernel
theorem d1_43 : decode method_2_code 43 = .ok (.iand, 1) := by decide +kernel
theorem d1_44 : decode method_2_code 44 = .ok (.i2c, 1) := by decide +kernel
theorem d1_45 : decode method_2_code 45 = .ok (.castore, 1) := by decide +kernel
theorem d1_46 : decode method_2_code 46 = .ok (.new 7, 3) := by decide +kernel
theorem d1_49 : decode method_2_code 49 = .ok (.dup, 1) := by decide +kernel
theorem d1_50 : decode method_2_code 50 = .ok (.aload_n 2, 1) := by decide +kernel
theorem d1_51 : decode method_2_code 51 = .ok (.invokespecial 9, 3) := by decide +kernel
theorem d1_54 : decode method_2_code 54 = .ok (.areturn, 1) := by decide +kernel
theorem d1_55 : decode method_2_code 55 = .ok (.iconst 2, 1) := by decide +kernel
theorem d1_56 : decode method_2_code 56 = .ok (.newarray .char, 2) := by decide +kernel
theorem d1_58 : decode method_2_code 58 = .ok (.astore_n 2, 1) := by decide +kernel
theorem d1_59 : decode method_2_code 59 = .ok (.aload_n 2, 1) := by decide +kernel
theorem d1_60 : decode method_2_code 60 = .ok (.iconst 0, 1) := by decide +kernel
theorem d1_61 : decode method_2_code 61 = .ok (.iload_n 0, 1) := by decide +kernel
theorem d1_62 : decode method_2_code 62 = .ok (.iconst 2, 1) := by decide +kernel
theorem d1_63 : decode method_2_code 63 = .ok (.iushr, 1) := by decide +kernel
theorem d1_64 : decode method_2_code 64 = .ok (.sipush 255, 3) := by decide +kernel
theorem d1_67 : decode method_2_code 67 = .ok (.iand, 1) := by decide +kernel
theorem d1_68 : decode method_2_code 68 = .ok (.i2c, 1) := by decide +kernel
theorem d1_69 : decode method_2_code 69 = .ok (.castore, 1) := by decide +kernel
theorem d1_70 : decode method_2_code 70 = .ok (.aload_n 2, 1) := by decide +kernel
theorem d1_71 : decode method_2_code 71 = .ok (.iconst 1, 1) := by decide +kernel
theorem d1_72 : decode method_2_code 72 = .ok (.iload_n 0, 1) := by decide +kernel
theorem d1_73 : decode method_2_code 73 = .ok (.bipush 10, 2) := by decide +kernel
theorem d1_75 : decode method_2_code 75 = .ok (.iushr, 1) := by decide +kernel
theorem d1_76 : decode method_2_code 76 = .ok (.sipush 255, 3) := by decide +kernel
theorem d1_79 : decode method_2_code 79 = .ok (.iand, 1) := by decide +kernel
theorem d1_80 : decode method_2_code 80 = .ok (.i2c, 1) := by decide +kernel
theorem d1_81 : decode method_2_code 81 = .ok (.castore, 1) := by decide +kernel
theorem d1_82 : decode method_2_code 82 = .ok (.new 7, 3) := by decide +kernel
theorem d1_85 : decode method_2_code 85 = .ok (.dup, 1) := by decide +kernel
theorem d1_86 : decode method_2_code 86 = .ok (.aload_n 2, 1) := by decide +kernel
theorem d1_87 : decode method_2_code 87 = .ok (.invokespecial 9, 3) := by decide +kernel
theorem d1_90 : decode method_2_code 90 = .ok (.areturn, 1) := by decide +kernel
theorem d2_0 : decode jdk_42_method_3_code 0 = .ok (.aload_n 0, 1) := by decide +kernel
theorem d2_1 : decode jdk_42_method_3_code 1 = .ok (.aload_n 1, 1) := by decide +kernel
theorem d2_2 : decode jdk_42_method_3_code 2 = .ok (.iconst 0, 1) := by decide +kernel
theorem d2_3 : decode jdk_42_method_3_code 3 = .ok (.aload_n 1, 1) := by decide +kernel
theorem d2_4 : decode jdk_42_method_3_code 4 = .ok (.arraylength, 1) := by decide +kernel
theorem d2_5 : decode jdk_42_method_3_code 5 = .ok (.aconst_null, 1) := by decide +kernel
theorem d2_6 : decode jdk_42_method_3_code 6 = .ok (.invokespecial 27, 3) := by decide +kernel
theorem d2_9 : decode jdk_42_method_3_code 9 = .ok (.return_, 1) := by decide +kernel
theorem d3_0 : decode jdk_42_method_149_code 0 = .ok (.aload_n 0, 1) := by decide +kernel
theorem d3_1 : decode jdk_42_method_149_code 1 = .ok (.invokespecial 1, 3) := by decide +kernel
theorem d3_4 : decode jdk_42_method_149_code 4 = .ok (.iload_n 3, 1) := by decide +kernel
theorem d3_5 : decode jdk_42_method_149_code 5 = .ok (.ifCond .ne 22, 3) := by decide +kernel
theorem d3_8 : decode jdk_42_method_149_code 8 = .ok (.aload_n 0, 1) := by decide +kernel
theorem d3_9 : decode jdk_42_method_149_code 9 = .ok (.ldc 7, 2) := by decide +kernel
theorem d3_11 : decode jdk_42_method_149_code 11 = .ok (.getfield 9, 3) := by decide +kernel
theorem d3_14 : decode jdk_42_method_149_code 14 = .ok (.putfield 9, 3) := by decide +kernel
theorem d3_17 : decode jdk_42_method_149_code 17 = .ok (.aload_n 0, 1) := by decide +kernel
theorem d3_18 : decode jdk_42_method_149_code 18 = .ok (.ldc 7, 2) := by decide +kernel
theorem d3_20 : decode jdk_42_method_149_code 20 = .ok (.getfield 15, 3) := by decide +kernel
theorem d3_23 : decode jdk_42_method_149_code 23 = .ok (.putfield 15, 3) := by decide +kernel
theorem d3_26 : decode jdk_42_method_149_code 26 = .ok (.return_, 1) := by decide +kernel
theorem d3_27 : decode jdk_42_method_149_code 27 = .ok (.getstatic 38, 3) := by decide +kernel
theorem d3_30 : decode jdk_42_method_149_code 30 = .ok (.ifCond .eq 28, 3) := by decide +kernel
theorem d3_33 : decode jdk_42_method_149_code 33 = .ok (.aload_n 1, 1) := by decide +kernel
theorem d3_34 : decode jdk_42_method_149_code 34 = .ok (.iload_n 2, 1) := by decide +kernel
theorem d3_35 : decode jdk_42_method_149_code 35 = .ok (.iload_n 3, 1) := by decide +kernel
theorem d3_36 : decode jdk_42_method_149_code 36 = .ok (.invokestatic 177, 3) := by decide +kernel
theorem d3_39 : decode jdk_42_method_149_code 39 = .ok (.astore 5, 2) := by decide +kernel
theorem d3_41 : decode jdk_42_method_149_code 41 = .ok (.aload_n 0, 1) := by decide +kernel
theorem d3_42 : decode jdk_42_method_149_code 42 = .ok (.aload 5, 2) := by decide +kernel
theorem d3_44 : decode jdk_42_method_149_code 44 = .ok (.iload_n 3, 1) := by decide +kernel
theorem d3_45 : decode jdk_42_method_149_code 45 = .ok (.invokestatic 47, 3) := by decide +kernel
theorem d3_48 : decode jdk_42_method_149_code 48 = .ok (.putfield 15, 3) := by decide +kernel
theorem d3_51 : decode jdk_42_method_149_code 51 = .ok (.aload_n 0, 1) := by decide +kernel
theorem d3_52 : decode jdk_42_method_149_code 52 = .ok (.aload 5, 2) := by decide +kernel
theorem d3_54 : decode jdk_42_method_149_code 54 = .ok (.putfield 9, 3) := by decide +kernel
theorem d3_57 : decode jdk_42_method_149_code 57 = .ok (.return_, 1) := by decide +kernel
theorem d5_0 : decode jdk_52_method_16_code 0 = .ok (.iload_n 2, 1) := by decide +kernel
theorem d5_1 : decode jdk_52_method_16_code 1 = .ok (.newarray .byte, 2) := by decide +kernel
theorem d5_3 : decode jdk_52_method_16_code 3 = .ok (.astore_n 3, 1) := by decide +kernel
theorem d5_4 : decode jdk_52_method_16_code 4 = .ok (.aload_n 0, 1) := by decide +kernel
theorem d5_5 : decode jdk_52_method_16_code 5 = .ok (.iload_n 1, 1) := by decide +kernel
theorem d5_6 : decode jdk_52_method_16_code 6 = .ok (.aload_n 3, 1) := by decide +kernel
theorem d5_7 : decode jdk_52_method_16_code 7 = .ok (.iconst 0, 1) := by decide +kernel
theorem d5_8 : decode jdk_52_method_16_code 8 = .ok (.iload_n 2, 1) := by decide +kernel
theorem d5_9 : decode jdk_52_method_16_code 9 = .ok (.invokestatic 115, 3) := by decide +kernel
theorem d5_12 : decode jdk_52_method_16_code 12 = .ok (.istore 4, 2) := by decide +kernel
theorem d5_14 : decode jdk_52_method_16_code 14 = .ok (.iload 4, 2) := by decide +kernel
theorem d5_16 : decode jdk_52_method_16_code 16 = .ok (.iload_n 2, 1) := by decide +kernel
theorem d5_17 : decode jdk_52_method_16_code 17 = .ok (.if_icmp .eq 40, 3) := by decide +kernel
theorem d5_57 : decode jdk_52_method_16_code 57 = .ok (.aload_n 3, 1) := by decide +kernel
theorem d5_58 : decode jdk_52_method_16_code 58 = .ok (.areturn, 1) := by decide +kernel
theorem d6_0 : decode jdk_52_method_21_code 0 = .ok (.iconst 0, 1) := by decide +kernel
theorem d6_1 : decode jdk_52_method_21_code 1 = .ok (.istore 5, 2) := by decide +kernel
theorem d6_3 : decode jdk_52_method_21_code 3 = .ok (.iload 5, 2) := by decide +kernel
theorem d6_5 : decode jdk_52_method_21_code 5 = .ok (.iload 4, 2) := by decide +kernel
theorem d6_7 : decode jdk_52_method_21_code 7 = .ok (.if_icmp .ge 37, 3) := by decide +kernel
theorem d6_10 : decode jdk_52_method_21_code 10 = .ok (.aload_n 0, 1) := by decide +kernel
theorem d6_11 : decode jdk_52_method_21_code 11 = .ok (.iload_n 1, 1) := by decide +kernel
theorem d6_12 : decode jdk_52_method_21_code 12 = .ok (.caload, 1) := by decide +kernel
theorem d6_13 : decode jdk_52_method_21_code 13 = .ok (.istore 6, 2) := by decide +kernel
theorem d6_15 : decode jdk_52_method_21_code 15 = .ok (.iload 6, 2) := by decide +kernel
theorem d6_17 : decode jdk_52_method_21_code 17 = .ok (.sipush 255, 3) := by decide +kernel
theorem d6_20 : decode jdk_52_method_21_code 20 = .ok (.if_icmp .le 6, 3) := by decide +kernel
theorem d6_26 : decode jdk_52_method_21_code 26 = .ok (.aload_n 2, 1) := by decide +kernel
theorem d6_27 : decode jdk_52_method_21_code 27 = .ok (.iload_n 3, 1) := by decide +kernel
theorem d6_28 : decode jdk_52_method_21_code 28 = .ok (.iload 6, 2) := by decide +kernel
theorem d6_30 : decode jdk_52_method_21_code 30 = .ok (.i2b, 1) := by decide +kernel
theorem d6_31 : decode jdk_52_method_21_code 31 = .ok (.bastore, 1) := by decide +kernel
theorem d6_32 : decode jdk_52_method_21_code 32 = .ok (.iinc 1 1, 3) := by decide +kernel
theorem d6_35 : decode jdk_52_method_21_code 35 = .ok (.iinc 3 1, 3) := by decide +kernel
theorem d6_38 : decode jdk_52_method_21_code 38 = .ok (.iinc 5 1, 3) := by decide +kernel
theorem d6_41 : decode jdk_52_method_21_code 41 = .ok (.goto (-38), 3) := by decide +kernel
theorem d6_44 : decode jdk_52_method_21_code 44 = .ok (.iload 4, 2) := by decide +kernel
theorem d6_46 : decode jdk_52_method_21_code 46 = .ok (.ireturn, 1) := by decide +kernel
theorem d7_0 : decode jdk_52_method_15_code 0 = .ok (.iload_n 1, 1) := by decide +kernel
theorem d7_1 : decode jdk_52_method_15_code 1 = .ok (.aload_n 0, 1) := by decide +kernel
theorem d7_2 : decode jdk_52_method_15_code 2 = .ok (.arraylength, 1) := by decide +kernel
theorem d7_3 : decode jdk_52_method_15_code 3 = .ok (.isub, 1) := by decide +kernel
theorem d7_4 : decode jdk_52_method_15_code 4 = .ok (.bipush 31, 2) := by decide +kernel
theorem d7_6 : decode jdk_52_method_15_code 6 = .ok (.iushr, 1) := by decide +kernel
theorem d7_7 : decode jdk_52_method_15_code 7 = .ok (.i2b, 1) := by decide +kernel
theorem d7_8 : decode jdk_52_method_15_code 8 = .ok (.ireturn, 1) := by decide +kernel
theorem d8_0 : decode prog_14_method_1_code 0 = .ok (.aload_n 0, 1) := by decide +kernel
theorem d8_1 : decode prog_14_method_1_code 1 = .ok (.invokespecial 1, 3) := by decide +kernel
theorem d8_4 : decode prog_14_method_1_code 4 = .ok (.aload_n 0, 1) := by decide +kernel
theorem d8_5 : decode prog_14_method_1_code 5 = .ok (.aload_n 1, 1) := by decide +kernel
theorem d8_6 : decode prog_14_method_1_code 6 = .ok (.putfield 7, 3) := by decide +kernel
theorem d8_9 : decode prog_14_method_1_code 9 = .ok (.aload_n 0, 1) := by decide +kernel
theorem d8_10 : decode prog_14_method_1_code 10 = .ok (.aload_n 2, 1) := by decide +kernel
theorem d8_11 : decode prog_14_method_1_code 11 = .ok (.putfield 13, 3) := by decide +kernel
theorem d8_14 : decode prog_14_method_1_code 14 = .ok (.return_, 1) := by decide +kernel
theorem d9_0 : decode jdk_30_method_1_code 0 = .ok (.aload_n 0, 1) := by decide +kernel
theorem d9_1 : decode jdk_30_method_1_code 1 = .ok (.invokespecial 1, 3) := by decide +kernel
theorem d9_4 : decode jdk_30_method_1_code 4 = .ok (.return_, 1) := by decide +kernel
theorem d10_0 : decode method_3_code 0 = .ok (.iload_n 0, 1) := by decide +kernel
theorem d10_1 : decode method_3_code 1 = .ok (.iconst 3, 1) := by decide +kernel
theorem d10_2 : decode method_3_code 2 = .ok (.iand, 1) := by decide +kernel
theorem d10_3 : decode method_3_code 3 = .ok (.istore_n 1, 1) := by decide +kernel
theorem d10_4 : decode method_3_code 4 = .ok (.iload_n 1, 1) := by decide +kernel
theorem d10_5 : decode method_3_code 5 = .ok (.ifCond .ne 7, 3) := by decide +kernel
theorem d10_8 : decode method_3_code 8 = .ok (.ldc2_w 12, 3) := by decide +kernel
theorem d10_11 : decode method_3_code 11 = .ok (.lreturn, 1) := by decide +kernel
theorem d10_12 : decode method_3_code 12 = .ok (.iload_n 1, 1) := by decide +kernel
theorem d10_13 : decode method_3_code 13 = .ok (.iconst 1, 1) := by decide +kernel
theorem d10_14 : decode method_3_code 14 = .ok (.if_icmp .ne 5, 3) := by decide +kernel
theorem d10_17 : decode method_3_code 17 = .ok (.lconst 0, 1) := by decide +kernel
theorem d10_18 : decode method_3_code 18 = .ok (.lreturn, 1) := by decide +kernel
theorem d10_19 : decode method_3_code 19 = .ok (.iload_n 0, 1) := by decide +kernel
theorem d10_20 : decode method_3_code 20 = .ok (.iconst 2, 1) := by decide +kernel
theorem d10_21 : decode method_3_code 21 = .ok (.iushr, 1) := by decide +kernel
theorem d10_22 : decode method_3_code 22 = .ok (.sipush 255, 3) := by decide +kernel
theorem d10_25 : decode method_3_code 25 = .ok (.iand, 1) := by decide +kernel
theorem d10_26 : decode method_3_code 26 = .ok (.i2l, 1) := by decide +kernel
theorem d10_27 : decode method_3_code 27 = .ok (.lstore_n 2, 1) := by decide +kernel
theorem d10_28 : decode method_3_code 28 = .ok (.iload_n 1, 1) := by decide +kernel
theorem d10_29 : decode method_3_code 29 = .ok (.iconst 2, 1) := by decide +kernel
theorem d10_30 : decode method_3_code 30 = .ok (.if_icmp .ne 9, 3) := by decide +kernel
theorem d10_33 : decode method_3_code 33 = .ok (.lconst 1, 1) := by decide +kernel
theorem d10_34 : decode method_3_code 34 = .ok (.lload_n 2, 1) := by decide +kernel
theorem d10_35 : decode method_3_code 35 = .ok (.iconst 2, 1) := by decide +kernel
theorem d10_36 : decode method_3_code 36 = .ok (.lshl, 1) := by decide +kernel
theorem d10_37 : decode method_3_code 37 = .ok (.lor, 1) := by decide +kernel
theorem d10_38 : decode method_3_code 38 = .ok (.lreturn, 1) := by decide +kernel
theorem d10_39 : decode method_3_code 39 = .ok (.iload_n 0, 1) := by decide +kernel
theorem d10_40 : decode method_3_code 40 = .ok (.bipush 10, 2) := by decide +kernel
theorem d10_42 : decode method_3_code 42 = .ok (.iushr, 1) := by decide +kernel
theorem d10_43 : decode method_3_code 43 = .ok (.sipush 255, 3) := by decide +kernel
theorem d10_46 : decode method_3_code 46 = .ok (.iand, 1) := by decide +kernel
theorem d10_47 : decode method_3_code 47 = .ok (.i2l, 1) := by decide +kernel
theorem d10_48 : decode method_3_code 48 = .ok (.lstore 4, 2) := by decide +kernel
theorem d10_50 : decode method_3_code 50 = .ok (.ldc2_w 14, 3) := by decide +kernel
theorem d10_53 : decode method_3_code 53 = .ok (.lload_n 2, 1) := by decide +kernel
theorem d10_54 : decode method_3_code 54 = .ok (.iconst 2, 1) := by decide +kernel
theorem d10_55 : decode method_3_code 55 = .ok (.lshl, 1) := by decide +kernel
theorem d10_56 : decode method_3_code 56 = .ok (.lor, 1) := by decide +kernel
theorem d10_57 : decode method_3_code 57 = .ok (.lload 4, 2) := by decide +kernel
theorem d10_59 : decode method_3_code 59 = .ok (.bipush 10, 2) := by decide +kernel
theorem d10_61 : decode method_3_code 61 = .ok (.lshl, 1) := by decide +kernel
theorem d10_62 : decode method_3_code 62 = .ok (.lor, 1) := by decide +kernel
theorem d10_63 : decode method_3_code 63 = .ok (.lreturn, 1) := by decide +kernel
theorem d11_0 : decode prog_14_method_2_code 0 = .ok (.aload_n 1, 1) := by decide +kernel
theorem d11_1 : decode prog_14_method_2_code 1 = .ok (.instanceof 8, 3) := by decide +kernel
theorem d11_4 : decode prog_14_method_2_code 4 = .ok (.ifCond .eq 40, 3) := by decide +kernel
theorem d11_7 : decode prog_14_method_2_code 7 = .ok (.aload_n 1, 1) := by decide +kernel
theorem d11_8 : decode prog_14_method_2_code 8 = .ok (.checkcast 8, 3) := by decide +kernel
theorem d11_11 : decode prog_14_method_2_code 11 = .ok (.astore_n 2, 1) := by decide +kernel
theorem d11_12 : decode prog_14_method_2_code 12 = .ok (.aload_n 0, 1) := by decide +kernel
theorem d11_13 : decode prog_14_method_2_code 13 = .ok (.getfield 7, 3) := by decide +kernel
theorem d11_16 : decode prog_14_method_2_code 16 = .ok (.aload_n 2, 1) := by decide +kernel
theorem d11_17 : decode prog_14_method_2_code 17 = .ok (.getfield 7, 3) := by decide +kernel
theorem d11_20 : decode prog_14_method_2_code 20 = .ok (.invokestatic 16, 3) := by decide +kernel
theorem d11_23 : decode prog_14_method_2_code 23 = .ok (.ifCond .eq 21, 3) := by decide +kernel
theorem d11_26 : decode prog_14_method_2_code 26 = .ok (.aload_n 0, 1) := by decide +kernel
theorem d11_27 : decode prog_14_method_2_code 27 = .ok (.getfield 13, 3) := by decide +kernel
theorem d11_30 : decode prog_14_method_2_code 30 = .ok (.aload_n 2, 1) := by decide +kernel
theorem d11_31 : decode prog_14_method_2_code 31 = .ok (.getfield 13, 3) := by decide +kernel
theorem d11_34 : decode prog_14_method_2_code 34 = .ok (.invokestatic 16, 3) := by decide +kernel
theorem d11_37 : decode prog_14_method_2_code 37 = .ok (.ifCond .eq 7, 3) := by decide +kernel
theorem d11_40 : decode prog_14_method_2_code 40 = .ok (.iconst 1, 1) := by decide +kernel
theorem d11_41 : decode prog_14_method_2_code 41 = .ok (.goto 4, 3) := by decide +kernel
theorem d11_44 : decode prog_14_method_2_code 44 = .ok (.iconst 0, 1) := by decide +kernel
theorem d11_45 : decode prog_14_method_2_code 45 = .ok (.ireturn, 1) := by decide +kernel
theorem d12_0 : decode jdk_31_method_2_code 0 = .ok (.aload_n 0, 1) := by decide +kernel
theorem d12_1 : decode jdk_31_method_2_code 1 = .ok (.aload_n 1, 1) := by decide +kernel
theorem d12_2 : decode jdk_31_method_2_code 2 = .ok (.if_acmp .eq 15, 3) := by decide +kernel
theorem d12_5 : decode jdk_31_method_2_code 5 = .ok (.aload_n 0, 1) := by decide +kernel
theorem d12_6 : decode jdk_31_method_2_code 6 = .ok (.ifnull 15, 3) := by decide +kernel
theorem d12_9 : decode jdk_31_method_2_code 9 = .ok (.aload_n 0, 1) := by decide +kernel
theorem d12_10 : decode jdk_31_method_2_code 10 = .ok (.aload_n 1, 1) := by decide +kernel
theorem d12_11 : decode jdk_31_method_2_code 11 = .ok (.invokevirtual 14, 3) := by decide +kernel
theorem d12_14 : decode jdk_31_method_2_code 14 = .ok (.ifCond .eq 7, 3) := by decide +kernel
theorem d12_17 : decode jdk_31_method_2_code 17 = .ok (.iconst 1, 1) := by decide +kernel
theorem d12_18 : decode jdk_31_method_2_code 18 = .ok (.goto 4, 3) := by decide +kernel
theorem d12_21 : decode jdk_31_method_2_code 21 = .ok (.iconst 0, 1) := by decide +kernel
theorem d12_22 : decode jdk_31_method_2_code 22 = .ok (.ireturn, 1) := by decide +kernel
theorem d13_0 : decode jdk_42_method_66_code 0 = .ok (.aload_n 0, 1) := by decide +kernel
theorem d13_1 : decode jdk_42_method_66_code 1 = .ok (.aload_n 1, 1) := by decide +kernel
theorem d13_2 : decode jdk_42_method_66_code 2 = .ok (.if_acmp .ne 5, 3) := by decide +kernel
theorem d13_5 : decode jdk_42_method_66_code 5 = .ok (.iconst 1, 1) := by decide +kernel
theorem d13_6 : decode jdk_42_method_66_code 6 = .ok (.ireturn, 1) := by decide +kernel
theorem d13_7 : decode jdk_42_method_66_code 7 = .ok (.aload_n 1, 1) := by decide +kernel
theorem d13_8 : decode jdk_42_method_66_code 8 = .ok (.instanceof 10, 3) := by decide +kernel
theorem d13_11 : decode jdk_42_method_66_code 11 = .ok (.ifCond .eq 43, 3) := by decide +kernel
theorem d13_14 : decode jdk_42_method_66_code 14 = .ok (.aload_n 1, 1) := by decide +kernel
theorem d13_15 : decode jdk_42_method_66_code 15 = .ok (.checkcast 10, 3) := by decide +kernel
theorem d13_18 : decode jdk_42_method_66_code 18 = .ok (.astore_n 2, 1) := by decide +kernel
theorem d13_19 : decode jdk_42_method_66_code 19 = .ok (.getstatic 38, 3) := by decide +kernel
theorem d13_22 : decode jdk_42_method_66_code 22 = .ok (.ifCond .eq 14, 3) := by decide +kernel
theorem d13_25 : decode jdk_42_method_66_code 25 = .ok (.aload_n 0, 1) := by decide +kernel
theorem d13_26 : decode jdk_42_method_66_code 26 = .ok (.getfield 15, 3) := by decide +kernel
theorem d13_29 : decode jdk_42_method_66_code 29 = .ok (.aload_n 2, 1) := by decide +kernel
theorem d13_30 : decode jdk_42_method_66_code 30 = .ok (.getfield 15, 3) := by decide +kernel
theorem d13_33 : decode jdk_42_method_66_code 33 = .ok (.if_icmp .ne 21, 3) := by decide +kernel
theorem d13_36 : decode jdk_42_method_66_code 36 = .ok (.aload_n 0, 1) := by decide +kernel
theorem d13_37 : decode jdk_42_method_66_code 37 = .ok (.getfield 9, 3) := by decide +kernel
theorem d13_40 : decode jdk_42_method_66_code 40 = .ok (.aload_n 2, 1) := by decide +kernel
theorem d13_41 : decode jdk_42_method_66_code 41 = .ok (.getfield 9, 3) := by decide +kernel
theorem d13_44 : decode jdk_42_method_66_code 44 = .ok (.invokestatic 541, 3) := by decide +kernel
theorem d13_47 : decode jdk_42_method_66_code 47 = .ok (.ifCond .eq 7, 3) := by decide +kernel
theorem d13_50 : decode jdk_42_method_66_code 50 = .ok (.iconst 1, 1) := by decide +kernel
theorem d13_51 : decode jdk_42_method_66_code 51 = .ok (.goto 4, 3) := by decide +kernel
theorem d13_54 : decode jdk_42_method_66_code 54 = .ok (.iconst 0, 1) := by decide +kernel
theorem d13_55 : decode jdk_42_method_66_code 55 = .ok (.ireturn, 1) := by decide +kernel
theorem d14_0 : decode jdk_43_method_13_code 0 = .ok (.aload_n 0, 1) := by decide +kernel
theorem d14_1 : decode jdk_43_method_13_code 1 = .ok (.arraylength, 1) := by decide +kernel
theorem d14_2 : decode jdk_43_method_13_code 2 = .ok (.aload_n 1, 1) := by decide +kernel
theorem d14_3 : decode jdk_43_method_13_code 3 = .ok (.arraylength, 1) := by decide +kernel
theorem d14_4 : decode jdk_43_method_13_code 4 = .ok (.if_icmp .ne 30, 3) := by decide +kernel
theorem d14_7 : decode jdk_43_method_13_code 7 = .ok (.iconst 0, 1) := by decide +kernel
theorem d14_8 : decode jdk_43_method_13_code 8 = .ok (.istore_n 2, 1) := by decide +kernel
theorem d14_9 : decode jdk_43_method_13_code 9 = .ok (.iload_n 2, 1) := by decide +kernel
theorem d14_10 : decode jdk_43_method_13_code 10 = .ok (.aload_n 0, 1) := by decide +kernel
theorem d14_11 : decode jdk_43_method_13_code 11 = .ok (.arraylength, 1) := by decide +kernel
theorem d14_12 : decode jdk_43_method_13_code 12 = .ok (.if_icmp .ge 20, 3) := by decide +kernel
theorem d14_15 : decode jdk_43_method_13_code 15 = .ok (.aload_n 0, 1) := by decide +kernel
theorem d14_16 : decode jdk_43_method_13_code 16 = .ok (.iload_n 2, 1) := by decide +kernel
theorem d14_17 : decode jdk_43_method_13_code 17 = .ok (.baload, 1) := by decide +kernel
theorem d14_18 : decode jdk_43_method_13_code 18 = .ok (.aload_n 1, 1) := by decide +kernel
theorem d14_19 : decode jdk_43_method_13_code 19 = .ok (.iload_n 2, 1) := by decide +kernel
theorem d14_20 : decode jdk_43_method_13_code 20 = .ok (.baload, 1) := by decide +kernel
theorem d14_21 : decode jdk_43_method_13_code 21 = .ok (.if_icmp .eq 5, 3) := by decide +kernel
theorem d14_24 : decode jdk_43_method_13_code 24 = .ok (.iconst 0, 1) := by decide +kernel
theorem d14_25 : decode jdk_43_method_13_code 25 = .ok (.ireturn, 1) := by decide +kernel
theorem d14_26 : decode jdk_43_method_13_code 26 = .ok (.iinc 2 1, 3) := by decide +kernel
theorem d14_29 : decode jdk_43_method_13_code 29 = .ok (.goto (-20), 3) := by decide +kernel
theorem d14_32 : decode jdk_43_method_13_code 32 = .ok (.iconst 1, 1) := by decide +kernel
theorem d14_33 : decode jdk_43_method_13_code 33 = .ok (.ireturn, 1) := by decide +kernel
theorem d14_34 : decode jdk_43_method_13_code 34 = .ok (.iconst 0, 1) := by decide +kernel
theorem d14_35 : decode jdk_43_method_13_code 35 = .ok (.ireturn, 1) := by decide +kernel
theorem ef_RIRII_7 (m : MethodId) (x0 : Addr) (x1 : Int32) (x2 : Addr) (x3 : Int32) (x4 : Int32) : entryFrame m #[(.ref x0), (.int x1), (.ref x2), (.int x3), (.int x4)] 7 = mkF m 0 #[.val (.ref x0), .val (.int x1), .val (.ref x2), .val (.int x3), .val (.int x4), .unset, .unset] [] := by first | (simp [entryFrame, mkF, argsToLocals, Value.category]; done) | rfl
theorem ef_RII_6 (m : MethodId) (x0 : Addr) (x1 : Int32) (x2 : Int32) : entryFrame m #[(.ref x0), (.int x1), (.int x2)] 6 = mkF m 0 #[.val (.ref x0), .val (.int x1), .val (.int x2), .unset, .unset, .unset] [] := by first | (simp [entryFrame, mkF, argsToLocals, Value.category]; done) | rfl
theorem ef_RI_2 (m : MethodId) (x0 : Addr) (x1 : Int32) : entryFrame m #[(.ref x0), (.int x1)] 2 = mkF m 0 #[.val (.ref x0), .val (.int x1)] [] := by first | (simp [entryFrame, mkF, argsToLocals, Value.category]; done) | rfl
theorem ef_RRIIN_6 (m : MethodId) (x0 : Addr) (x1 : Addr) (x2 : Int32) (x3 : Int32) : entryFrame m #[(.ref x0), (.ref x1), (.int x2), (.int x3), .null] 6 = mkF m 0 #[.val (.ref x0), .val (.ref x1), .val (.int x2), .val (.int x3), .val .null, .unset] [] := by first | (simp [entryFrame, mkF, argsToLocals, Value.category]; done) | rfl
theorem ef_RR_2 (m : MethodId) (x0 : Addr) (x1 : Addr) : entryFrame m #[(.ref x0), (.ref x1)] 2 = mkF m 0 #[.val (.ref x0), .val (.ref x1)] [] := by first | (simp [entryFrame, mkF, argsToLocals, Value.category]; done) | rfl
theorem ef_RR_3 (m : MethodId) (x0 : Addr) (x1 : Addr) : entryFrame m #[(.ref x0), (.ref x1)] 3 = mkF m 0 #[.val (.ref x0), .val (.ref x1), .unset] [] := by first | (simp [entryFrame, mkF, argsToLocals, Value.category]; done) | rfl
theorem ef_RN_3 (m : MethodId) (x0 : Addr) : entryFrame m #[(.ref x0), .null] 3 = mkF m 0 #[.val (.ref x0), .val .null, .unset] [] := by first | (simp [entryFrame, mkF, argsToLocals, Value.category]; done) | rfl
theorem ef_OO_2 (m : MethodId) (x0 : Value) (hx0 : x0.isRef = true) (x1 : Value) (hx1 : x1.isRef = true) : entryFrame m #[x0, x1] 2 = mkF m 0 #[.val x0, .val x1] [] := by rcases ref_cases hx0 with rfl | ⟨_, rfl⟩ <;> rcases ref_cases hx1 with rfl | ⟨_, rfl⟩ <;> first | (simp [entryFrame, mkF, argsToLocals, Value.category]; done) | rfl
theorem ef_R_1 (m : MethodId) (x0 : Addr) : entryFrame m #[(.ref x0)] 1 = mkF m 0 #[.val (.ref x0)] [] := by first | (simp [entryFrame, mkF, argsToLocals, Value.category]; done) | rfl
theorem ef_ROO_3 (m : MethodId) (x0 : Addr) (x1 : Value) (hx1 : x1.isRef = true) (x2 : Value) (hx2 : x2.isRef = true) : entryFrame m #[(.ref x0), x1, x2] 3 = mkF m 0 #[.val (.ref x0), .val x1, .val x2] [] := by rcases ref_cases hx1 with rfl | ⟨_, rfl⟩ <;> rcases ref_cases hx2 with rfl | ⟨_, rfl⟩ <;> first | (simp [entryFrame, mkF, argsToLocals, Value.category]; done) | rfl
theorem ef_I_3 (m : MethodId) (x0 : Int32) : entryFrame m #[(.int x0)] 3 = mkF m 0 #[.val (.int x0), .unset, .unset] [] := by first | (simp [entryFrame, mkF, argsToLocals, Value.category]; done) | rfl
theorem ef_I_6 (m : MethodId) (x0 : Int32) : entryFrame m #[(.int x0)] 6 = mkF m 0 #[.val (.int x0), .unset, .unset, .unset, .unset, .unset] [] := by first | (simp [entryFrame, mkF, argsToLocals, Value.category]; done) | rfl
theorem ef_IIIII_11 (m : MethodId) (x0 : Int32) (x1 : Int32) (x2 : Int32) (x3 : Int32) (x4 : Int32) : entryFrame m #[(.int x0), (.int x1), (.int x2), (.int x3), (.int x4)] 11 = mkF m 0 #[.val (.int x0), .val (.int x1), .val (.int x2), .val (.int x3), .val (.int x4), .unset, .unset, .unset, .unset, .unset, .unset] [] := by first | (simp [entryFrame, mkF, argsToLocals, Value.category]; done) | rfl
def Q_cmp5 (Z : State) (n0 : Nat) (b d : Addr) (kb kd : ClassId) (z : Int32) (cs : List Int32) (h0 : Heap) (v : Option Value) (h : Heap) : Prop := v = some (.int z) ∧ Keep h0 h [d] ∧ Arv Z h d kd .byte z (cs.map fun c => Value.int c.toInt8.toInt32) (.int 0)
set_option maxRecDepth 65536 in
set_option maxHeartbeats 40000000 in
theorem ct_cmp5 {l : Launch} {Z : State} {a0 : Array Value} (hw : ∀ d ∈ tables_1, d.before a0 Z = true) (hEL : EW Z a0 EL0) {n0 : Nat} (cds : List Jvm.Cond) (b d : Addr) (kb kd : ClassId) (z : Int32) (cs : List Int32) (h0 : Heap) (hz : z.toInt = cs.length) (hlen : cs.length ≤ 4) (hcs : ∀ c ∈ cs, 0 ≤ c.toInt ∧ c.toInt < 256) (Vb : Arv Z h0 b kb .char z (cs.map Value.int) (.int 0)) (Vd : Arv Z h0 d kd .byte z [] (.int 0)) (n0_d : n0 ≤ d) (hne : b ≠ d) :
    Ct l Z a0 EL0 n0 false true (⟨"java/lang/StringUTF16", "compress", "([CI[BII)I"⟩ : MethodName) jdk_52_method_21_code 7 (Option.some Jvm.ClassFile.FieldType.int) cds ({ frames := 0, cells := 0, slots := 0, locals := 0 } : Room) [d] #[(.ref b), (.int (0 : Int32)), (.ref d), (.int (0 : Int32)), (.int z)] h0 (Q_cmp5 Z n0 b d kb kd z cs h0) := by
  refine Ct.of (plainFor_of_name pn_0) hEL ?_
  intro p e s m below meth c T0 W0 hret hnm hs0
  refine Go.cast (ef_RIRII_7 m b (0 : Int32) d (0 : Int32) z) ?_
  show Go p e below _ T0 (mkF m 0 #[.val (.ref b), .val (.int (0 : Int32)), .val (.ref d), .val (.int (0 : Int32)), .val (.int z), .unset, .unset] [])
  refine s_iconst W0 d6_0 (v := (0 : Int32)) (by decide) (pc' := 1) rfl ?_
  refine s_istore W0 d6_1 (l' := #[.val (.ref b), .val (.int (0 : Int32)), .val (.ref d), .val (.int (0 : Int32)), .val (.int z), .val (.int (0 : Int32)), .unset]) rfl (pc' := 3) rfl ?_
  suffices loop : ∀ (r j : Nat), j + r = cs.length → ∀ (T : State) (h : Heap) (s6 : Slot), One1 s6 → Wk p l e _ s m _ below meth c Z a0 EL0 n0 false true _ _ _ [d] T h 0 0 → Keep h0 h [d] → Arv Z h d kd .byte z ((cs.take j).map fun c => Value.int c.toInt8.toInt32) (.int 0) → Go p e below (Po s Z EL0 n0 true _ _ (Q_cmp5 Z n0 b d kb kd z cs h0)) T (mkF m 3 #[.val (.ref b), .val (.int j.toInt32), .val (.ref d), .val (.int j.toInt32), .val (.int z), .val (.int j.toInt32), s6] []) from
    loop cs.length 0 (Nat.zero_add _) T0 h0 .unset One1.u W0 (Keep.refl _ _) Vd
  intro r
  induction r with
  | zero =>
    intro j hj T1 h1 s6 h6 W1 K1 Vj
    have ej : j.toInt32.toInt = j := n32 (by omega)
    refine s_iload W1 d6_3 rfl (pc' := 5) rfl ?_
    refine s_iload W1 d6_5 rfl (pc' := 7) rfl ?_
    refine s_icmpge W1 d6_7 (by decide) (pc1 := 44) (by decide) (pc2 := 10) rfl ?_ (fun q => absurd q (nlt32 (by omega)))
    intro q7
    refine s_iload W1 d6_44 rfl (pc' := 46) rfl ?_
    exact gRetI W1 hret d6_46 (by decide) (by decide) ⟨rfl, K1, by rw [List.take_of_length_le (by omega)] at Vj; exact Vj⟩
  | succ r ih =>
    intro j hj T1 h1 s6 h6 W1 K1 Vj
    have hjl : j < cs.length := by omega
    have ej : j.toInt32.toInt = j := n32 (by omega)
    have hc := hcs cs[j] (List.getElem_mem hjl)
    have os : storeLocals #[.val (.ref b), .val (.int j.toInt32), .val (.ref d), .val (.int j.toInt32), .val (.int z), .val (.int j.toInt32), s6] 6 (.int cs[j]) = some #[.val (.ref b), .val (.int j.toInt32), .val (.ref d), .val (.int j.toInt32), .val (.int z), .val (.int j.toInt32), .val (.int cs[j])] := by
      rcases h6 with rfl | ⟨w, rfl, hw⟩
      · rfl
      · cases w <;> first | rfl | (simp [Value.category] at hw)
    refine s_iload W1 d6_3 rfl (pc' := 5) rfl ?_
    refine s_iload W1 d6_5 rfl (pc' := 7) rfl ?_
    refine s_icmpge W1 d6_7 (by decide) (pc1 := 44) (by decide) (pc2 := 10) rfl (fun q => absurd q (fun q' => q' (lt32 (by omega)))) ?_
    intro q7
    refine s_aloadN W1 d6_10 rfl rfl (pc' := 11) rfl ?_
    refine s_iloadN W1 d6_11 rfl (pc' := 12) rfl ?_
    have Vb1 := Vb.keep K1 (ninS hne nin0)
    refine gLdC W1 Vb1 ⟨nlt32 (by rw [zero32]; omega), lt32 (by omega)⟩ (v := .int cs[j]) (by rw [n32c (by omega)]; exact getD_map' _ _ _ hjl) d6_12 (pc' := 13) rfl ?_
    refine s_istore W1 d6_13 (l' := #[.val (.ref b), .val (.int j.toInt32), .val (.ref d), .val (.int j.toInt32), .val (.int z), .val (.int j.toInt32), .val (.int cs[j])]) os (pc' := 15) rfl ?_
    refine s_iload W1 d6_15 rfl (pc' := 17) rfl ?_
    refine s_sipush W1 d6_17 (v := (255 : Int32)) (by decide) (pc' := 20) rfl ?_
    refine s_icmple W1 d6_20 (by decide) (pc1 := 26) (by decide) (pc2 := 23) rfl ?_ (fun q => absurd q (nlt32 (by rw [show (255 : Int32).toInt = 255 from by decide]; omega)))
    intro q20
    refine s_aloadN W1 d6_26 rfl rfl (pc' := 27) rfl ?_
    refine s_iloadN W1 d6_27 rfl (pc' := 28) rfl ?_
    refine s_iload W1 d6_28 rfl (pc' := 30) rfl ?_
    refine s_i2b W1 d6_30 (pc' := 31) rfl ?_
    have Vp := Arv.pad Vj (pad_rep _ (.int 0) 1)
    refine gStB W1 n0_d (List.mem_of_getElem? (i := 0) rfl) Vp ⟨nlt32 (by rw [zero32]; omega), lt32 (by omega)⟩ (i := j) (n32c (by omega)) (by simp; omega) d6_31 (pc' := 32) rfl ?_
    intro T2 h2 W2 K2 V2
    refine s_iinc W2 d6_32 (v := (1 : Int32)) (by decide) rfl (l' := #[.val (.ref b), .val (.int (j.toInt32 + (1 : Int32))), .val (.ref d), .val (.int j.toInt32), .val (.int z), .val (.int j.toInt32), .val (.int cs[j])]) rfl (pc' := 35) rfl ?_
    refine s_iinc W2 d6_35 (v := (1 : Int32)) (by decide) rfl (l' := #[.val (.ref b), .val (.int (j.toInt32 + (1 : Int32))), .val (.ref d), .val (.int (j.toInt32 + (1 : Int32))), .val (.int z), .val (.int j.toInt32), .val (.int cs[j])]) rfl (pc' := 38) rfl ?_
    refine s_iinc W2 d6_38 (v := (1 : Int32)) (by decide) rfl (l' := #[.val (.ref b), .val (.int (j.toInt32 + (1 : Int32))), .val (.ref d), .val (.int (j.toInt32 + (1 : Int32))), .val (.int z), .val (.int (j.toInt32 + (1 : Int32))), .val (.int cs[j])]) rfl (pc' := 41) rfl ?_
    refine s_goto W2 d6_41 (by decide) (pc' := 3) (by decide) ?_
    rw [n32s]
    refine ih (j + 1) (by omega) T2 h2 _ (One1.i _) W2 (K1.trans K2 (allS (Or.inl (by simp)) all0)) ?_
    rw [take_succ' _ _ hjl]
    rw [set_last _ _ _ (by simp; omega)] at V2
    have e2 : cs[j].toInt8.toInt32.toInt8.toInt32 = cs[j].toInt8.toInt32 := by simp
    rw [e2] at V2
    exact V2
def Q_cmp3 (Z : State) (n0 : Nat) (b : Addr) (kb : ClassId) (z : Int32) (cs : List Int32) (h0 : Heap) (v : Option Value) (h : Heap) : Prop := ∃ d kd, v = some (.ref d) ∧ Keep h0 h [] ∧ h0.size ≤ d ∧ Arv Z h d kd .byte z (cs.map fun c => Value.int c.toInt8.toInt32) (.int 0)
set_option maxRecDepth 65536 in
set_option maxHeartbeats 40000000 in
theorem ct_cmp3 {l : Launch} {Z : State} {a0 : Array Value} (hw : ∀ d ∈ tables_1, d.before a0 Z = true) (hEL : EW Z a0 EL0) {n0 : Nat} (cds : List Jvm.Cond) (b : Addr) (kb : ClassId) (z : Int32) (cs : List Int32) (h0 : Heap) (hz : z.toInt = cs.length) (hlen : cs.length ≤ 4) (hcs : ∀ c ∈ cs, 0 ≤ c.toInt ∧ c.toInt < 256) (Vb : Arv Z h0 b kb .char z (cs.map Value.int) (.int 0)) :
    Ct l Z a0 EL0 n0 false true (⟨"java/lang/StringUTF16", "compress", "([CII)[B"⟩ : MethodName) jdk_52_method_16_code 6 (Option.some (Jvm.ClassFile.FieldType.array Jvm.ClassFile.FieldType.byte)) cds ({ frames := 1, cells := 1, slots := 4, locals := 18 } : Room) [] #[(.ref b), (.int (0 : Int32)), (.int z)] h0 (Q_cmp3 Z n0 b kb z cs h0) := by
  refine Ct.of (plainFor_of_name pn_0) hEL ?_
  intro p e s m below meth c T0 W0 hret hnm hs0
  refine Go.cast (ef_RII_6 m b (0 : Int32) z) ?_
  show Go p e below _ T0 (mkF m 0 #[.val (.ref b), .val (.int (0 : Int32)), .val (.int z), .unset, .unset, .unset] [])
  have lt_b := natlt Vb.lt
  refine s_iloadN W0 d5_0 rfl (pc' := 1) rfl ?_
  refine gNewP (aty := .byte) W0 (w_26 hw) (ad := "[B") (by decide +kernel) d5_1 (pc' := 3) rfl (nlt32 (by rw [zero32]; omega)) (cap := 4) (by show z.toInt.toNat ≤ _; omega) (by decide) (by decide) (by decide) ?_
  intro T1 h1 b1 g1 W1 E1 ⟨k1, V1, A1⟩
  have z1 : h0.size ≤ h1.size := E1.1
  have lt_b1 := natlt A1.lt
  have gg1 := nateq g1
  have n0_b1 : n0 ≤ b1 := by have := W0.n0le; omega
  have Vp1 : Arv Z h1 b1 k1 .byte z [] (.int (0 : Int32)) := V1
  refine s_astoreN W1 d5_3 rfl (l' := #[.val (.ref b), .val (.int (0 : Int32)), .val (.int z), .val (.ref b1), .unset, .unset]) rfl (pc' := 4) rfl ?_
  refine s_aloadN W1 d5_4 rfl rfl (pc' := 5) rfl ?_
  refine s_iloadN W1 d5_5 rfl (pc' := 6) rfl ?_
  refine s_aloadN W1 d5_6 rfl rfl (pc' := 7) rfl ?_
  refine s_iconst W1 d5_7 (v := (0 : Int32)) (by decide) (pc' := 8) rfl ?_
  refine s_iloadN W1 d5_8 rfl (pc' := 9) rfl ?_
  have fx2 := (Vb.ext E1)
  refine gStatic W1 (w_27 hw) (w_28 hw) (w_24 hw) (w_29 hw) (by decide) pd_0 (ct_cmp5 hw hEL [] b b1 kb k1 z cs h1 hz hlen hcs fx2 Vp1 n0_b1 (ane (by omega))) (by simp) d5_9 (pc' := 12) rfl rfl (argsL := [(.ref b), (.int (0 : Int32)), (.ref b1), (.int (0 : Int32)), (.int z)]) rfl rfl (rest := []) rfl (wt := 0) (Nat.le_of_eq rfl) (by decide) (by decide) (by decide) (by decide) ?_
  rintro v3 T3 h3 W3 z3 ⟨rfl, K, V⟩
  show Go p e below _ T3 (mkF m 12 #[.val (.ref b), .val (.int (0 : Int32)), .val (.int z), .val (.ref b1), .unset, .unset] [(.int z)])
  refine s_istore W3 d5_12 (l' := #[.val (.ref b), .val (.int (0 : Int32)), .val (.int z), .val (.ref b1), .val (.int z), .unset]) rfl (pc' := 14) rfl ?_
  refine s_iload W3 d5_14 rfl (pc' := 16) rfl ?_
  refine s_iloadN W3 d5_16 rfl (pc' := 17) rfl ?_
  refine s_icmpeq W3 d5_17 (by decide) (pc1 := 57) (by decide) (pc2 := 20) rfl ?_ (fun q => (q rfl).elim)
  intro q17
  refine s_aloadN W3 d5_57 rfl rfl (pc' := 58) rfl ?_
  exact gRetA W3 hret rfl rfl d5_58 (by decide) (by decide) ⟨_, _, rfl, (((Keep.refl h0 []).ext E1).trans K (allS (Or.inr (natle (by omega))) all0)), by omega, V⟩
def Q_coder (Z : State) (n0 : Nat) (d : Addr) (kd : ClassId) (z zz : Int32) (vs : List Value) (h0 : Heap) (v : Option Value) (h : Heap) : Prop := v = some (.int (nar .byte (((z - zz).toUInt32 >>> ((31 : Int32) &&& 31).toUInt32).toInt32.toInt8.toInt32))) ∧ h0 = h
set_option maxRecDepth 65536 in
set_option maxHeartbeats 40000000 in
theorem ct_coder {l : Launch} {Z : State} {a0 : Array Value} (hw : ∀ d ∈ tables_1, d.before a0 Z = true) (hEL : EW Z a0 EL0) {n0 : Nat} (cds : List Jvm.Cond) (d : Addr) (kd : ClassId) (z zz : Int32) (vs : List Value) (h0 : Heap) (Vd : Arv Z h0 d kd .byte zz vs (.int 0)) :
    Ct l Z a0 EL0 n0 false true (⟨"java/lang/StringUTF16", "coderFromArrayLen", "([BI)B"⟩ : MethodName) jdk_52_method_15_code 2 (Option.some Jvm.ClassFile.FieldType.byte) cds ({ frames := 0, cells := 0, slots := 0, locals := 0 } : Room) [] #[(.ref d), (.int z)] h0 (Q_coder Z n0 d kd z zz vs h0) := by
  refine Ct.of (plainFor_of_name pn_0) hEL ?_
  intro p e s m below meth c T0 W0 hret hnm hs0
  refine Go.cast (ef_RI_2 m d z) ?_
  show Go p e below _ T0 (mkF m 0 #[.val (.ref d), .val (.int z)] [])
  refine s_iloadN W0 d7_0 rfl (pc' := 1) rfl ?_
  refine s_aloadN W0 d7_1 rfl rfl (pc' := 2) rfl ?_
  refine gLen W0 Vd d7_2 (pc' := 3) rfl ?_
  refine s_isub W0 d7_3 (pc' := 4) rfl ?_
  refine s_bipush W0 d7_4 (v := (31 : Int32)) (by decide) (pc' := 6) rfl ?_
  refine s_iushr W0 d7_6 (pc' := 7) rfl ?_
  refine s_i2b W0 d7_7 (pc' := 8) rfl ?_
  exact gRetN W0 hret (by simp) d7_8 (by decide) (by decide) ⟨rfl, rfl⟩
theorem wS {Z : State} {a0 : Array Value} (hw : ∀ d ∈ tables_1, d.before a0 Z = true) : ∀ a ∈ Bundle.stringAtoms, a.before a0 Z = true := (allC (P := fun a => a.before a0 Z = true) (w_10 hw) (allC (P := fun a => a.before a0 Z = true) (w_9 hw) (allC (P := fun a => a.before a0 Z = true) (w_26 hw) (allC (P := fun a => a.before a0 Z = true) (w_36 hw) (allC (P := fun a => a.before a0 Z = true) (w_34 hw) (allC (P := fun a => a.before a0 Z = true) (w_51 hw) (allC (P := fun a => a.before a0 Z = true) (w_52 hw) allC0)))))))
def Q_str4 (Z : State) (n0 : Nat) (a b : Addr) (kb : ClassId) (z ccs : Int32) (cs : List Int32) (h0 : Heap) (v : Option Value) (h : Heap) : Prop := v = none ∧ Keep h0 h [a] ∧ ∃ d kd, Str Z h a d kd 0 z (cs.map fun c => Value.int c.toInt8.toInt32) ∧ (cs ≠ [] → h0.size ≤ d)
set_option maxRecDepth 65536 in
set_option maxHeartbeats 40000000 in
theorem ct_str4 {l : Launch} {Z : State} {a0 : Array Value} (hw : ∀ d ∈ tables_1, d.before a0 Z = true) (hEL : EW Z a0 EL0) {n0 : Nat} (cds : List Jvm.Cond) (a b : Addr) (kb : ClassId) (z ccs : Int32) (cs : List Int32) (h0 : Heap) (hz : z.toInt = cs.length) (hlen : cs.length ≤ 4) (hcs : ∀ c ∈ cs, 0 ≤ c.toInt ∧ c.toInt < 256) (Vb : Arv Z h0 b kb .char z (cs.map Value.int) (.int 0)) (Ea : Exa Z h0 a "java/lang/String") (Fv : Fld Z h0 a "java/lang/String" "value" "[B" .null) (Fc : Fld Z h0 a "java/lang/String" "coder" "B" (.int 0)) (n0_a : n0 ≤ a) (SCS : Sta Z Z.heap "java/lang/String" "COMPACT_STRINGS" "Z" (.int ccs)) (hccs : ¬ ccs = 0) :
    Ct l Z a0 EL0 n0 false true (⟨"java/lang/String", "<init>", "([CIILjava/lang/Void;)V"⟩ : MethodName) jdk_42_method_149_code 6 (Option.none : Option Jvm.ClassFile.FieldType) cds ({ frames := 2, cells := 4, slots := 8, locals := 35 } : Room) [a] #[(.ref a), (.ref b), (.int (0 : Int32)), (.int z), .null] h0 (Q_str4 Z n0 a b kb z ccs cs h0) := by
  refine Ct.of (plainFor_of_name pn_1) hEL ?_
  intro p e s m below meth c T0 W0 hret hnm hs0
  refine Go.cast (ef_RRIIN_6 m a b (0 : Int32) z) ?_
  show Go p e below _ T0 (mkF m 0 #[.val (.ref a), .val (.ref b), .val (.int (0 : Int32)), .val (.int z), .val .null, .unset] [])
  have lt_a := natlt Ea.lt
  have lt_b := natlt Vb.lt
  refine s_aloadN W0 d3_0 rfl rfl (pc' := 1) rfl ?_
  refine gInitO W0 (w_18 hw) (w_19 hw) (w_20 hw) d3_1 (pc' := 4) rfl rfl (by decide) (wt := 0) (Nat.le_of_eq rfl) (by decide) ?_
  intro T1 W1
  refine s_iloadN W1 d3_4 rfl (pc' := 5) rfl ?_
  refine s_ifne W1 d3_5 (by decide) (pc1 := 27) (by decide) (pc2 := 8) rfl ?_ ?_
  · intro q5
    refine gGetS W1 (host := "") (Or.inl (w_21 hw)) Via.refl (SCS.ext W1.old.2) d3_27 (pc' := 30) rfl ?_
    intro T2 W2
    refine s_ifeq W2 d3_30 (by decide) (pc1 := 58) (by decide) (pc2 := 33) rfl (fun q => absurd q hccs) ?_
    intro q30
    refine s_aloadN W2 d3_33 rfl rfl (pc' := 34) rfl ?_
    refine s_iloadN W2 d3_34 rfl (pc' := 35) rfl ?_
    refine s_iloadN W2 d3_35 rfl (pc' := 36) rfl ?_
    refine gStatic W2 (w_22 hw) (w_23 hw) (w_24 hw) (w_25 hw) (by decide) pd_1 (ct_cmp3 hw hEL [] b kb z cs h0 hz hlen hcs Vb) (by simp) d3_36 (pc' := 39) rfl rfl (argsL := [(.ref b), (.int (0 : Int32)), (.int z)]) rfl rfl (rest := []) rfl (wt := 0) (Nat.le_of_eq rfl) (by decide) (by decide) (by decide) (by decide) ?_
    rintro v3 T3 h3 W3 z3 ⟨d, kd, rfl, K3, g3, V3⟩
    have lt_d := natlt V3.lt
    show Go p e below _ T3 (mkF m 39 #[.val (.ref a), .val (.ref b), .val (.int (0 : Int32)), .val (.int z), .val .null, .unset] [(.ref d)])
    refine s_astore W3 d3_39 rfl (l' := #[.val (.ref a), .val (.ref b), .val (.int (0 : Int32)), .val (.int z), .val .null, .val (.ref d)]) rfl (pc' := 41) rfl ?_
    refine s_aloadN W3 d3_41 rfl rfl (pc' := 42) rfl ?_
    refine s_aload W3 d3_42 rfl rfl (pc' := 44) rfl ?_
    refine s_iloadN W3 d3_44 rfl (pc' := 45) rfl ?_
    refine gStatic W3 (w_30 hw) (w_31 hw) (w_24 hw) (w_32 hw) (by decide) pd_2 (ct_coder hw hEL [] d kd z z (cs.map fun c => Value.int c.toInt8.toInt32) h3 V3) (by simp) d3_45 (pc' := 48) rfl rfl (argsL := [(.ref d), (.int z)]) rfl rfl (rest := [(.ref a)]) rfl (wt := 1) (Nat.le_of_eq rfl) (by decide) (by decide) (by decide) (by decide) ?_
    rintro v4 T4 h4 W4 z4 ⟨rfl, rfl⟩
    have ec : (nar .byte (((z - z).toUInt32 >>> ((31 : Int32) &&& 31).toUInt32).toInt32.toInt8.toInt32)) = 0 := by rw [Int32.sub_self]; decide
    rw [ec]
    show Go p e below _ T4 (mkF m 48 #[.val (.ref a), .val (.ref b), .val (.int (0 : Int32)), .val (.int z), .val .null, .val (.ref d)] [(.int (0 : Int32)), (.ref a)])
    have fx6 := (Fc.keep K3 nin0)
    have fx7 := (Ea.keep K3)
    refine gPutFN W4 n0_a (Or.inl (List.mem_of_getElem? (i := 0) rfl)) (w_33 hw) Via.refl fx6 fx7 (Or.inr ⟨(w_34 hw), rfl, hnm⟩) (w_9 hw) (ty := .byte) (v' := (.int (0 : Int32))) (by decide) (by decide) (by decide) d3_48 (pc' := 51) rfl ?_
    intro T5 h5 W5 Wr5
    have Fw5 := fx6.same Wr5
    have z5 : h3.size ≤ h5.size := Nat.le_of_eq Wr5.size.symm
    refine s_aloadN W5 d3_51 rfl rfl (pc' := 52) rfl ?_
    refine s_aload W5 d3_52 rfl rfl (pc' := 54) rfl ?_
    have fx9 := ((Fv.keep K3 nin0).other Wr5 (Or.inr (slot_ne (Or.inr (w_36 hw)) (Or.inr (w_34 hw)) (by decide) (t := (.array .byte)) (t' := .byte) (by decide) (by decide))))
    have fx10 := (fx7.wr Wr5)
    refine gPutF W5 n0_a (Or.inl (List.mem_of_getElem? (i := 0) rfl)) (host := "") (Or.inl (w_35 hw)) Via.refl fx9 fx10 (Or.inr ⟨(w_36 hw), rfl, hnm⟩) (w_9 hw) (ty := (.array .byte)) (by decide) rfl rfl d3_54 (pc' := 57) rfl ?_
    intro T8 h8 W8 Wr8
    have Fw8 := fx9.same Wr8
    have z8 : h5.size ≤ h8.size := Nat.le_of_eq Wr8.size.symm
    have fx11 := (fx10.wr Wr8)
    have fx12 := (Fw5.other Wr8 (Or.inr (slot_ne (Or.inr (w_34 hw)) (Or.inr (w_36 hw)) (by decide) (t := .byte) (t' := (.array .byte)) (by decide) (by decide))))
    have fx13 := ((V3.other Wr5 (ane (by omega))).other Wr8 (ane (by omega)))
    exact gRetV W8 hret d3_57 (by decide) (by decide) ⟨rfl, ((((Keep.refl h0 [a]).trans K3 all0).wr Wr5 (Or.inl (by simp))).wr Wr8 (Or.inl (by simp))), d, kd, ⟨fx11, Fw8, fx12, fx13⟩, fun _ => by omega⟩
  · intro q5
    subst q5
    obtain rfl : cs = [] := List.eq_nil_of_length_eq_zero (by rw [zero32] at hz; omega)
    refine s_aloadN W1 d3_8 rfl rfl (pc' := 9) rfl ?_
    refine gLdcS W1 (w_50 hw) (wS hw) (List.mem_of_getElem? (i := 1) rfl) (vs := []) (z := (0 : Int32)) ⟨by decide +kernel, by decide +kernel⟩ (by decide) (by decide) d3_9 (pc' := 11) rfl (nn := 0) (by decide) (by decide) (by decide) (by decide) ?_
    intro T14 h14 s14 d14 k14 W14 E14 A14 C14 F14 V14 N14
    have z14 : h0.size ≤ h14.size := E14.1
    have lt_s14 := natlt A14.lt
    have lt_d14 := natlt V14.lt
    refine gGetF W14 (host := "") (Or.inl (w_35 hw)) Via.refl F14 d3_11 (pc' := 14) rfl ?_
    intro T15 W15
    have fx17 := (Fv.ext E14)
    have fx18 := (Ea.ext E14)
    refine gPutF W15 n0_a (Or.inl (List.mem_of_getElem? (i := 0) rfl)) (host := "") (Or.inl (w_35 hw)) Via.refl fx17 fx18 (Or.inr ⟨(w_36 hw), rfl, hnm⟩) (w_9 hw) (ty := (.array .byte)) (by decide) rfl rfl d3_14 (pc' := 17) rfl ?_
    intro T16 h16 W16 Wr16
    have Fw16 := fx17.same Wr16
    have z16 : h14.size ≤ h16.size := Nat.le_of_eq Wr16.size.symm
    refine s_aloadN W16 d3_17 rfl rfl (pc' := 18) rfl ?_
    refine gLdcS W16 (w_50 hw) (wS hw) (List.mem_of_getElem? (i := 1) rfl) (vs := []) (z := (0 : Int32)) ⟨by decide +kernel, by decide +kernel⟩ (by decide) (by decide) d3_18 (pc' := 20) rfl (nn := 0) (by decide) (by decide) (by decide) (by decide) ?_
    intro T19 h19 s19 d19 k19 W19 E19 A19 C19 F19 V19 N19
    have z19 : h16.size ≤ h19.size := E19.1
    have lt_s19 := natlt A19.lt
    have lt_d19 := natlt V19.lt
    refine gGetF W19 (host := "") (Or.inl (w_33 hw)) Via.refl C19 d3_20 (pc' := 23) rfl ?_
    intro T20 W20
    have fx22 := (((Fc.ext E14).other Wr16 (Or.inr (slot_ne (Or.inr (w_34 hw)) (Or.inr (w_36 hw)) (by decide) (t := .byte) (t' := (.array .byte)) (by decide) (by decide)))).ext E19)
    have fx23 := ((fx18.wr Wr16).ext E19)
    refine gPutFN W20 n0_a (Or.inl (List.mem_of_getElem? (i := 0) rfl)) (w_33 hw) Via.refl fx22 fx23 (Or.inr ⟨(w_34 hw), rfl, hnm⟩) (w_9 hw) (ty := .byte) (v' := (.int (0 : Int32))) (by decide) (by decide) (by decide) d3_23 (pc' := 26) rfl ?_
    intro T21 h21 W21 Wr21
    have Fw21 := fx22.same Wr21
    have z21 : h19.size ≤ h21.size := Nat.le_of_eq Wr21.size.symm
    have fx24 := (fx23.wr Wr21)
    have fx25 := ((Fw16.ext E19).other Wr21 (Or.inr (slot_ne (Or.inr (w_36 hw)) (Or.inr (w_34 hw)) (by decide) (t := (.array .byte)) (t' := .byte) (by decide) (by decide))))
    have fx26 := (((V14.other Wr16 (Ne.symm (N14 _ (List.mem_of_getElem? (i := 0) rfl)).2)).ext E19).other Wr21 (Ne.symm (N14 _ (List.mem_of_getElem? (i := 0) rfl)).2))
    exact gRetV W21 hret d3_26 (by decide) (by decide) ⟨rfl, (((((Keep.refl h0 [a]).ext E14).wr Wr16 (Or.inl (by simp))).ext E19).wr Wr21 (Or.inl (by simp))), d14, _, ⟨fx24, fx25, Fw21, fx26⟩, fun q => (q rfl).elim⟩
def Q_str1 (Z : State) (n0 : Nat) (a b : Addr) (kb : ClassId) (z ccs : Int32) (cs : List Int32) (h0 : Heap) (v : Option Value) (h : Heap) : Prop := v = none ∧ Keep h0 h [a] ∧ ∃ d kd, Str Z h a d kd 0 z (cs.map fun c => Value.int c.toInt8.toInt32) ∧ (cs ≠ [] → h0.size ≤ d)
set_option maxRecDepth 65536 in
set_option maxHeartbeats 40000000 in
theorem ct_str1 {l : Launch} {Z : State} {a0 : Array Value} (hw : ∀ d ∈ tables_1, d.before a0 Z = true) (hEL : EW Z a0 EL0) {n0 : Nat} (cds : List Jvm.Cond) (a b : Addr) (kb : ClassId) (z ccs : Int32) (cs : List Int32) (h0 : Heap) (hz : z.toInt = cs.length) (hlen : cs.length ≤ 4) (hcs : ∀ c ∈ cs, 0 ≤ c.toInt ∧ c.toInt < 256) (Vb : Arv Z h0 b kb .char z (cs.map Value.int) (.int 0)) (Ea : Exa Z h0 a "java/lang/String") (Fv : Fld Z h0 a "java/lang/String" "value" "[B" .null) (Fc : Fld Z h0 a "java/lang/String" "coder" "B" (.int 0)) (n0_a : n0 ≤ a) (SCS : Sta Z Z.heap "java/lang/String" "COMPACT_STRINGS" "Z" (.int ccs)) (hccs : ¬ ccs = 0) :
    Ct l Z a0 EL0 n0 false true (⟨"java/lang/String", "<init>", "([C)V"⟩ : MethodName) jdk_42_method_3_code 2 (Option.none : Option Jvm.ClassFile.FieldType) cds ({ frames := 3, cells := 4, slots := 8, locals := 52 } : Room) [a] #[(.ref a), (.ref b)] h0 (Q_str1 Z n0 a b kb z ccs cs h0) := by
  refine Ct.of (plainFor_of_name pn_1) hEL ?_
  intro p e s m below meth c T0 W0 hret hnm hs0
  refine Go.cast (ef_RR_2 m a b) ?_
  show Go p e below _ T0 (mkF m 0 #[.val (.ref a), .val (.ref b)] [])
  refine s_aloadN W0 d2_0 rfl rfl (pc' := 1) rfl ?_
  refine s_aloadN W0 d2_1 rfl rfl (pc' := 2) rfl ?_
  refine s_iconst W0 d2_2 (v := (0 : Int32)) (by decide) (pc' := 3) rfl ?_
  refine s_aloadN W0 d2_3 rfl rfl (pc' := 4) rfl ?_
  refine gLen W0 Vb d2_4 (pc' := 5) rfl ?_
  refine s_aconst_null W0 d2_5 (pc' := 6) rfl ?_
  refine gSpecial W0 rfl (w_14 hw) (w_15 hw) (w_10 hw) (w_17 hw) (by decide) pd_3 (ct_str4 hw hEL [] a b kb z ccs cs h0 hz hlen hcs Vb Ea Fv Fc n0_a SCS hccs) (fun x hx => hx) d2_6 (pc' := 9) rfl rfl (argsL := [(.ref b), (.int (0 : Int32)), (.int z), .null]) rfl rfl (rest := []) rfl (wt := 0) (Nat.le_of_eq rfl) (by decide) (by decide) (by decide) (by decide) ?_
  rintro v1 T1 h1 W1 z1 ⟨rfl, K, S⟩
  show Go p e below _ T1 (mkF m 9 #[.val (.ref a), .val (.ref b)] [])
  exact gRetV W1 hret d2_9 (by decide) (by decide) ⟨rfl, K, S⟩
def Q_leq (Z : State) (n0 : Nat) (d1 d2 : Addr) (k1 k2 : ClassId) (z1 z2 : Int32) (xs1 xs2 : List Int32) (h0 : Heap) (v : Option Value) (h : Heap) : Prop := v = some (.int (if xs1 = xs2 then 1 else 0)) ∧ h0 = h
set_option maxRecDepth 65536 in
set_option maxHeartbeats 40000000 in
theorem ct_leq {l : Launch} {Z : State} {a0 : Array Value} (hw : ∀ d ∈ tables_1, d.before a0 Z = true) (hEL : EW Z a0 EL0) {n0 : Nat} (cds : List Jvm.Cond) (d1 d2 : Addr) (k1 k2 : ClassId) (z1 z2 : Int32) (xs1 xs2 : List Int32) (h0 : Heap) (l1 : z1.toInt = xs1.length) (l2 : z2.toInt = xs2.length) (V1 : Arv Z h0 d1 k1 .byte z1 (xs1.map Value.int) (.int 0)) (V2 : Arv Z h0 d2 k2 .byte z2 (xs2.map Value.int) (.int 0)) :
    Ct l Z a0 EL0 n0 false true (⟨"java/lang/StringLatin1", "equals", "([B[B)Z"⟩ : MethodName) jdk_43_method_13_code 3 (Option.some Jvm.ClassFile.FieldType.boolean) cds ({ frames := 0, cells := 0, slots := 0, locals := 0 } : Room) [] #[(.ref d1), (.ref d2)] h0 (Q_leq Z n0 d1 d2 k1 k2 z1 z2 xs1 xs2 h0) := by
  refine Ct.of (plainFor_of_name pn_2) hEL ?_
  intro p e s m below meth c T0 W0 hret hnm hs0
  refine Go.cast (ef_RR_3 m d1 d2) ?_
  show Go p e below _ T0 (mkF m 0 #[.val (.ref d1), .val (.ref d2), .unset] [])
  have b1 := z1.toInt_lt
  have b2 := z2.toInt_lt
  refine s_aloadN W0 d14_0 rfl rfl (pc' := 1) rfl ?_
  refine gLen W0 V1 d14_1 (pc' := 2) rfl ?_
  refine s_aloadN W0 d14_2 rfl rfl (pc' := 3) rfl ?_
  refine gLen W0 V2 d14_3 (pc' := 4) rfl ?_
  refine s_icmpne W0 d14_4 (by decide) (pc1 := 34) (by decide) (pc2 := 7) rfl ?_ ?_
  · intro q4
    refine s_iconst W0 d14_34 (v := (0 : Int32)) (by decide) (pc' := 35) rfl ?_
    exact gRetN W0 hret (by simp) d14_35 (by decide) (by decide) ⟨by rw [if_neg (fun e => q4 (eq32 (by rw [l1, l2, e])))]; rfl, rfl⟩
  · intro q4
    have hl : xs1.length = xs2.length := by have := congrArg Int32.toInt q4; omega
    refine s_iconst W0 d14_7 (v := (0 : Int32)) (by decide) (pc' := 8) rfl ?_
    refine s_istoreN W0 d14_8 (l' := #[.val (.ref d1), .val (.ref d2), .val (.int (0 : Int32))]) rfl (pc' := 9) rfl ?_
    suffices loop : ∀ (r j : Nat), j + r = xs1.length → ∀ (T : State) (W : Wk p l e _ s m _ below meth c Z a0 EL0 n0 false true _ _ _ [] T h0 0 0), xs1.take j = xs2.take j → Go p e below (Po s Z EL0 n0 true _ _ (Q_leq Z n0 d1 d2 k1 k2 z1 z2 xs1 xs2 h0)) T (mkF m 9 #[.val (.ref d1), .val (.ref d2), .val (.int j.toInt32)] []) from
      loop xs1.length 0 (Nat.zero_add _) T0 W0 rfl
    intro r
    induction r with
    | zero =>
      intro j hj T1 W1 ht
      have ej : j.toInt32.toInt = j := n32 (by omega)
      refine s_iloadN W1 d14_9 rfl (pc' := 10) rfl ?_
      refine s_aloadN W1 d14_10 rfl rfl (pc' := 11) rfl ?_
      refine gLen W1 V1 d14_11 (pc' := 12) rfl ?_
      refine s_icmpge W1 d14_12 (by decide) (pc1 := 32) (by decide) (pc2 := 15) rfl ?_ (fun q => absurd q (nlt32 (by omega)))
      intro q12
      refine s_iconst W1 d14_32 (v := (1 : Int32)) (by decide) (pc' := 33) rfl ?_
      exact gRetN W1 hret (by simp) d14_33 (by decide) (by decide) ⟨by rw [if_pos (by rw [List.take_of_length_le (by omega), List.take_of_length_le (by omega)] at ht; exact ht)]; rfl, rfl⟩
    | succ r ih =>
      intro j hj T1 W1 ht
      have ej : j.toInt32.toInt = j := n32 (by omega)
      have j1 : j < xs1.length := by omega
      have j2 : j < xs2.length := by omega
      refine s_iloadN W1 d14_9 rfl (pc' := 10) rfl ?_
      refine s_aloadN W1 d14_10 rfl rfl (pc' := 11) rfl ?_
      refine gLen W1 V1 d14_11 (pc' := 12) rfl ?_
      refine s_icmpge W1 d14_12 (by decide) (pc1 := 32) (by decide) (pc2 := 15) rfl (fun q => absurd q (fun q' => q' (lt32 (by omega)))) ?_
      intro q12
      refine s_aloadN W1 d14_15 rfl rfl (pc' := 16) rfl ?_
      refine s_iloadN W1 d14_16 rfl (pc' := 17) rfl ?_
      refine gLdB W1 V1 ⟨nlt32 (by rw [zero32]; omega), lt32 (by omega)⟩ (v := .int xs1[j]) (by rw [n32c (by omega)]; exact getD_map' _ _ _ j1) d14_17 (pc' := 18) rfl ?_
      refine s_aloadN W1 d14_18 rfl rfl (pc' := 19) rfl ?_
      refine s_iloadN W1 d14_19 rfl (pc' := 20) rfl ?_
      refine gLdB W1 V2 ⟨nlt32 (by rw [zero32]; omega), lt32 (by omega)⟩ (v := .int xs2[j]) (by rw [n32c (by omega)]; exact getD_map' _ _ _ j2) d14_20 (pc' := 21) rfl ?_
      refine s_icmpeq W1 d14_21 (by decide) (pc1 := 26) (by decide) (pc2 := 24) rfl ?_ ?_
      · intro q21
        refine s_iinc W1 d14_26 (v := (1 : Int32)) (by decide) rfl (l' := #[.val (.ref d1), .val (.ref d2), .val (.int (j.toInt32 + (1 : Int32)))]) rfl (pc' := 29) rfl ?_
        refine s_goto W1 d14_29 (by decide) (pc' := 9) (by decide) ?_
        rw [n32s]
        exact ih (j + 1) (by omega) T1 W1 (by rw [List.take_succ_eq_append_getElem j1, List.take_succ_eq_append_getElem j2, ht, q21])
      · intro q21
        refine s_iconst W1 d14_24 (v := (0 : Int32)) (by decide) (pc' := 25) rfl ?_
        exact gRetN W1 hret (by simp) d14_25 (by decide) (by decide) ⟨by rw [if_neg (fun e => q21 (by subst e; rfl))]; rfl, rfl⟩
def Q_seq (Z : State) (n0 : Nat) (a1 d1 a2 d2 : Addr) (k1 k2 : ClassId) (cd1 cd2 z1 z2 ccs : Int32) (xs1 xs2 : List Int32) (h0 : Heap) (v : Option Value) (h : Heap) : Prop := v = some (.int (if cd1 = cd2 ∧ xs1 = xs2 then 1 else 0)) ∧ h0 = h
set_option maxRecDepth 65536 in
set_option maxHeartbeats 40000000 in
theorem ct_seq {l : Launch} {Z : State} {a0 : Array Value} (hw : ∀ d ∈ tables_1, d.before a0 Z = true) (hEL : EW Z a0 EL0) {n0 : Nat} (cds : List Jvm.Cond) (a1 d1 a2 d2 : Addr) (k1 k2 : ClassId) (cd1 cd2 z1 z2 ccs : Int32) (xs1 xs2 : List Int32) (h0 : Heap) (l1 : z1.toInt = xs1.length) (l2 : z2.toInt = xs2.length) (S1 : Str Z h0 a1 d1 k1 cd1 z1 (xs1.map Value.int)) (S2 : Str Z h0 a2 d2 k2 cd2 z2 (xs2.map Value.int)) (SCS : Sta Z Z.heap "java/lang/String" "COMPACT_STRINGS" "Z" (.int ccs)) (hccs : ¬ ccs = 0) :
    Ct l Z a0 EL0 n0 false true (⟨"java/lang/String", "equals", "(Ljava/lang/Object;)Z"⟩ : MethodName) jdk_42_method_66_code 3 (Option.some Jvm.ClassFile.FieldType.boolean) cds ({ frames := 1, cells := 0, slots := 0, locals := 14 } : Room) [] #[(.ref a1), (.ref a2)] h0 (Q_seq Z n0 a1 d1 a2 d2 k1 k2 cd1 cd2 z1 z2 ccs xs1 xs2 h0) := by
  refine Ct.of (plainFor_of_name pn_1) hEL ?_
  intro p e s m below meth c T0 W0 hret hnm hs0
  refine Go.cast (ef_RR_3 m a1 a2) ?_
  show Go p e below _ T0 (mkF m 0 #[.val (.ref a1), .val (.ref a2), .unset] [])
  obtain ⟨E1, F1, C1, V1⟩ := id S1
  obtain ⟨E2, F2, C2, V2⟩ := id S2
  refine s_aloadN W0 d13_0 rfl rfl (pc' := 1) rfl ?_
  refine s_aloadN W0 d13_1 rfl rfl (pc' := 2) rfl ?_
  refine s_acmpne W0 d13_2 rfl rfl (by decide) (pc1 := 7) (by decide) (pc2 := 5) rfl ?_ ?_
  · intro q2
    refine s_aloadN W0 d13_7 rfl rfl (pc' := 8) rfl ?_
    refine gInsY W0 (w_78 hw) (Ins.self E2) d13_8 (pc' := 11) rfl ?_
    intro T1 W1
    refine s_ifeq W1 d13_11 (by decide) (pc1 := 54) (by decide) (pc2 := 14) rfl (fun q => absurd q (by decide)) ?_
    intro q11
    refine s_aloadN W1 d13_14 rfl rfl (pc' := 15) rfl ?_
    refine gCast W1 (w_78 hw) (Ins.self E2) d13_15 (pc' := 18) rfl ?_
    intro T2 W2
    refine s_astoreN W2 d13_18 rfl (l' := #[.val (.ref a1), .val (.ref a2), .val (.ref a2)]) rfl (pc' := 19) rfl ?_
    refine gGetS W2 (host := "") (Or.inl (w_21 hw)) Via.refl (SCS.ext W2.old.2) d13_19 (pc' := 22) rfl ?_
    intro T3 W3
    refine s_ifeq W3 d13_22 (by decide) (pc1 := 36) (by decide) (pc2 := 25) rfl (fun q => absurd q hccs) ?_
    intro q22
    refine s_aloadN W3 d13_25 rfl rfl (pc' := 26) rfl ?_
    refine gGetF W3 (host := "") (Or.inl (w_33 hw)) Via.refl C1 d13_26 (pc' := 29) rfl ?_
    intro T4 W4
    refine s_aloadN W4 d13_29 rfl rfl (pc' := 30) rfl ?_
    refine gGetF W4 (host := "") (Or.inl (w_33 hw)) Via.refl C2 d13_30 (pc' := 33) rfl ?_
    intro T5 W5
    refine s_icmpne W5 d13_33 (by decide) (pc1 := 54) (by decide) (pc2 := 36) rfl ?_ ?_
    · intro q33
      refine s_iconst W5 d13_54 (v := (0 : Int32)) (by decide) (pc' := 55) rfl ?_
      exact gRetN W5 hret (by simp) d13_55 (by decide) (by decide) ⟨by rw [if_neg (fun e => q33 e.1)]; rfl, rfl⟩
    · intro q33
      refine s_aloadN W5 d13_36 rfl rfl (pc' := 37) rfl ?_
      refine gGetF W5 (host := "") (Or.inl (w_35 hw)) Via.refl F1 d13_37 (pc' := 40) rfl ?_
      intro T6 W6
      refine s_aloadN W6 d13_40 rfl rfl (pc' := 41) rfl ?_
      refine gGetF W6 (host := "") (Or.inl (w_35 hw)) Via.refl F2 d13_41 (pc' := 44) rfl ?_
      intro T7 W7
      refine gStatic W7 (w_79 hw) (w_80 hw) (w_81 hw) (w_82 hw) (by decide) pd_4 (ct_leq hw hEL [] d1 d2 k1 k2 z1 z2 xs1 xs2 h0 l1 l2 V1 V2) (by simp) d13_44 (pc' := 47) rfl rfl (argsL := [(.ref d1), (.ref d2)]) rfl rfl (rest := []) rfl (wt := 0) (Nat.le_of_eq rfl) (by decide) (by decide) (by decide) (by decide) ?_
      rintro v8 T8 h8 W8 z8 ⟨rfl, rfl⟩
      show Go p e below _ T8 (mkF m 47 #[.val (.ref a1), .val (.ref a2), .val (.ref a2)] [(.int (if xs1 = xs2 then 1 else 0))])
      refine s_ifeq W8 d13_47 (by decide) (pc1 := 54) (by decide) (pc2 := 50) rfl ?_ ?_
      · intro q47
        have hx : ¬ xs1 = xs2 := fun e => by rw [if_pos e] at q47; exact absurd q47 (by decide)
        refine s_iconst W8 d13_54 (v := (0 : Int32)) (by decide) (pc' := 55) rfl ?_
        exact gRetN W8 hret (by simp) d13_55 (by decide) (by decide) ⟨by rw [if_neg (fun e => hx e.2)]; rfl, rfl⟩
      · intro q47
        have hx : xs1 = xs2 := Classical.byContradiction fun e => by rw [if_neg e] at q47; exact q47 rfl
        refine s_iconst W8 d13_50 (v := (1 : Int32)) (by decide) (pc' := 51) rfl ?_
        refine s_goto W8 d13_51 (by decide) (pc' := 55) (by decide) ?_
        exact gRetN W8 hret (by simp) d13_55 (by decide) (by decide) ⟨by rw [if_pos ⟨q33, hx⟩]; rfl, rfl⟩
  · intro q2
    obtain rfl := Value.ref.inj q2
    refine s_iconst W0 d13_5 (v := (1 : Int32)) (by decide) (pc' := 6) rfl ?_
    exact gRetN W0 hret (by simp) d13_6 (by decide) (by decide) ⟨by rw [if_pos (S1.uniq S2 l1 l2)]; rfl, rfl⟩
def Q_seqN (Z : State) (n0 : Nat) (a1 : Addr) (h0 : Heap) (v : Option Value) (h : Heap) : Prop := v = some (.int 0) ∧ h0 = h
set_option maxRecDepth 65536 in
set_option maxHeartbeats 40000000 in
theorem ct_seqN {l : Launch} {Z : State} {a0 : Array Value} (hw : ∀ d ∈ tables_1, d.before a0 Z = true) (hEL : EW Z a0 EL0) {n0 : Nat} (cds : List Jvm.Cond) (a1 : Addr) (h0 : Heap)  :
    Ct l Z a0 EL0 n0 false true (⟨"java/lang/String", "equals", "(Ljava/lang/Object;)Z"⟩ : MethodName) jdk_42_method_66_code 3 (Option.some Jvm.ClassFile.FieldType.boolean) cds ({ frames := 0, cells := 0, slots := 0, locals := 0 } : Room) [] #[(.ref a1), .null] h0 (Q_seqN Z n0 a1 h0) := by
  refine Ct.of (plainFor_of_name pn_1) hEL ?_
  intro p e s m below meth c T0 W0 hret hnm hs0
  refine Go.cast (ef_RN_3 m a1) ?_
  show Go p e below _ T0 (mkF m 0 #[.val (.ref a1), .val .null, .unset] [])
  refine s_aloadN W0 d13_0 rfl rfl (pc' := 1) rfl ?_
  refine s_aloadN W0 d13_1 rfl rfl (pc' := 2) rfl ?_
  refine s_acmpne W0 d13_2 rfl rfl (by decide) (pc1 := 7) (by decide) (pc2 := 5) rfl ?_ (fun q => absurd q (nofun : ¬ (Value.ref a1 = .null)))
  intro q2
  refine s_aloadN W0 d13_7 rfl rfl (pc' := 8) rfl ?_
  refine s_instNull W0 d13_8 (pc' := 11) rfl ?_
  refine s_ifeq W0 d13_11 (by decide) (pc1 := 54) (by decide) (pc2 := 14) rfl ?_ (fun q => absurd q (fun q' => q' rfl))
  intro q11
  refine s_iconst W0 d13_54 (v := (0 : Int32)) (by decide) (pc' := 55) rfl ?_
  exact gRetN W0 hret (by simp) d13_55 (by decide) (by decide) ⟨rfl, rfl⟩
def Q_oeq (Z : State) (n0 : Nat) (w1 w2 : Value) (o1 o2 : Option (List Int32)) (ccs : Int32) (h0 : Heap) (v : Option Value) (h : Heap) : Prop := v = some (.int (if o1 = o2 then 1 else 0)) ∧ h0 = h
set_option maxRecDepth 65536 in
set_option maxHeartbeats 40000000 in
theorem ct_oeq {l : Launch} {Z : State} {a0 : Array Value} (hw : ∀ d ∈ tables_1, d.before a0 Z = true) (hEL : EW Z a0 EL0) {n0 : Nat} (cds : List Jvm.Cond) (w1 w2 : Value) (o1 o2 : Option (List Int32)) (ccs : Int32) (h0 : Heap) (N1 : NSt Z h0 w1 o1) (N2 : NSt Z h0 w2 o2) (SCS : Sta Z Z.heap "java/lang/String" "COMPACT_STRINGS" "Z" (.int ccs)) (hccs : ¬ ccs = 0) :
    Ct l Z a0 EL0 n0 false true (⟨"java/util/Objects", "equals", "(Ljava/lang/Object;Ljava/lang/Object;)Z"⟩ : MethodName) jdk_31_method_2_code 2 (Option.some Jvm.ClassFile.FieldType.boolean) cds ({ frames := 2, cells := 0, slots := 0, locals := 28 } : Room) [] #[w1, w2] h0 (Q_oeq Z n0 w1 w2 o1 o2 ccs h0) := by
  refine Ct.of (plainFor_of_name pn_3) hEL ?_
  intro p e s m below meth c T0 W0 hret hnm hs0
  refine Go.cast (ef_OO_2 m w1 N1.ref w2 N2.ref) ?_
  show Go p e below _ T0 (mkF m 0 #[.val w1, .val w2] [])
  cases o1 with
  | none =>
    obtain rfl : w1 = .null := N1
    cases o2 with
    | none =>
      obtain rfl : w2 = .null := N2
      show Go p e below _ T0 (mkF m 0 #[.val .null, .val .null] [])
      refine s_aloadN W0 d12_0 rfl rfl (pc' := 1) rfl ?_
      refine s_aloadN W0 d12_1 rfl rfl (pc' := 2) rfl ?_
      refine s_acmpeq W0 d12_2 rfl rfl (by decide) (pc1 := 17) (by decide) (pc2 := 5) rfl ?_ (fun q => (q rfl).elim)
      intro q2
      refine s_iconst W0 d12_17 (v := (1 : Int32)) (by decide) (pc' := 18) rfl ?_
      refine s_goto W0 d12_18 (by decide) (pc' := 22) (by decide) ?_
      exact gRetN W0 hret (by simp) d12_22 (by decide) (by decide) ⟨by rw [if_pos rfl]; rfl, rfl⟩
    | some xs2 =>
      obtain ⟨a2, d2, k2, z2, rfl, l2, m2, S2⟩ := N2
      show Go p e below _ T0 (mkF m 0 #[.val .null, .val (.ref a2)] [])
      refine s_aloadN W0 d12_0 rfl rfl (pc' := 1) rfl ?_
      refine s_aloadN W0 d12_1 rfl rfl (pc' := 2) rfl ?_
      refine s_acmpeq W0 d12_2 rfl rfl (by decide) (pc1 := 17) (by decide) (pc2 := 5) rfl (fun q => absurd q nofun) ?_
      intro q2
      refine s_aloadN W0 d12_5 rfl rfl (pc' := 6) rfl ?_
      refine s_ifnull W0 d12_6 rfl (by decide) (pc1 := 21) (by decide) (pc2 := 9) rfl ?_ (fun q => (q rfl).elim)
      intro q6
      refine s_iconst W0 d12_21 (v := (0 : Int32)) (by decide) (pc' := 22) rfl ?_
      exact gRetN W0 hret (by simp) d12_22 (by decide) (by decide) ⟨by rw [if_neg nofun]; rfl, rfl⟩
  | some xs1 =>
    obtain ⟨a1, d1, k1, z1, rfl, l1, m1, S1⟩ := N1
    cases o2 with
    | none =>
      obtain rfl : w2 = .null := N2
      show Go p e below _ T0 (mkF m 0 #[.val (.ref a1), .val .null] [])
      refine s_aloadN W0 d12_0 rfl rfl (pc' := 1) rfl ?_
      refine s_aloadN W0 d12_1 rfl rfl (pc' := 2) rfl ?_
      refine s_acmpeq W0 d12_2 rfl rfl (by decide) (pc1 := 17) (by decide) (pc2 := 5) rfl (fun q => absurd q nofun) ?_
      intro q2
      refine s_aloadN W0 d12_5 rfl rfl (pc' := 6) rfl ?_
      refine s_ifnull W0 d12_6 rfl (by decide) (pc1 := 21) (by decide) (pc2 := 9) rfl (fun q => absurd q (nofun : ¬ (Value.ref a1 = .null))) ?_
      intro q6
      refine s_aloadN W0 d12_9 rfl rfl (pc' := 10) rfl ?_
      refine s_aloadN W0 d12_10 rfl rfl (pc' := 11) rfl ?_
      refine gVirtual W0 S1.1 (w_68 hw) (w_69 hw) (fun s hZ => nf_top (args := #[]) (mv hZ (w_76 hw))) (w_71 hw) (w_72 hw) (w_10 hw) (w_73 hw) (by decide) pd_5 (ct_seqN hw hEL [] a1 h0) (by simp) d12_11 (pc' := 14) rfl rfl (argsL := [.null]) rfl rfl (rest := []) rfl (wt := 0) (Nat.le_of_eq rfl) (by decide) (by decide) (by decide) (by decide) ?_
      rintro v1 T1 h1 W1 z1 ⟨rfl, rfl⟩
      show Go p e below _ T1 (mkF m 14 #[.val (.ref a1), .val .null] [(.int 0)])
      refine s_ifeq W1 d12_14 (by decide) (pc1 := 21) (by decide) (pc2 := 17) rfl ?_ (fun q => (q rfl).elim)
      intro q14
      refine s_iconst W1 d12_21 (v := (0 : Int32)) (by decide) (pc' := 22) rfl ?_
      exact gRetN W1 hret (by simp) d12_22 (by decide) (by decide) ⟨by rw [if_neg nofun]; rfl, rfl⟩
    | some xs2 =>
      obtain ⟨a2, d2, k2, z2, rfl, l2, m2, S2⟩ := N2
      show Go p e below _ T0 (mkF m 0 #[.val (.ref a1), .val (.ref a2)] [])
      refine s_aloadN W0 d12_0 rfl rfl (pc' := 1) rfl ?_
      refine s_aloadN W0 d12_1 rfl rfl (pc' := 2) rfl ?_
      refine s_acmpeq W0 d12_2 rfl rfl (by decide) (pc1 := 17) (by decide) (pc2 := 5) rfl ?_ ?_
      · intro q2
        obtain rfl := Value.ref.inj q2
        refine s_iconst W0 d12_17 (v := (1 : Int32)) (by decide) (pc' := 18) rfl ?_
        refine s_goto W0 d12_18 (by decide) (pc' := 22) (by decide) ?_
        exact gRetN W0 hret (by simp) d12_22 (by decide) (by decide) ⟨by rw [if_pos (congrArg some (S1.uniq S2 l1 l2).2)]; rfl, rfl⟩
      · intro q2
        refine s_aloadN W0 d12_5 rfl rfl (pc' := 6) rfl ?_
        refine s_ifnull W0 d12_6 rfl (by decide) (pc1 := 21) (by decide) (pc2 := 9) rfl (fun q => absurd q (nofun : ¬ (Value.ref a1 = .null))) ?_
        intro q6
        refine s_aloadN W0 d12_9 rfl rfl (pc' := 10) rfl ?_
        refine s_aloadN W0 d12_10 rfl rfl (pc' := 11) rfl ?_
        refine gVirtual W0 S1.1 (w_68 hw) (w_69 hw) (fun s hZ => nf_top (args := #[]) (mv hZ (w_76 hw))) (w_71 hw) (w_72 hw) (w_10 hw) (w_73 hw) (by decide) pd_5 (ct_seq hw hEL [] a1 d1 a2 d2 k1 k2 0 0 z1 z2 ccs xs1 xs2 h0 l1 l2 S1 S2 SCS hccs) (by simp) d12_11 (pc' := 14) rfl rfl (argsL := [(.ref a2)]) rfl rfl (rest := []) rfl (wt := 0) (Nat.le_of_eq rfl) (by decide) (by decide) (by decide) (by decide) ?_
        rintro v2 T2 h2 W2 z2 ⟨rfl, rfl⟩
        show Go p e below _ T2 (mkF m 14 #[.val (.ref a1), .val (.ref a2)] [(.int (if (0 : Int32) = 0 ∧ xs1 = xs2 then 1 else 0))])
        refine s_ifeq W2 d12_14 (by decide) (pc1 := 21) (by decide) (pc2 := 17) rfl ?_ ?_
        · intro q14
          have hx : ¬ xs1 = xs2 := fun e => by rw [if_pos ⟨rfl, e⟩] at q14; exact absurd q14 (by decide)
          refine s_iconst W2 d12_21 (v := (0 : Int32)) (by decide) (pc' := 22) rfl ?_
          exact gRetN W2 hret (by simp) d12_22 (by decide) (by decide) ⟨by rw [if_neg (fun e => hx (Option.some.inj e))]; rfl, rfl⟩
        · intro q14
          have hx : xs1 = xs2 := Classical.byContradiction fun e => by rw [if_neg (fun r => e r.2)] at q14; exact q14 rfl
          refine s_iconst W2 d12_17 (v := (1 : Int32)) (by decide) (pc' := 18) rfl ?_
          refine s_goto W2 d12_18 (by decide) (pc' := 22) (by decide) ?_
          exact gRetN W2 hret (by simp) d12_22 (by decide) (by decide) ⟨by rw [if_pos (congrArg some hx)]; rfl, rfl⟩
/-- what mk makes of a code, and what canon makes of it -/
def mc (p k : Int32) : Int32 := nar .char ((p.toUInt32 >>> (k &&& 31).toUInt32).toInt32 &&& (255 : Int32)).toUInt32.toUInt16.toUInt32.toInt32
def con (p : Int32) : Option (List Int32) := if p &&& (3 : Int32) = 0 then none else if p &&& (3 : Int32) = 1 then some [] else if p &&& (3 : Int32) = 2 then some [(mc p 2).toInt8.toInt32] else some [(mc p 2).toInt8.toInt32, (mc p 10).toInt8.toInt32]
def cano (p : Int32) : Int64 := if p &&& (3 : Int32) = 0 then (-1 : Int64) else if p &&& (3 : Int32) = 1 then (0 : Int64) else if p &&& (3 : Int32) = 2 then (1 : Int64) ||| (((p.toUInt32 >>> ((2 : Int32) &&& 31).toUInt32).toInt32 &&& (255 : Int32)).toInt64 <<< ((2 : Int32) &&& 0x3f).toInt64)
  else ((2 : Int64) ||| (((p.toUInt32 >>> ((2 : Int32) &&& 31).toUInt32).toInt32 &&& (255 : Int32)).toInt64 <<< ((2 : Int32) &&& 0x3f).toInt64)) ||| (((p.toUInt32 >>> ((10 : Int32) &&& 31).toUInt32).toInt32 &&& (255 : Int32)).toInt64 <<< ((10 : Int32) &&& 0x3f).toInt64)
theorem con0 {p : Int32} (q : p &&& (3 : Int32) = 0) : con p = none := if_pos q
theorem con1 {p : Int32} (q0 : ¬ p &&& (3 : Int32) = 0) (q : p &&& (3 : Int32) = 1) : con p = some [] := (if_neg q0).trans (if_pos q)
theorem con2 {p : Int32} (q0 : ¬ p &&& (3 : Int32) = 0) (q1 : ¬ p &&& (3 : Int32) = 1) (q : p &&& (3 : Int32) = 2) : con p = some [(mc p 2).toInt8.toInt32] := (if_neg q0).trans ((if_neg q1).trans (if_pos q))
theorem con3 {p : Int32} (q0 : ¬ p &&& (3 : Int32) = 0) (q1 : ¬ p &&& (3 : Int32) = 1) (q : ¬ p &&& (3 : Int32) = 2) : con p = some [(mc p 2).toInt8.toInt32, (mc p 10).toInt8.toInt32] := (if_neg q0).trans ((if_neg q1).trans (if_neg q))
theorem and255 (x : Int32) : ∃ n : Nat, n < 256 ∧ x &&& (255 : Int32) = Int32.ofNat n := by
  refine ⟨(x &&& 255).toBitVec.toNat, ?_, ?_⟩
  · have : (x &&& 255).toBitVec.toNat = x.toBitVec.toNat &&& 255 := by simp
    rw [this]; exact Nat.lt_of_le_of_lt Nat.and_le_right (by decide)
  · apply Int32.toBitVec_inj.mp; simp
theorem mc_small : ∀ n : Fin 256, (nar .char (Int32.ofNat n.val).toUInt32.toUInt16.toUInt32.toInt32).toInt = n.val := by decide +kernel
theorem mc_val (p k : Int32) : ∃ n : Nat, n < 256 ∧ (p.toUInt32 >>> (k &&& 31).toUInt32).toInt32 &&& (255 : Int32) = Int32.ofNat n ∧ (mc p k).toInt = n := by
  obtain ⟨n, h1, h2⟩ := and255 (p.toUInt32 >>> (k &&& 31).toUInt32).toInt32
  refine ⟨n, h1, h2, ?_⟩
  unfold mc; rw [h2]; exact mc_small ⟨n, h1⟩
theorem mc_lat (p k : Int32) : 0 ≤ (mc p k).toInt ∧ (mc p k).toInt < 256 := by obtain ⟨n, h1, -, h3⟩ := mc_val p k; omega
def Q_rinit (Z : State) (n0 : Nat) (a : Addr) (h0 : Heap) (v : Option Value) (h : Heap) : Prop := v = none ∧ h0 = h
set_option maxRecDepth 65536 in
set_option maxHeartbeats 40000000 in
theorem ct_rinit {l : Launch} {Z : State} {a0 : Array Value} (hw : ∀ d ∈ tables_1, d.before a0 Z = true) (hEL : EW Z a0 EL0) {n0 : Nat} (cds : List Jvm.Cond) (a : Addr) (h0 : Heap)  :
    Ct l Z a0 EL0 n0 false true (⟨"java/lang/Record", "<init>", "()V"⟩ : MethodName) jdk_30_method_1_code 1 (Option.none : Option Jvm.ClassFile.FieldType) cds ({ frames := 1, cells := 0, slots := 0, locals := 12 } : Room) [] #[(.ref a)] h0 (Q_rinit Z n0 a h0) := by
  refine Ct.of (plainFor_of_name pn_4) hEL ?_
  intro p e s m below meth c T0 W0 hret hnm hs0
  refine Go.cast (ef_R_1 m a) ?_
  show Go p e below _ T0 (mkF m 0 #[.val (.ref a)] [])
  refine s_aloadN W0 d9_0 rfl rfl (pc' := 1) rfl ?_
  refine gInitO W0 (w_45 hw) (w_19 hw) (w_20 hw) d9_1 (pc' := 4) rfl rfl (by decide) (wt := 0) (Nat.le_of_eq rfl) (by decide) ?_
  intro T1 W1
  exact gRetV W1 hret d9_4 (by decide) (by decide) ⟨rfl, rfl⟩
def Q_xinit (Z : State) (n0 : Nat) (a : Addr) (w1 w2 : Value) (h0 : Heap) (v : Option Value) (h : Heap) : Prop := v = none ∧ Keep h0 h [a] ∧ Exa Z h a "com/example/trifold/trifold/model/XmiIdentity" ∧ Fld Z h a "com/example/trifold/trifold/model/XmiIdentity" "id" "Ljava/lang/String;" w1 ∧ Fld Z h a "com/example/trifold/trifold/model/XmiIdentity" "uuid" "Ljava/lang/String;" w2
set_option maxRecDepth 65536 in
set_option maxHeartbeats 40000000 in
theorem ct_xinit {l : Launch} {Z : State} {a0 : Array Value} (hw : ∀ d ∈ tables_1, d.before a0 Z = true) (hEL : EW Z a0 EL0) {n0 : Nat} (cds : List Jvm.Cond) (a : Addr) (w1 w2 : Value) (h0 : Heap) (r1 : w1.isRef = true) (r2 : w2.isRef = true) (Ea : Exa Z h0 a "com/example/trifold/trifold/model/XmiIdentity") (Fid : Fld Z h0 a "com/example/trifold/trifold/model/XmiIdentity" "id" "Ljava/lang/String;" .null) (Fuuid : Fld Z h0 a "com/example/trifold/trifold/model/XmiIdentity" "uuid" "Ljava/lang/String;" .null) (n0_a : n0 ≤ a) :
    Ct l Z a0 EL0 n0 false true (⟨"com/example/trifold/trifold/model/XmiIdentity", "<init>", "(Ljava/lang/String;Ljava/lang/String;)V"⟩ : MethodName) prog_14_method_1_code 3 (Option.none : Option Jvm.ClassFile.FieldType) cds ({ frames := 2, cells := 0, slots := 0, locals := 24 } : Room) [a] #[(.ref a), w1, w2] h0 (Q_xinit Z n0 a w1 w2 h0) := by
  refine Ct.of (plainFor_of_name pn_5) hEL ?_
  intro p e s m below meth c T0 W0 hret hnm hs0
  refine Go.cast (ef_ROO_3 m a w1 r1 w2 r2) ?_
  show Go p e below _ T0 (mkF m 0 #[.val (.ref a), .val w1, .val w2] [])
  have lt_a := natlt Ea.lt
  refine s_aloadN W0 d8_0 rfl rfl (pc' := 1) rfl ?_
  refine gSpecial W0 rfl (w_40 hw) (w_41 hw) (w_43 hw) (w_44 hw) (by decide) pd_6 (ct_rinit hw hEL [] a h0) (by simp) d8_1 (pc' := 4) rfl rfl (argsL := []) rfl rfl (rest := []) rfl (wt := 0) (Nat.le_of_eq rfl) (by decide) (by decide) (by decide) (by decide) ?_
  rintro v1 T1 h1 W1 z1 ⟨rfl, rfl⟩
  show Go p e below _ T1 (mkF m 4 #[.val (.ref a), .val w1, .val w2] [])
  refine s_aloadN W1 d8_4 rfl rfl (pc' := 5) rfl ?_
  refine s_aloadN W1 d8_5 rfl r1 (pc' := 6) rfl ?_
  refine gPutF W1 n0_a (Or.inr (Or.inr (Or.inl ⟨_, Ea, by decide, by decide⟩))) (host := "") (Or.inl (w_46 hw)) Via.refl Fid Ea (Or.inr ⟨(w_47 hw), rfl, hnm⟩) (w_1 hw) (ty := (.object "java/lang/String")) (by decide) (narrow_ref r1) (fits_ref' rfl r1) d8_6 (pc' := 9) rfl ?_
  intro T2 h2 W2 Wr2
  have Fw2 := Fid.same Wr2
  have z2 : h0.size ≤ h2.size := Nat.le_of_eq Wr2.size.symm
  refine s_aloadN W2 d8_9 rfl rfl (pc' := 10) rfl ?_
  refine s_aloadN W2 d8_10 rfl r2 (pc' := 11) rfl ?_
  have fx4 := (Fuuid.other Wr2 (Or.inr (slot_ne (Or.inr (w_49 hw)) (Or.inr (w_47 hw)) (by decide) (t := (.object "java/lang/String")) (t' := (.object "java/lang/String")) (by decide) (by decide))))
  have fx5 := (Ea.wr Wr2)
  refine gPutF W2 n0_a (Or.inr (Or.inr (Or.inl ⟨_, fx5, by decide, by decide⟩))) (host := "") (Or.inl (w_48 hw)) Via.refl fx4 fx5 (Or.inr ⟨(w_49 hw), rfl, hnm⟩) (w_1 hw) (ty := (.object "java/lang/String")) (by decide) (narrow_ref r2) (fits_ref' rfl r2) d8_11 (pc' := 14) rfl ?_
  intro T3 h3 W3 Wr3
  have Fw3 := fx4.same Wr3
  have z3 : h2.size ≤ h3.size := Nat.le_of_eq Wr3.size.symm
  have fx6 := (fx5.wr Wr3)
  have fx7 := (Fw2.other Wr3 (Or.inr (slot_ne (Or.inr (w_47 hw)) (Or.inr (w_49 hw)) (by decide) (t := (.object "java/lang/String")) (t' := (.object "java/lang/String")) (by decide) (by decide))))
  exact gRetV W3 hret d8_14 (by decide) (by decide) ⟨rfl, (((Keep.refl h0 [a]).wr Wr2 (Or.inl (by simp))).wr Wr3 (Or.inl (by simp))), fx6, fx7, Fw3⟩
def Q_mk (Z : State) (n0 : Nat) (px ccs : Int32) (h0 : Heap) (v : Option Value) (h : Heap) : Prop := ∃ w, v = some w ∧ Keep h0 h [] ∧ NSt Z h w (con px)
set_option maxRecDepth 65536 in
set_option maxHeartbeats 40000000 in
theorem ct_mk {l : Launch} {Z : State} {a0 : Array Value} (hw : ∀ d ∈ tables_1, d.before a0 Z = true) (hEL : EW Z a0 EL0) {n0 : Nat} (cds : List Jvm.Cond) (px ccs : Int32) (h0 : Heap) (SCS : Sta Z Z.heap "java/lang/String" "COMPACT_STRINGS" "Z" (.int ccs)) (hccs : ¬ ccs = 0) :
    Ct l Z a0 EL0 n0 false true (⟨"com/example/trifold/trifold/model/XmiIdentityEqualsPinLaw", "mk", "(I)Ljava/lang/String;"⟩ : MethodName) method_2_code 3 (Option.some (Jvm.ClassFile.FieldType.object "java/lang/String")) cds ({ frames := 4, cells := 6, slots := 14, locals := 66 } : Room) [] #[(.int px)] h0 (Q_mk Z n0 px ccs h0) := by
  refine Ct.of (plainFor_of_name pn_6) hEL ?_
  intro p e s m below meth c T0 W0 hret hnm hs0
  refine Go.cast (ef_I_3 m px) ?_
  show Go p e below _ T0 (mkF m 0 #[.val (.int px), .unset, .unset] [])
  refine s_iloadN W0 d1_0 rfl (pc' := 1) rfl ?_
  refine s_iconst W0 d1_1 (v := (3 : Int32)) (by decide) (pc' := 2) rfl ?_
  refine s_iand W0 d1_2 (pc' := 3) rfl ?_
  refine s_istoreN W0 d1_3 (l' := #[.val (.int px), .val (.int (px &&& (3 : Int32))), .unset]) rfl (pc' := 4) rfl ?_
  refine s_iloadN W0 d1_4 rfl (pc' := 5) rfl ?_
  refine s_ifne W0 d1_5 (by decide) (pc1 := 10) (by decide) (pc2 := 8) rfl ?_ ?_
  · intro q5
    refine s_iloadN W0 d1_10 rfl (pc' := 11) rfl ?_
    refine s_iconst W0 d1_11 (v := (1 : Int32)) (by decide) (pc' := 12) rfl ?_
    refine s_icmpne W0 d1_12 (by decide) (pc1 := 26) (by decide) (pc2 := 15) rfl ?_ ?_
    · intro q12
      refine s_iloadN W0 d1_26 rfl (pc' := 27) rfl ?_
      refine s_iconst W0 d1_27 (v := (2 : Int32)) (by decide) (pc' := 28) rfl ?_
      refine s_icmpne W0 d1_28 (by decide) (pc1 := 55) (by decide) (pc2 := 31) rfl ?_ ?_
      · intro q28
        refine s_iconst W0 d1_55 (v := (2 : Int32)) (by decide) (pc' := 56) rfl ?_
        refine gNewP (aty := .char) W0 (w_7 hw) (ad := "[C") (by decide +kernel) d1_56 (pc' := 58) rfl (by decide) (cap := 2) (by decide) (by decide) (by decide) (by decide) ?_
        intro T1 h1 b1 g1 W1 E1 ⟨k1, V1, A1⟩
        have z1 : h0.size ≤ h1.size := E1.1
        have lt_b1 := natlt A1.lt
        have gg1 := nateq g1
        have n0_b1 : n0 ≤ b1 := by have := W0.n0le; omega
        have Vp1 : Arv Z h1 b1 k1 .char (2 : Int32) [(.int (0 : Int32)), (.int (0 : Int32))] (.int (0 : Int32)) := Arv.pad V1 (pad_rep [] (.int (0 : Int32)) 2)
        refine s_astoreN W1 d1_58 rfl (l' := #[.val (.int px), .val (.int (px &&& (3 : Int32))), .val (.ref b1)]) rfl (pc' := 59) rfl ?_
        refine s_aloadN W1 d1_59 rfl rfl (pc' := 60) rfl ?_
        refine s_iconst W1 d1_60 (v := (0 : Int32)) (by decide) (pc' := 61) rfl ?_
        refine s_iloadN W1 d1_61 rfl (pc' := 62) rfl ?_
        refine s_iconst W1 d1_62 (v := (2 : Int32)) (by decide) (pc' := 63) rfl ?_
        refine s_iushr W1 d1_63 (pc' := 64) rfl ?_
        refine s_sipush W1 d1_64 (v := (255 : Int32)) (by decide) (pc' := 67) rfl ?_
        refine s_iand W1 d1_67 (pc' := 68) rfl ?_
        refine s_i2c W1 d1_68 (pc' := 69) rfl ?_
        refine gStC W1 n0_b1 Vp1 ⟨by decide, by decide⟩ (i := 0) (by decide) (show 0 < 2 by decide) d1_69 (pc' := 70) rfl ?_
        intro T2 h2 W2 K2 V2
        replace V2 : Arv Z h2 b1 k1 .char (2 : Int32) [(.int (nar .char (((px.toUInt32 >>> ((2 : Int32) &&& 31).toUInt32).toInt32) &&& (255 : Int32)).toUInt32.toUInt16.toUInt32.toInt32)), (.int (0 : Int32))] (.int (0 : Int32)) := V2
        have z2 : h1.size ≤ h2.size := K2.1
        refine s_aloadN W2 d1_70 rfl rfl (pc' := 71) rfl ?_
        refine s_iconst W2 d1_71 (v := (1 : Int32)) (by decide) (pc' := 72) rfl ?_
        refine s_iloadN W2 d1_72 rfl (pc' := 73) rfl ?_
        refine s_bipush W2 d1_73 (v := (10 : Int32)) (by decide) (pc' := 75) rfl ?_
        refine s_iushr W2 d1_75 (pc' := 76) rfl ?_
        refine s_sipush W2 d1_76 (v := (255 : Int32)) (by decide) (pc' := 79) rfl ?_
        refine s_iand W2 d1_79 (pc' := 80) rfl ?_
        refine s_i2c W2 d1_80 (pc' := 81) rfl ?_
        refine gStC W2 n0_b1 V2 ⟨by decide, by decide⟩ (i := 1) (by decide) (show 1 < 2 by decide) d1_81 (pc' := 82) rfl ?_
        intro T3 h3 W3 K3 V3
        replace V3 : Arv Z h3 b1 k1 .char (2 : Int32) [(.int (nar .char (((px.toUInt32 >>> ((2 : Int32) &&& 31).toUInt32).toInt32) &&& (255 : Int32)).toUInt32.toUInt16.toUInt32.toInt32)), (.int (nar .char (((px.toUInt32 >>> ((10 : Int32) &&& 31).toUInt32).toInt32) &&& (255 : Int32)).toUInt32.toUInt16.toUInt32.toInt32))] (.int (0 : Int32)) := V3
        have z3 : h2.size ≤ h3.size := K3.1
        refine gNew W3 (w_8 hw) (w_9 hw) (w_10 hw) d1_82 (pc' := 85) rfl (by decide) (by decide) ?_
        intro T4 h4 b4 g4 W4 E4 ⟨A4, D4, U4⟩
        have z4 : h3.size ≤ h4.size := E4.1
        have lt_b4 := natlt A4.lt
        have gg4 := nateq g4
        have n0_b4 : n0 ≤ b4 := by have := W3.n0le; omega
        have F4_coder : Fld Z h4 b4 "java/lang/String" "coder" "B" (.int (0 : Int32)) := D4 (Or.inr (w_34 hw)) (ty := .byte) (by decide)
        have F4_value : Fld Z h4 b4 "java/lang/String" "value" "[B" .null := D4 (Or.inr (w_36 hw)) (ty := (.array .byte)) (by decide)
        refine s_dup W4 d1_85 rfl (pc' := 86) rfl ?_
        refine s_aloadN W4 d1_86 rfl rfl (pc' := 87) rfl ?_
        have fx5 := (V3.ext E4)
        refine gSpecial W4 rfl (w_11 hw) (w_12 hw) (w_10 hw) (w_13 hw) (by decide) pd_7 (ct_str1 hw hEL [] b4 b1 k1 (2 : Int32) ccs [mc px 2, mc px 10] h4 (show (2 : Int32).toInt = ((2 : Nat) : Int) by decide) (show 2 ≤ 4 by decide) (by intro c hc; rcases List.mem_cons.mp hc with rfl | hc; exact mc_lat px 2; rcases List.mem_singleton.mp hc with rfl; exact mc_lat px 10) fx5 A4 F4_value F4_coder n0_b4 SCS hccs) (fun x hx => by rcases List.mem_singleton.mp hx with rfl; exact List.mem_of_getElem? (i := 0) rfl) d1_87 (pc' := 90) rfl rfl (argsL := [(.ref b1)]) rfl rfl (rest := [(.ref b4)]) rfl (wt := 1) (Nat.le_of_eq rfl) (by decide) (by decide) (by decide) (by decide) ?_
        rintro v6 T6 h6 W6 z6 ⟨rfl, Ks, ds, ks, Ss, gs⟩
        show Go p e below _ T6 (mkF m 90 #[.val (.int px), .val (.int (px &&& (3 : Int32))), .val (.ref b1)] [(.ref b4)])
        exact gRetA W6 hret rfl rfl d1_90 (by decide) (by decide) ⟨_, rfl, ((((((Keep.refl h0 []).ext E1).trans K2 (allS (Or.inr (natle (by omega))) all0)).trans K3 (allS (Or.inr (natle (by omega))) all0)).ext E4).trans Ks (allS (Or.inr (natle (by omega))) all0)), by rw [con3 q5 q12 q28]; exact ⟨_, _, _, _, rfl, (show (2 : Int32).toInt = ((2 : Nat) : Int) by decide), (show 2 ≤ 64 by decide), Ss⟩⟩
      · intro q28
        refine s_iconst W0 d1_31 (v := (1 : Int32)) (by decide) (pc' := 32) rfl ?_
        refine gNewP (aty := .char) W0 (w_7 hw) (ad := "[C") (by decide +kernel) d1_32 (pc' := 34) rfl (by decide) (cap := 1) (by decide) (by decide) (by decide) (by decide) ?_
        intro T7 h7 b7 g7 W7 E7 ⟨k7, V7, A7⟩
        have z7 : h0.size ≤ h7.size := E7.1
        have lt_b7 := natlt A7.lt
        have gg7 := nateq g7
        have n0_b7 : n0 ≤ b7 := by have := W0.n0le; omega
        have Vp7 : Arv Z h7 b7 k7 .char (1 : Int32) [(.int (0 : Int32))] (.int (0 : Int32)) := Arv.pad V7 (pad_rep [] (.int (0 : Int32)) 1)
        refine s_astoreN W7 d1_34 rfl (l' := #[.val (.int px), .val (.int (px &&& (3 : Int32))), .val (.ref b7)]) rfl (pc' := 35) rfl ?_
        refine s_aloadN W7 d1_35 rfl rfl (pc' := 36) rfl ?_
        refine s_iconst W7 d1_36 (v := (0 : Int32)) (by decide) (pc' := 37) rfl ?_
        refine s_iloadN W7 d1_37 rfl (pc' := 38) rfl ?_
        refine s_iconst W7 d1_38 (v := (2 : Int32)) (by decide) (pc' := 39) rfl ?_
        refine s_iushr W7 d1_39 (pc' := 40) rfl ?_
        refine s_sipush W7 d1_40 (v := (255 : Int32)) (by decide) (pc' := 43) rfl ?_
        refine s_iand W7 d1_43 (pc' := 44) rfl ?_
        refine s_i2c W7 d1_44 (pc' := 45) rfl ?_
        refine gStC W7 n0_b7 Vp7 ⟨by decide, by decide⟩ (i := 0) (by decide) (show 0 < 1 by decide) d1_45 (pc' := 46) rfl ?_
        intro T8 h8 W8 K8 V8
        replace V8 : Arv Z h8 b7 k7 .char (1 : Int32) [(.int (nar .char (((px.toUInt32 >>> ((2 : Int32) &&& 31).toUInt32).toInt32) &&& (255 : Int32)).toUInt32.toUInt16.toUInt32.toInt32))] (.int (0 : Int32)) := V8
        have z8 : h7.size ≤ h8.size := K8.1
        refine gNew W8 (w_8 hw) (w_9 hw) (w_10 hw) d1_46 (pc' := 49) rfl (by decide) (by decide) ?_
        intro T9 h9 b9 g9 W9 E9 ⟨A9, D9, U9⟩
        have z9 : h8.size ≤ h9.size := E9.1
        have lt_b9 := natlt A9.lt
        have gg9 := nateq g9
        have n0_b9 : n0 ≤ b9 := by have := W8.n0le; omega
        have F9_coder : Fld Z h9 b9 "java/lang/String" "coder" "B" (.int (0 : Int32)) := D9 (Or.inr (w_34 hw)) (ty := .byte) (by decide)
        have F9_value : Fld Z h9 b9 "java/lang/String" "value" "[B" .null := D9 (Or.inr (w_36 hw)) (ty := (.array .byte)) (by decide)
        refine s_dup W9 d1_49 rfl (pc' := 50) rfl ?_
        refine s_aloadN W9 d1_50 rfl rfl (pc' := 51) rfl ?_
        have fx10 := (V8.ext E9)
        refine gSpecial W9 rfl (w_11 hw) (w_12 hw) (w_10 hw) (w_13 hw) (by decide) pd_7 (ct_str1 hw hEL [] b9 b7 k7 (1 : Int32) ccs [mc px 2] h9 (show (1 : Int32).toInt = ((1 : Nat) : Int) by decide) (show 1 ≤ 4 by decide) (by intro c hc; rcases List.mem_singleton.mp hc with rfl; exact mc_lat px 2) fx10 A9 F9_value F9_coder n0_b9 SCS hccs) (fun x hx => by rcases List.mem_singleton.mp hx with rfl; exact List.mem_of_getElem? (i := 0) rfl) d1_51 (pc' := 54) rfl rfl (argsL := [(.ref b7)]) rfl rfl (rest := [(.ref b9)]) rfl (wt := 1) (Nat.le_of_eq rfl) (by decide) (by decide) (by decide) (by decide) ?_
        rintro v11 T11 h11 W11 z11 ⟨rfl, Ks, ds, ks, Ss, gs⟩
        show Go p e below _ T11 (mkF m 54 #[.val (.int px), .val (.int (px &&& (3 : Int32))), .val (.ref b7)] [(.ref b9)])
        exact gRetA W11 hret rfl rfl d1_54 (by decide) (by decide) ⟨_, rfl, (((((Keep.refl h0 []).ext E7).trans K8 (allS (Or.inr (natle (by omega))) all0)).ext E9).trans Ks (allS (Or.inr (natle (by omega))) all0)), by rw [con2 q5 q12 q28]; exact ⟨_, _, _, _, rfl, (show (1 : Int32).toInt = ((1 : Nat) : Int) by decide), (show 1 ≤ 64 by decide), Ss⟩⟩
    · intro q12
      refine gNew W0 (w_8 hw) (w_9 hw) (w_10 hw) d1_15 (pc' := 18) rfl (by decide) (by decide) ?_
      intro T12 h12 b12 g12 W12 E12 ⟨A12, D12, U12⟩
      have z12 : h0.size ≤ h12.size := E12.1
      have lt_b12 := natlt A12.lt
      have gg12 := nateq g12
      have n0_b12 : n0 ≤ b12 := by have := W0.n0le; omega
      have F12_coder : Fld Z h12 b12 "java/lang/String" "coder" "B" (.int (0 : Int32)) := D12 (Or.inr (w_34 hw)) (ty := .byte) (by decide)
      have F12_value : Fld Z h12 b12 "java/lang/String" "value" "[B" .null := D12 (Or.inr (w_36 hw)) (ty := (.array .byte)) (by decide)
      refine s_dup W12 d1_18 rfl (pc' := 19) rfl ?_
      refine s_iconst W12 d1_19 (v := (0 : Int32)) (by decide) (pc' := 20) rfl ?_
      refine gNewP (aty := .char) W12 (w_7 hw) (ad := "[C") (by decide +kernel) d1_20 (pc' := 22) rfl (by decide) (cap := 0) (by decide) (by decide) (by decide) (by decide) ?_
      intro T13 h13 b13 g13 W13 E13 ⟨k13, V13, A13⟩
      have z13 : h12.size ≤ h13.size := E13.1
      have lt_b13 := natlt A13.lt
      have gg13 := nateq g13
      have n0_b13 : n0 ≤ b13 := by have := W12.n0le; omega
      have Vp13 : Arv Z h13 b13 k13 .char (0 : Int32) [] (.int (0 : Int32)) := V13
      have fx14 := (A12.ext E13)
      have fx15 := (F12_value.ext E13)
      have fx16 := (F12_coder.ext E13)
      refine gSpecial W13 rfl (w_11 hw) (w_12 hw) (w_10 hw) (w_13 hw) (by decide) pd_7 (ct_str1 hw hEL [] b12 b13 k13 (0 : Int32) ccs [] h13 (show (0 : Int32).toInt = ((0 : Nat) : Int) by decide) (show 0 ≤ 4 by decide) (by intro c hc; cases hc) Vp13 fx14 fx15 fx16 n0_b12 SCS hccs) (fun x hx => by rcases List.mem_singleton.mp hx with rfl; exact List.mem_of_getElem? (i := 1) rfl) d1_22 (pc' := 25) rfl rfl (argsL := [(.ref b13)]) rfl rfl (rest := [(.ref b12)]) rfl (wt := 1) (Nat.le_of_eq rfl) (by decide) (by decide) (by decide) (by decide) ?_
      rintro v17 T17 h17 W17 z17 ⟨rfl, Ks, ds, ks, Ss, gs⟩
      show Go p e below _ T17 (mkF m 25 #[.val (.int px), .val (.int (px &&& (3 : Int32))), .unset] [(.ref b12)])
      exact gRetA W17 hret rfl rfl d1_25 (by decide) (by decide) ⟨_, rfl, ((((Keep.refl h0 []).ext E12).ext E13).trans Ks (allS (Or.inr (natle (by omega))) all0)), by rw [con1 q5 q12]; exact ⟨_, _, _, _, rfl, (show (0 : Int32).toInt = ((0 : Nat) : Int) by decide), (show 0 ≤ 64 by decide), Ss⟩⟩
  · intro q5
    refine s_aconst_null W0 d1_8 (pc' := 9) rfl ?_
    exact gRetA W0 hret rfl rfl d1_9 (by decide) (by decide) ⟨_, rfl, Keep.refl _ _, by rw [con0 q5]; rfl⟩
def Q_canon (Z : State) (n0 : Nat) (px : Int32) (h0 : Heap) (v : Option Value) (h : Heap) : Prop := v = some (.long (cano px)) ∧ h0 = h
set_option maxRecDepth 65536 in
set_option maxHeartbeats 40000000 in
theorem ct_canon {l : Launch} {Z : State} {a0 : Array Value} (hw : ∀ d ∈ tables_1, d.before a0 Z = true) (hEL : EW Z a0 EL0) {n0 : Nat} (cds : List Jvm.Cond) (px : Int32) (h0 : Heap)  :
    Ct l Z a0 EL0 n0 false true (⟨"com/example/trifold/trifold/model/XmiIdentityEqualsPinLaw", "canon", "(I)J"⟩ : MethodName) method_3_code 6 (Option.some Jvm.ClassFile.FieldType.long) cds ({ frames := 0, cells := 0, slots := 0, locals := 0 } : Room) [] #[(.int px)] h0 (Q_canon Z n0 px h0) := by
  refine Ct.of (plainFor_of_name pn_6) hEL ?_
  intro p e s m below meth c T0 W0 hret hnm hs0
  refine Go.cast (ef_I_6 m px) ?_
  show Go p e below _ T0 (mkF m 0 #[.val (.int px), .unset, .unset, .unset, .unset, .unset] [])
  refine s_iloadN W0 d10_0 rfl (pc' := 1) rfl ?_
  refine s_iconst W0 d10_1 (v := (3 : Int32)) (by decide) (pc' := 2) rfl ?_
  refine s_iand W0 d10_2 (pc' := 3) rfl ?_
  refine s_istoreN W0 d10_3 (l' := #[.val (.int px), .val (.int (px &&& (3 : Int32))), .unset, .unset, .unset, .unset]) rfl (pc' := 4) rfl ?_
  refine s_iloadN W0 d10_4 rfl (pc' := 5) rfl ?_
  refine s_ifne W0 d10_5 (by decide) (pc1 := 12) (by decide) (pc2 := 8) rfl ?_ ?_
  · intro q5
    refine s_iloadN W0 d10_12 rfl (pc' := 13) rfl ?_
    refine s_iconst W0 d10_13 (v := (1 : Int32)) (by decide) (pc' := 14) rfl ?_
    refine s_icmpne W0 d10_14 (by decide) (pc1 := 19) (by decide) (pc2 := 17) rfl ?_ ?_
    · intro q14
      refine s_iloadN W0 d10_19 rfl (pc' := 20) rfl ?_
      refine s_iconst W0 d10_20 (v := (2 : Int32)) (by decide) (pc' := 21) rfl ?_
      refine s_iushr W0 d10_21 (pc' := 22) rfl ?_
      refine s_sipush W0 d10_22 (v := (255 : Int32)) (by decide) (pc' := 25) rfl ?_
      refine s_iand W0 d10_25 (pc' := 26) rfl ?_
      refine s_i2l W0 d10_26 (pc' := 27) rfl ?_
      refine s_lstoreN W0 d10_27 (l' := #[.val (.int px), .val (.int (px &&& (3 : Int32))), .val (.long (((px.toUInt32 >>> ((2 : Int32) &&& 31).toUInt32).toInt32) &&& (255 : Int32)).toInt64), .second, .unset, .unset]) rfl (pc' := 28) rfl ?_
      refine s_iloadN W0 d10_28 rfl (pc' := 29) rfl ?_
      refine s_iconst W0 d10_29 (v := (2 : Int32)) (by decide) (pc' := 30) rfl ?_
      refine s_icmpne W0 d10_30 (by decide) (pc1 := 39) (by decide) (pc2 := 33) rfl ?_ ?_
      · intro q30
        refine s_iloadN W0 d10_39 rfl (pc' := 40) rfl ?_
        refine s_bipush W0 d10_40 (v := (10 : Int32)) (by decide) (pc' := 42) rfl ?_
        refine s_iushr W0 d10_42 (pc' := 43) rfl ?_
        refine s_sipush W0 d10_43 (v := (255 : Int32)) (by decide) (pc' := 46) rfl ?_
        refine s_iand W0 d10_46 (pc' := 47) rfl ?_
        refine s_i2l W0 d10_47 (pc' := 48) rfl ?_
        refine s_lstore W0 d10_48 (l' := #[.val (.int px), .val (.int (px &&& (3 : Int32))), .val (.long (((px.toUInt32 >>> ((2 : Int32) &&& 31).toUInt32).toInt32) &&& (255 : Int32)).toInt64), .second, .val (.long (((px.toUInt32 >>> ((10 : Int32) &&& 31).toUInt32).toInt32) &&& (255 : Int32)).toInt64), .second]) rfl (pc' := 50) rfl ?_
        refine s_ldcJ W0 (w_77 hw) d10_50 (pc' := 53) rfl ?_
        refine s_lloadN W0 d10_53 rfl (pc' := 54) rfl ?_
        refine s_iconst W0 d10_54 (v := (2 : Int32)) (by decide) (pc' := 55) rfl ?_
        refine s_lshl W0 d10_55 (pc' := 56) rfl ?_
        refine s_lor W0 d10_56 (pc' := 57) rfl ?_
        refine s_lload W0 d10_57 rfl (pc' := 59) rfl ?_
        refine s_bipush W0 d10_59 (v := (10 : Int32)) (by decide) (pc' := 61) rfl ?_
        refine s_lshl W0 d10_61 (pc' := 62) rfl ?_
        refine s_lor W0 d10_62 (pc' := 63) rfl ?_
        exact gRetJ W0 hret d10_63 (by decide) (by decide) ⟨by rw [show cano px = _ from (if_neg q5).trans ((if_neg q14).trans (if_neg q30))], rfl⟩
      · intro q30
        refine s_lconst W0 d10_33 (v := (1 : Int64)) (by decide) (pc' := 34) rfl ?_
        refine s_lloadN W0 d10_34 rfl (pc' := 35) rfl ?_
        refine s_iconst W0 d10_35 (v := (2 : Int32)) (by decide) (pc' := 36) rfl ?_
        refine s_lshl W0 d10_36 (pc' := 37) rfl ?_
        refine s_lor W0 d10_37 (pc' := 38) rfl ?_
        exact gRetJ W0 hret d10_38 (by decide) (by decide) ⟨by rw [show cano px = _ from (if_neg q5).trans ((if_neg q14).trans (if_pos q30))], rfl⟩
    · intro q14
      refine s_lconst W0 d10_17 (v := (0 : Int64)) (by decide) (pc' := 18) rfl ?_
      exact gRetJ W0 hret d10_18 (by decide) (by decide) ⟨by rw [show cano px = _ from (if_neg q5).trans (if_pos q14)], rfl⟩
  · intro q5
    refine s_ldcJ W0 (w_56 hw) d10_8 (pc' := 11) rfl ?_
    exact gRetJ W0 hret d10_11 (by decide) (by decide) ⟨by rw [show cano px = _ from if_pos q5], rfl⟩
def XId (Z : State) (h : Heap) (a : Addr) (o1 o2 : Option (List Int32)) : Prop := Exa Z h a "com/example/trifold/trifold/model/XmiIdentity" ∧ ∃ w1 w2 : Value, Fld Z h a "com/example/trifold/trifold/model/XmiIdentity" "id" "Ljava/lang/String;" w1 ∧ Fld Z h a "com/example/trifold/trifold/model/XmiIdentity" "uuid" "Ljava/lang/String;" w2 ∧ NSt Z h w1 o1 ∧ NSt Z h w2 o2
theorem XId.ext {Z : State} {h h' : Heap} {a : Addr} {o1 o2 : Option (List Int32)} (X : XId Z h a o1 o2) (E : Ext h h') : XId Z h' a o1 o2 := by
  obtain ⟨A, w1, w2, F1, F2, N1, N2⟩ := X
  exact ⟨A.ext E, w1, w2, F1.ext E, F2.ext E, N1.ext E, N2.ext E⟩
theorem XId.keep0 {Z : State} {h h' : Heap} {a : Addr} {o1 o2 : Option (List Int32)} (X : XId Z h a o1 o2) (K : Keep h h' []) : XId Z h' a o1 o2 := by
  obtain ⟨A, w1, w2, F1, F2, N1, N2⟩ := X
  exact ⟨A.keep K, w1, w2, F1.keep K nin0, F2.keep K nin0, N1.keep0 K, N2.keep0 K⟩
theorem XId.keepX {Z : State} {h h' : Heap} {a b : Addr} {o1 o2 : Option (List Int32)} {a0 : Array Value} (hw : ∀ d ∈ tables_1, d.before a0 Z = true) (X : XId Z h a o1 o2) (E : Exa Z h b "com/example/trifold/trifold/model/XmiIdentity") (ne : a ≠ b) (K : Keep h h' [b]) : XId Z h' a o1 o2 := by
  obtain ⟨A, w1, w2, F1, F2, N1, N2⟩ := X
  exact ⟨A.keep K, w1, w2, F1.keep K (ninS ne nin0), F2.keep K (ninS ne nin0), N1.keepX E (by decide) (w_1 hw) K, N2.keepX E (by decide) (w_1 hw) K⟩
def Q_xeqN (Z : State) (n0 : Nat) (a : Addr) (h0 : Heap) (v : Option Value) (h : Heap) : Prop := v = some (.int 0) ∧ h0 = h
set_option maxRecDepth 65536 in
set_option maxHeartbeats 40000000 in
theorem ct_xeqN {l : Launch} {Z : State} {a0 : Array Value} (hw : ∀ d ∈ tables_1, d.before a0 Z = true) (hEL : EW Z a0 EL0) {n0 : Nat} (cds : List Jvm.Cond) (a : Addr) (h0 : Heap)  :
    Ct l Z a0 EL0 n0 false true (⟨"com/example/trifold/trifold/model/XmiIdentity", "equals", "(Ljava/lang/Object;)Z"⟩ : MethodName) prog_14_method_2_code 3 (Option.some Jvm.ClassFile.FieldType.boolean) cds ({ frames := 0, cells := 0, slots := 0, locals := 0 } : Room) [] #[(.ref a), .null] h0 (Q_xeqN Z n0 a h0) := by
  refine Ct.of (plainFor_of_name pn_5) hEL ?_
  intro p e s m below meth c T0 W0 hret hnm hs0
  refine Go.cast (ef_RN_3 m a) ?_
  show Go p e below _ T0 (mkF m 0 #[.val (.ref a), .val .null, .unset] [])
  refine s_aloadN W0 d11_0 rfl rfl (pc' := 1) rfl ?_
  refine s_instNull W0 d11_1 (pc' := 4) rfl ?_
  refine s_ifeq W0 d11_4 (by decide) (pc1 := 44) (by decide) (pc2 := 7) rfl ?_ (fun q => (q rfl).elim)
  intro q4
  refine s_iconst W0 d11_44 (v := (0 : Int32)) (by decide) (pc' := 45) rfl ?_
  exact gRetN W0 hret (by simp) d11_45 (by decide) (by decide) ⟨rfl, rfl⟩
def Q_xeqS (Z : State) (n0 : Nat) (a b : Addr) (h0 : Heap) (v : Option Value) (h : Heap) : Prop := v = some (.int 0) ∧ h0 = h
set_option maxRecDepth 65536 in
set_option maxHeartbeats 40000000 in
theorem ct_xeqS {l : Launch} {Z : State} {a0 : Array Value} (hw : ∀ d ∈ tables_1, d.before a0 Z = true) (hEL : EW Z a0 EL0) {n0 : Nat} (cds : List Jvm.Cond) (a b : Addr) (h0 : Heap) (Eb : Exa Z h0 b "java/lang/String") :
    Ct l Z a0 EL0 n0 false true (⟨"com/example/trifold/trifold/model/XmiIdentity", "equals", "(Ljava/lang/Object;)Z"⟩ : MethodName) prog_14_method_2_code 3 (Option.some Jvm.ClassFile.FieldType.boolean) cds ({ frames := 0, cells := 0, slots := 0, locals := 0 } : Room) [] #[(.ref a), (.ref b)] h0 (Q_xeqS Z n0 a b h0) := by
  refine Ct.of (plainFor_of_name pn_5) hEL ?_
  intro p e s m below meth c T0 W0 hret hnm hs0
  refine Go.cast (ef_RR_3 m a b) ?_
  show Go p e below _ T0 (mkF m 0 #[.val (.ref a), .val (.ref b), .unset] [])
  refine s_aloadN W0 d11_0 rfl rfl (pc' := 1) rfl ?_
  refine gInsN W0 (w_62 hw) Eb (noSub (w_75 hw) (w_76 hw) (w_1 hw) (by decide) (by decide)) d11_1 (pc' := 4) rfl ?_
  intro T1 W1
  refine s_ifeq W1 d11_4 (by decide) (pc1 := 44) (by decide) (pc2 := 7) rfl ?_ (fun q => (q rfl).elim)
  intro q4
  refine s_iconst W1 d11_44 (v := (0 : Int32)) (by decide) (pc' := 45) rfl ?_
  exact gRetN W1 hret (by simp) d11_45 (by decide) (by decide) ⟨rfl, rfl⟩
def Q_xeqX (Z : State) (n0 : Nat) (a b : Addr) (o1 o2 o3 o4 : Option (List Int32)) (ccs : Int32) (h0 : Heap) (v : Option Value) (h : Heap) : Prop := v = some (.int (if o1 = o3 ∧ o2 = o4 then 1 else 0)) ∧ h0 = h
set_option maxRecDepth 65536 in
set_option maxHeartbeats 40000000 in
theorem ct_xeqX {l : Launch} {Z : State} {a0 : Array Value} (hw : ∀ d ∈ tables_1, d.before a0 Z = true) (hEL : EW Z a0 EL0) {n0 : Nat} (cds : List Jvm.Cond) (a b : Addr) (o1 o2 o3 o4 : Option (List Int32)) (ccs : Int32) (h0 : Heap) (Xa : XId Z h0 a o1 o2) (Xb : XId Z h0 b o3 o4) (SCS : Sta Z Z.heap "java/lang/String" "COMPACT_STRINGS" "Z" (.int ccs)) (hccs : ¬ ccs = 0) :
    Ct l Z a0 EL0 n0 false true (⟨"com/example/trifold/trifold/model/XmiIdentity", "equals", "(Ljava/lang/Object;)Z"⟩ : MethodName) prog_14_method_2_code 3 (Option.some Jvm.ClassFile.FieldType.boolean) cds ({ frames := 3, cells := 0, slots := 0, locals := 41 } : Room) [] #[(.ref a), (.ref b)] h0 (Q_xeqX Z n0 a b o1 o2 o3 o4 ccs h0) := by
  refine Ct.of (plainFor_of_name pn_5) hEL ?_
  intro p e s m below meth c T0 W0 hret hnm hs0
  refine Go.cast (ef_RR_3 m a b) ?_
  show Go p e below _ T0 (mkF m 0 #[.val (.ref a), .val (.ref b), .unset] [])
  obtain ⟨Ea, w1, w2, F1, F2, N1, N2⟩ := Xa
  obtain ⟨Eb, w3, w4, F3, F4, N3, N4⟩ := Xb
  refine s_aloadN W0 d11_0 rfl rfl (pc' := 1) rfl ?_
  refine gInsY W0 (w_62 hw) (Ins.self Eb) d11_1 (pc' := 4) rfl ?_
  intro T1 W1
  refine s_ifeq W1 d11_4 (by decide) (pc1 := 44) (by decide) (pc2 := 7) rfl (fun q => absurd q (by decide)) ?_
  intro q4
  refine s_aloadN W1 d11_7 rfl rfl (pc' := 8) rfl ?_
  refine gCast W1 (w_62 hw) (Ins.self Eb) d11_8 (pc' := 11) rfl ?_
  intro T2 W2
  refine s_astoreN W2 d11_11 rfl (l' := #[.val (.ref a), .val (.ref b), .val (.ref b)]) rfl (pc' := 12) rfl ?_
  refine s_aloadN W2 d11_12 rfl rfl (pc' := 13) rfl ?_
  refine gGetF W2 (host := "") (Or.inl (w_46 hw)) Via.refl F1 d11_13 (pc' := 16) rfl ?_
  intro T3 W3
  refine s_aloadN W3 d11_16 rfl rfl (pc' := 17) rfl ?_
  refine gGetF W3 (host := "") (Or.inl (w_46 hw)) Via.refl F3 d11_17 (pc' := 20) rfl ?_
  intro T4 W4
  refine gStatic W4 (w_64 hw) (w_65 hw) (w_66 hw) (w_67 hw) (by decide) pd_8 (ct_oeq hw hEL [] w1 w3 o1 o3 ccs h0 N1 N3 SCS hccs) (by simp) d11_20 (pc' := 23) rfl rfl (argsL := [w1, w3]) rfl rfl (rest := []) rfl (wt := 0) (Nat.le_of_eq rfl) (by decide) (by decide) (by decide) (by decide) ?_
  rintro v5 T5 h5 W5 z5 ⟨rfl, rfl⟩
  show Go p e below _ T5 (mkF m 23 #[.val (.ref a), .val (.ref b), .val (.ref b)] [(.int (if o1 = o3 then 1 else 0))])
  refine s_ifeq W5 d11_23 (by decide) (pc1 := 44) (by decide) (pc2 := 26) rfl ?_ ?_
  · intro q23
    have hx23 : ¬ o1 = o3 := fun e => by rw [if_pos e] at q23; exact absurd q23 (by decide)
    refine s_iconst W5 d11_44 (v := (0 : Int32)) (by decide) (pc' := 45) rfl ?_
    exact gRetN W5 hret (by simp) d11_45 (by decide) (by decide) ⟨by rw [if_neg (fun e => hx23 e.1)]; rfl, rfl⟩
  · intro q23
    have hx23 : o1 = o3 := Classical.byContradiction fun e => by rw [if_neg e] at q23; exact q23 rfl
    refine s_aloadN W5 d11_26 rfl rfl (pc' := 27) rfl ?_
    refine gGetF W5 (host := "") (Or.inl (w_48 hw)) Via.refl F2 d11_27 (pc' := 30) rfl ?_
    intro T6 W6
    refine s_aloadN W6 d11_30 rfl rfl (pc' := 31) rfl ?_
    refine gGetF W6 (host := "") (Or.inl (w_48 hw)) Via.refl F4 d11_31 (pc' := 34) rfl ?_
    intro T7 W7
    refine gStatic W7 (w_64 hw) (w_65 hw) (w_66 hw) (w_67 hw) (by decide) pd_8 (ct_oeq hw hEL [] w2 w4 o2 o4 ccs h0 N2 N4 SCS hccs) (by simp) d11_34 (pc' := 37) rfl rfl (argsL := [w2, w4]) rfl rfl (rest := []) rfl (wt := 0) (Nat.le_of_eq rfl) (by decide) (by decide) (by decide) (by decide) ?_
    rintro v8 T8 h8 W8 z8 ⟨rfl, rfl⟩
    show Go p e below _ T8 (mkF m 37 #[.val (.ref a), .val (.ref b), .val (.ref b)] [(.int (if o2 = o4 then 1 else 0))])
    refine s_ifeq W8 d11_37 (by decide) (pc1 := 44) (by decide) (pc2 := 40) rfl ?_ ?_
    · intro q37
      have hx37 : ¬ o2 = o4 := fun e => by rw [if_pos e] at q37; exact absurd q37 (by decide)
      refine s_iconst W8 d11_44 (v := (0 : Int32)) (by decide) (pc' := 45) rfl ?_
      exact gRetN W8 hret (by simp) d11_45 (by decide) (by decide) ⟨by rw [if_neg (fun e => hx37 e.2)]; rfl, rfl⟩
    · intro q37
      have hx37 : o2 = o4 := Classical.byContradiction fun e => by rw [if_neg e] at q37; exact q37 rfl
      refine s_iconst W8 d11_40 (v := (1 : Int32)) (by decide) (pc' := 41) rfl ?_
      refine s_goto W8 d11_41 (by decide) (pc' := 45) (by decide) ?_
      exact gRetN W8 hret (by simp) d11_45 (by decide) (by decide) ⟨by rw [if_pos ⟨hx23, hx37⟩]; rfl, rfl⟩
theorem cano2 : ∀ n : Fin 256, ((1 : Int64) ||| ((Int32.ofNat n.val).toInt64 <<< ((2 : Int32) &&& 0x3f).toInt64)).toInt = 1 + 4 * n.val := by decide +kernel
theorem cano3 : ∀ n m : Fin 256, (((2 : Int64) ||| ((Int32.ofNat n.val).toInt64 <<< ((2 : Int32) &&& 0x3f).toInt64)) ||| ((Int32.ofNat m.val).toInt64 <<< ((10 : Int32) &&& 0x3f).toInt64)).toInt = 2 + 4 * n.val + 1024 * m.val := by decide +kernel
/-- of a code: its kind, its two chars; what con and cano say of them -/
theorem con_cano (p : Int32) : (con p = none ∧ (cano p).toInt = -1) ∨ (con p = some [] ∧ (cano p).toInt = 0) ∨ (∃ n : Nat, n < 256 ∧ (∃ c : Int32, c.toInt = n ∧ con p = some [c.toInt8.toInt32]) ∧ (cano p).toInt = 1 + 4 * n) ∨ (∃ n m : Nat, n < 256 ∧ m < 256 ∧ (∃ c d : Int32, c.toInt = n ∧ d.toInt = m ∧ con p = some [c.toInt8.toInt32, d.toInt8.toInt32]) ∧ (cano p).toInt = 2 + 4 * n + 1024 * m) := by
  by_cases q0 : p &&& (3 : Int32) = 0
  · exact Or.inl ⟨con0 q0, by rw [show cano p = _ from if_pos q0]; decide⟩
  by_cases q1 : p &&& (3 : Int32) = 1
  · exact Or.inr (Or.inl ⟨con1 q0 q1, by rw [show cano p = _ from (if_neg q0).trans (if_pos q1)]; decide⟩)
  obtain ⟨n, h1, h2, h3⟩ := mc_val p 2
  by_cases q2 : p &&& (3 : Int32) = 2
  · refine Or.inr (Or.inr (Or.inl ⟨n, h1, ⟨mc p 2, h3, con2 q0 q1 q2⟩, ?_⟩))
    rw [show cano p = _ from (if_neg q0).trans ((if_neg q1).trans (if_pos q2)), h2]
    exact cano2 ⟨n, h1⟩
  · obtain ⟨m, k1, k2, k3⟩ := mc_val p 10
    refine Or.inr (Or.inr (Or.inr ⟨n, m, h1, k1, ⟨mc p 2, mc p 10, h3, k3, con3 q0 q1 q2⟩, ?_⟩))
    rw [show cano p = _ from (if_neg q0).trans ((if_neg q1).trans (if_neg q2)), h2, k2]
    exact cano3 ⟨n, h1⟩ ⟨m, k1⟩
theorem byteOf : ∀ n m : Fin 256, (Int32.ofNat n.val).toInt8.toInt32 = (Int32.ofNat m.val).toInt8.toInt32 → n = m := by decide +kernel
theorem byteInj {c d : Int32} {n m : Nat} (hn : n < 256) (hm : m < 256) (h1 : c.toInt = n) (h2 : d.toInt = m) (q : c.toInt8.toInt32 = d.toInt8.toInt32) : n = m := by
  have e1 : c = Int32.ofNat n := eq32 (h1.trans (n32 (by omega)).symm)
  have e2 : d = Int32.ofNat m := eq32 (h2.trans (n32 (by omega)).symm)
  subst e1 e2
  exact congrArg Fin.val (byteOf ⟨n, hn⟩ ⟨m, hm⟩ q)
theorem sameC {c d : Int32} {n : Nat} (h1 : c.toInt = n) (h2 : d.toInt = n) : c = d := eq32 (h1.trans h2.symm)
theorem con_iff (p q : Int32) : con p = con q ↔ cano p = cano q := by
  constructor
  · intro e
    apply Int64.toInt_inj.mp
    rcases con_cano p with ⟨a1, a2⟩ | ⟨a1, a2⟩ | ⟨n, hn, ⟨c, hc, a1⟩, a2⟩ | ⟨n, m, hn, hm, ⟨c, d, hc, hd, a1⟩, a2⟩ <;> rcases con_cano q with ⟨b1, b2⟩ | ⟨b1, b2⟩ | ⟨n', hn', ⟨c', hc', b1⟩, b2⟩ | ⟨n', m', hn', hm', ⟨c', d', hc', hd', b1⟩, b2⟩ <;> rw [a1, b1] at e <;> first | (simp at e; done) | (rw [a2, b2]; done) | skip
    · simp at e
      rw [a2, b2, byteInj hn hn' hc hc' e]
    · simp at e
      rw [a2, b2, byteInj hn hn' hc hc' e.1, byteInj hm hm' hd hd' e.2]
  · intro e
    have e' := congrArg Int64.toInt e
    rcases con_cano p with ⟨a1, a2⟩ | ⟨a1, a2⟩ | ⟨n, hn, ⟨c, hc, a1⟩, a2⟩ | ⟨n, m, hn, hm, ⟨c, d, hc, hd, a1⟩, a2⟩ <;> rcases con_cano q with ⟨b1, b2⟩ | ⟨b1, b2⟩ | ⟨n', hn', ⟨c', hc', b1⟩, b2⟩ | ⟨n', m', hn', hm', ⟨c', d', hc', hd', b1⟩, b2⟩ <;> rw [a2, b2] at e' <;> first | omega | (rw [a1, b1]; done) | skip
    · obtain rfl : n = n' := by omega
      rw [a1, b1, sameC hc hc']
    · obtain rfl : n = n' := by omega
      obtain rfl : m = m' := by omega
      rw [a1, b1, sameC hc hc', sameC hd hd']
def Q_law (Z : State) (n0 : Nat) (pa pb pc pd pe ccs : Int32) (h0 : Heap) (v : Option Value) (h : Heap) : Prop := v = some (.int 1)
set_option maxRecDepth 65536 in
set_option maxHeartbeats 40000000 in
theorem ct_law {l : Launch} {Z : State} {a0 : Array Value} (hw : ∀ d ∈ tables_1, d.before a0 Z = true) (hEL : EW Z a0 EL0) {n0 : Nat} (cds : List Jvm.Cond) (pa pb pc pd pe ccs : Int32) (h0 : Heap) (SCS : Sta Z Z.heap "java/lang/String" "COMPACT_STRINGS" "Z" (.int ccs)) (hccs : ¬ ccs = 0) :
    Ct l Z a0 EL0 n0 false true x code maxLocals ret cds room_1 [] #[(.int pa), (.int pb), (.int pc), (.int pd), (.int pe)] h0 (Q_law Z n0 pa pb pc pd pe ccs h0) := by
  refine Ct.of (plainFor_of_name pn_6) hEL ?_
  intro p e s m below meth c T0 W0 hret hnm hs0
  refine Go.cast (ef_IIIII_11 m pa pb pc pd pe) ?_
  show Go p e below _ T0 (mkF m 0 #[.val (.int pa), .val (.int pb), .val (.int pc), .val (.int pd), .val (.int pe), .unset, .unset, .unset, .unset, .unset, .unset] [])
  suffices tail : ∀ c2 d2 : Int32, Go p e below (Po s Z EL0 n0 true _ _ (Q_law Z n0 pa pb pc pd pe ccs h0)) T0 (mkF m 27 #[.val (.int pa), .val (.int pb), .val (.int pc), .val (.int pd), .val (.int pe), .val (.int c2), .unset, .unset, .unset, .unset, .unset] [.int d2]) by
    refine s_iload W0 at_0 rfl (pc' := 2) rfl ?_
    refine s_iconst W0 at_2 (v := (4 : Int32)) (by decide) (pc' := 3) rfl ?_
    refine s_iand W0 at_3 (pc' := 4) rfl ?_
    refine s_ifeq W0 at_4 (by decide) (pc1 := 11) (by decide) (pc2 := 7) rfl ?_ ?_
    · intro q4
      refine s_iloadN W0 at_11 rfl (pc' := 12) rfl ?_
      refine s_istore W0 at_12 (l' := #[.val (.int pa), .val (.int pb), .val (.int pc), .val (.int pd), .val (.int pe), .val (.int pc), .unset, .unset, .unset, .unset, .unset]) rfl (pc' := 14) rfl ?_
      refine s_iload W0 at_14 rfl (pc' := 16) rfl ?_
      refine s_bipush W0 at_16 (v := (8 : Int32)) (by decide) (pc' := 18) rfl ?_
      refine s_iand W0 at_18 (pc' := 19) rfl ?_
      refine s_ifeq W0 at_19 (by decide) (pc1 := 26) (by decide) (pc2 := 22) rfl ?_ ?_
      · intro q19
        refine s_iloadN W0 at_26 rfl (pc' := 27) rfl ?_
        exact tail pc pd
      · intro q19
        refine s_iloadN W0 at_22 rfl (pc' := 23) rfl ?_
        refine s_goto W0 at_23 (by decide) (pc' := 27) (by decide) ?_
        exact tail pc pb
    · intro q4
      refine s_iloadN W0 at_7 rfl (pc' := 8) rfl ?_
      refine s_goto W0 at_8 (by decide) (pc' := 12) (by decide) ?_
      refine s_istore W0 at_12 (l' := #[.val (.int pa), .val (.int pb), .val (.int pc), .val (.int pd), .val (.int pe), .val (.int pa), .unset, .unset, .unset, .unset, .unset]) rfl (pc' := 14) rfl ?_
      refine s_iload W0 at_14 rfl (pc' := 16) rfl ?_
      refine s_bipush W0 at_16 (v := (8 : Int32)) (by decide) (pc' := 18) rfl ?_
      refine s_iand W0 at_18 (pc' := 19) rfl ?_
      refine s_ifeq W0 at_19 (by decide) (pc1 := 26) (by decide) (pc2 := 22) rfl ?_ ?_
      · intro q19
        refine s_iloadN W0 at_26 rfl (pc' := 27) rfl ?_
        exact tail pa pd
      · intro q19
        refine s_iloadN W0 at_22 rfl (pc' := 23) rfl ?_
        refine s_goto W0 at_23 (by decide) (pc' := 27) (by decide) ?_
        exact tail pa pb
  intro c2 d2
  refine s_istore W0 at_27 (l' := #[.val (.int pa), .val (.int pb), .val (.int pc), .val (.int pd), .val (.int pe), .val (.int c2), .val (.int d2), .unset, .unset, .unset, .unset]) rfl (pc' := 29) rfl ?_
  refine gNew W0 (w_0 hw) (w_1 hw) (w_2 hw) at_29 (pc' := 32) rfl (by decide) (by decide) ?_
  intro T1 h1 b1 g1 W1 E1 ⟨A1, D1, U1⟩
  have z1 : h0.size ≤ h1.size := E1.1
  have lt_b1 := natlt A1.lt
  have gg1 := nateq g1
  have n0_b1 : n0 ≤ b1 := by have := W0.n0le; omega
  have F1_id : Fld Z h1 b1 "com/example/trifold/trifold/model/XmiIdentity" "id" "Ljava/lang/String;" .null := D1 (Or.inr (w_47 hw)) (ty := (.object "java/lang/String")) (by decide)
  have F1_uuid : Fld Z h1 b1 "com/example/trifold/trifold/model/XmiIdentity" "uuid" "Ljava/lang/String;" .null := D1 (Or.inr (w_49 hw)) (ty := (.object "java/lang/String")) (by decide)
  refine s_dup W1 at_32 rfl (pc' := 33) rfl ?_
  refine s_iloadN W1 at_33 rfl (pc' := 34) rfl ?_
  refine gStatic W1 (w_3 hw) (w_4 hw) (w_5 hw) (w_6 hw) (by decide) pd_9 (ct_mk hw hEL [] pa ccs h1 SCS hccs) (by simp) at_34 (pc' := 37) rfl rfl (argsL := [(.int pa)]) rfl rfl (rest := [(.ref b1), (.ref b1)]) rfl (wt := 2) (Nat.le_of_eq rfl) (by decide) (by decide) (by decide) (by decide) ?_
  rintro v2 T2 h2 W2 z2 ⟨x1, rfl, KK1, NN1⟩
  show Go p e below _ T2 (mkF m 37 #[.val (.int pa), .val (.int pb), .val (.int pc), .val (.int pd), .val (.int pe), .val (.int c2), .val (.int d2), .unset, .unset, .unset, .unset] [x1, (.ref b1), (.ref b1)])
  refine s_iloadN W2 at_37 rfl (pc' := 38) rfl ?_
  refine gStatic W2 (w_3 hw) (w_4 hw) (w_5 hw) (w_6 hw) (by decide) pd_9 (ct_mk hw hEL [] pb ccs h2 SCS hccs) (by simp) at_38 (pc' := 41) rfl rfl (argsL := [(.int pb)]) rfl rfl (rest := [x1, (.ref b1), (.ref b1)]) rfl (wt := 3) (by simp only [List.map_cons, List.map_nil, List.sum_cons, List.sum_nil, (isRef_cat NN1.ref)]; exact Nat.le_of_eq rfl) (by decide) (by decide) (by decide) (by decide) ?_
  rintro v3 T3 h3 W3 z3 ⟨x2, rfl, KK2, NN2⟩
  show Go p e below _ T3 (mkF m 41 #[.val (.int pa), .val (.int pb), .val (.int pc), .val (.int pd), .val (.int pe), .val (.int c2), .val (.int d2), .unset, .unset, .unset, .unset] [x2, x1, (.ref b1), (.ref b1)])
  have Mx := NN1.keep0 KK2
  have fx4 := ((A1.keep KK1).keep KK2)
  have fx5 := ((F1_id.keep KK1 nin0).keep KK2 nin0)
  have fx6 := ((F1_uuid.keep KK1 nin0).keep KK2 nin0)
  refine gSpecial W3 rfl (w_37 hw) (w_38 hw) (w_2 hw) (w_39 hw) (by decide) pd_10 (ct_xinit hw hEL [] b1 x1 x2 h3 NN1.ref NN2.ref fx4 fx5 fx6 n0_b1) (fun x hx => by rcases List.mem_singleton.mp hx with rfl; exact List.mem_of_getElem? (i := 0) rfl) at_41 (pc' := 44) rfl rfl (argsL := [x1, x2]) rfl rfl (rest := [(.ref b1)]) rfl (wt := 1) (Nat.le_of_eq rfl) (by decide) (by decide) (by decide) (by decide) ?_
  rintro v7 T7 h7 W7 z7 ⟨rfl, KIx, EIx, FIx, GIx⟩
  have Xx : XId Z h7 b1 (con pa) (con pb) := ⟨EIx, x1, x2, FIx, GIx, Mx.keepX fx4 (by decide) (w_1 hw) KIx, NN2.keepX fx4 (by decide) (w_1 hw) KIx⟩
  show Go p e below _ T7 (mkF m 44 #[.val (.int pa), .val (.int pb), .val (.int pc), .val (.int pd), .val (.int pe), .val (.int c2), .val (.int d2), .unset, .unset, .unset, .unset] [(.ref b1)])
  refine s_astore W7 at_44 rfl (l' := #[.val (.int pa), .val (.int pb), .val (.int pc), .val (.int pd), .val (.int pe), .val (.int c2), .val (.int d2), .val (.ref b1), .unset, .unset, .unset]) rfl (pc' := 46) rfl ?_
  refine s_iload W7 at_46 rfl (pc' := 48) rfl ?_
  refine s_iconst W7 at_48 (v := (3 : Int32)) (by decide) (pc' := 49) rfl ?_
  refine s_iand W7 at_49 (pc' := 50) rfl ?_
  refine s_istore W7 at_50 (l' := #[.val (.int pa), .val (.int pb), .val (.int pc), .val (.int pd), .val (.int pe), .val (.int c2), .val (.int d2), .val (.ref b1), .val (.int (pe &&& (3 : Int32))), .unset, .unset]) rfl (pc' := 52) rfl ?_
  refine s_iload W7 at_52 rfl (pc' := 54) rfl ?_
  refine s_iconst W7 at_54 (v := (1 : Int32)) (by decide) (pc' := 55) rfl ?_
  refine s_icmpne W7 at_55 (by decide) (pc1 := 66) (by decide) (pc2 := 58) rfl ?_ ?_
  · intro q55
    refine s_iload W7 at_66 rfl (pc' := 68) rfl ?_
    refine s_iconst W7 at_68 (v := (2 : Int32)) (by decide) (pc' := 69) rfl ?_
    refine s_icmpne W7 at_69 (by decide) (pc1 := 87) (by decide) (pc2 := 72) rfl ?_ ?_
    · intro q69
      refine s_iload W7 at_87 rfl (pc' := 89) rfl ?_
      refine s_iconst W7 at_89 (v := (3 : Int32)) (by decide) (pc' := 90) rfl ?_
      refine s_icmpne W7 at_90 (by decide) (pc1 := 113) (by decide) (pc2 := 93) rfl ?_ ?_
      · intro q90
        refine gNew W7 (w_0 hw) (w_1 hw) (w_2 hw) at_113 (pc' := 116) rfl (by decide) (by decide) ?_
        intro T8 h8 b8 g8 W8 E8 ⟨A8, D8, U8⟩
        have z8 : h7.size ≤ h8.size := E8.1
        have lt_b8 := natlt A8.lt
        have gg8 := nateq g8
        have n0_b8 : n0 ≤ b8 := by have := W7.n0le; omega
        have F8_id : Fld Z h8 b8 "com/example/trifold/trifold/model/XmiIdentity" "id" "Ljava/lang/String;" .null := D8 (Or.inr (w_47 hw)) (ty := (.object "java/lang/String")) (by decide)
        have F8_uuid : Fld Z h8 b8 "com/example/trifold/trifold/model/XmiIdentity" "uuid" "Ljava/lang/String;" .null := D8 (Or.inr (w_49 hw)) (ty := (.object "java/lang/String")) (by decide)
        refine s_dup W8 at_116 rfl (pc' := 117) rfl ?_
        refine s_iload W8 at_117 rfl (pc' := 119) rfl ?_
        refine gStatic W8 (w_3 hw) (w_4 hw) (w_5 hw) (w_6 hw) (by decide) pd_9 (ct_mk hw hEL [] c2 ccs h8 SCS hccs) (by simp) at_119 (pc' := 122) rfl rfl (argsL := [(.int c2)]) rfl rfl (rest := [(.ref b8), (.ref b8)]) rfl (wt := 2) (Nat.le_of_eq rfl) (by decide) (by decide) (by decide) (by decide) ?_
        rintro v9 T9 h9 W9 z9 ⟨x3, rfl, KK3, NN3⟩
        show Go p e below _ T9 (mkF m 122 #[.val (.int pa), .val (.int pb), .val (.int pc), .val (.int pd), .val (.int pe), .val (.int c2), .val (.int d2), .val (.ref b1), .val (.int (pe &&& (3 : Int32))), .unset, .unset] [x3, (.ref b8), (.ref b8)])
        refine s_iload W9 at_122 rfl (pc' := 124) rfl ?_
        refine gStatic W9 (w_3 hw) (w_4 hw) (w_5 hw) (w_6 hw) (by decide) pd_9 (ct_mk hw hEL [] d2 ccs h9 SCS hccs) (by simp) at_124 (pc' := 127) rfl rfl (argsL := [(.int d2)]) rfl rfl (rest := [x3, (.ref b8), (.ref b8)]) rfl (wt := 3) (by simp only [List.map_cons, List.map_nil, List.sum_cons, List.sum_nil, (isRef_cat NN3.ref)]; exact Nat.le_of_eq rfl) (by decide) (by decide) (by decide) (by decide) ?_
        rintro v10 T10 h10 W10 z10 ⟨x4, rfl, KK4, NN4⟩
        show Go p e below _ T10 (mkF m 127 #[.val (.int pa), .val (.int pb), .val (.int pc), .val (.int pd), .val (.int pe), .val (.int c2), .val (.int d2), .val (.ref b1), .val (.int (pe &&& (3 : Int32))), .unset, .unset] [x4, x3, (.ref b8), (.ref b8)])
        have Xx1 := ((Xx.ext E8).keep0 KK3).keep0 KK4
        have fx11 := ((A8.keep KK3).keep KK4)
        have My := NN3.keep0 KK4
        have fx12 := ((F8_id.keep KK3 nin0).keep KK4 nin0)
        have fx13 := ((F8_uuid.keep KK3 nin0).keep KK4 nin0)
        refine gSpecial W10 rfl (w_37 hw) (w_38 hw) (w_2 hw) (w_39 hw) (by decide) pd_10 (ct_xinit hw hEL [] b8 x3 x4 h10 NN3.ref NN4.ref fx11 fx12 fx13 n0_b8) (fun x hx => by rcases List.mem_singleton.mp hx with rfl; exact List.mem_of_getElem? (i := 0) rfl) at_127 (pc' := 130) rfl rfl (argsL := [x3, x4]) rfl rfl (rest := [(.ref b8)]) rfl (wt := 1) (Nat.le_of_eq rfl) (by decide) (by decide) (by decide) (by decide) ?_
        rintro v14 T14 h14 W14 z14 ⟨rfl, KIy, EIy, FIy, GIy⟩
        have Xy : XId Z h14 b8 (con c2) (con d2) := ⟨EIy, x3, x4, FIy, GIy, My.keepX fx11 (by decide) (w_1 hw) KIy, NN4.keepX fx11 (by decide) (w_1 hw) KIy⟩
        show Go p e below _ T14 (mkF m 130 #[.val (.int pa), .val (.int pb), .val (.int pc), .val (.int pd), .val (.int pe), .val (.int c2), .val (.int d2), .val (.ref b1), .val (.int (pe &&& (3 : Int32))), .unset, .unset] [(.ref b8)])
        have Xx2 := Xx1.keepX hw fx11 (ane (by have := natlt Xx.1.lt; omega)) KIy
        refine s_astore W14 at_130 rfl (l' := #[.val (.int pa), .val (.int pb), .val (.int pc), .val (.int pd), .val (.int pe), .val (.int c2), .val (.int d2), .val (.ref b1), .val (.int (pe &&& (3 : Int32))), .val (.ref b8), .unset]) rfl (pc' := 132) rfl ?_
        refine s_iloadN W14 at_132 rfl (pc' := 133) rfl ?_
        refine gStatic W14 (w_53 hw) (w_54 hw) (w_5 hw) (w_55 hw) (by decide) pd_11 (ct_canon hw hEL [] pa h14) (by simp) at_133 (pc' := 136) rfl rfl (argsL := [(.int pa)]) rfl rfl (rest := []) rfl (wt := 0) (Nat.le_of_eq rfl) (by decide) (by decide) (by decide) (by decide) ?_
        rintro v15 T15 h15 W15 z15 ⟨rfl, rfl⟩
        show Go p e below _ T15 (mkF m 136 #[.val (.int pa), .val (.int pb), .val (.int pc), .val (.int pd), .val (.int pe), .val (.int c2), .val (.int d2), .val (.ref b1), .val (.int (pe &&& (3 : Int32))), .val (.ref b8), .unset] [(.long (cano pa))])
        refine s_iload W15 at_136 rfl (pc' := 138) rfl ?_
        refine gStatic W15 (w_53 hw) (w_54 hw) (w_5 hw) (w_55 hw) (by decide) pd_11 (ct_canon hw hEL [] c2 h14) (by simp) at_138 (pc' := 141) rfl rfl (argsL := [(.int c2)]) rfl rfl (rest := [(.long (cano pa))]) rfl (wt := 2) (Nat.le_of_eq rfl) (by decide) (by decide) (by decide) (by decide) ?_
        rintro v16 T16 h16 W16 z16 ⟨rfl, rfl⟩
        show Go p e below _ T16 (mkF m 141 #[.val (.int pa), .val (.int pb), .val (.int pc), .val (.int pd), .val (.int pe), .val (.int c2), .val (.int d2), .val (.ref b1), .val (.int (pe &&& (3 : Int32))), .val (.ref b8), .unset] [(.long (cano c2)), (.long (cano pa))])
        refine s_lcmp W16 at_141 (pc' := 142) rfl ?_
        refine s_ifne W16 at_142 (by decide) (pc1 := 162) (by decide) (pc2 := 145) rfl ?_ ?_
        · intro q142
          have hex : (0 : Int32) = (if con pa = con c2 ∧ con pb = con d2 then (1 : Int32) else 0) := by rw [if_neg (fun r => q142 ((lw_eq _ _).mpr ((con_iff _ _).mp r.1)))]
          refine s_iconst W16 at_162 (v := (0 : Int32)) (by decide) (pc' := 163) rfl ?_
          refine s_istore W16 at_163 (l' := #[.val (.int pa), .val (.int pb), .val (.int pc), .val (.int pd), .val (.int pe), .val (.int c2), .val (.int d2), .val (.ref b1), .val (.int (pe &&& (3 : Int32))), .val (.ref b8), .val (.int (0 : Int32))]) rfl (pc' := 165) rfl ?_
          refine s_aload W16 at_165 rfl rfl (pc' := 167) rfl ?_
          refine s_aload W16 at_167 rfl rfl (pc' := 169) rfl ?_
          refine gVirtual W16 Xx2.1 (w_57 hw) (w_58 hw) (fun s hZ => notFace_of_selects (args := #[]) (mv hZ (w_60 hw))) (w_60 hw) (w_59 hw) (w_2 hw) (w_61 hw) (by decide) pd_5 (ct_xeqX hw hEL [] b1 b8 (con pa) (con pb) (con c2) (con d2) ccs h14 Xx2 Xy SCS hccs) (by simp) at_169 (pc' := 172) rfl rfl (argsL := [(.ref b8)]) rfl rfl (rest := []) rfl (wt := 0) (Nat.le_of_eq rfl) (by decide) (by decide) (by decide) (by decide) ?_
          rintro v17 T17 h17 W17 z17 ⟨rfl, rfl⟩
          rw [← hex]
          show Go p e below _ T17 (mkF m 172 #[.val (.int pa), .val (.int pb), .val (.int pc), .val (.int pd), .val (.int pe), .val (.int c2), .val (.int d2), .val (.ref b1), .val (.int (pe &&& (3 : Int32))), .val (.ref b8), .val (.int (0 : Int32))] [(.int (0 : Int32))])
          refine s_iload W17 at_172 rfl (pc' := 174) rfl ?_
          refine s_icmpne W17 at_174 (by decide) (pc1 := 193) (by decide) (pc2 := 177) rfl (fun q => (q rfl).elim) ?_
          intro q174
          refine s_aload W17 at_177 rfl rfl (pc' := 179) rfl ?_
          refine s_aload W17 at_179 rfl rfl (pc' := 181) rfl ?_
          refine gVirtual W17 Xy.1 (w_57 hw) (w_58 hw) (fun s hZ => notFace_of_selects (args := #[]) (mv hZ (w_60 hw))) (w_60 hw) (w_59 hw) (w_2 hw) (w_61 hw) (by decide) pd_5 (ct_xeqX hw hEL [] b8 b1 (con c2) (con d2) (con pa) (con pb) ccs h14 Xy Xx2 SCS hccs) (by simp) at_181 (pc' := 184) rfl rfl (argsL := [(.ref b1)]) rfl rfl (rest := []) rfl (wt := 0) (Nat.le_of_eq rfl) (by decide) (by decide) (by decide) (by decide) ?_
          rintro v18 T18 h18 W18 z18 ⟨rfl, rfl⟩
          have hsym : (if con c2 = con pa ∧ con d2 = con pb then (1 : Int32) else 0) = (if con pa = con c2 ∧ con pb = con d2 then 1 else 0) := by simp only [eq_comm]
          rw [hsym, ← hex]
          show Go p e below _ T18 (mkF m 184 #[.val (.int pa), .val (.int pb), .val (.int pc), .val (.int pd), .val (.int pe), .val (.int c2), .val (.int d2), .val (.ref b1), .val (.int (pe &&& (3 : Int32))), .val (.ref b8), .val (.int (0 : Int32))] [(.int (0 : Int32))])
          refine s_iload W18 at_184 rfl (pc' := 186) rfl ?_
          refine s_icmpne W18 at_186 (by decide) (pc1 := 193) (by decide) (pc2 := 189) rfl (fun q => (q rfl).elim) ?_
          intro q186
          refine s_iconst W18 at_189 (v := (1 : Int32)) (by decide) (pc' := 190) rfl ?_
          refine s_goto W18 at_190 (by decide) (pc' := 194) (by decide) ?_
          exact gRetN W18 hret (by simp) at_194 (by decide) (by decide) rfl
        · intro q142
          refine s_iloadN W16 at_145 rfl (pc' := 146) rfl ?_
          refine gStatic W16 (w_53 hw) (w_54 hw) (w_5 hw) (w_55 hw) (by decide) pd_11 (ct_canon hw hEL [] pb h14) (by simp) at_146 (pc' := 149) rfl rfl (argsL := [(.int pb)]) rfl rfl (rest := []) rfl (wt := 0) (Nat.le_of_eq rfl) (by decide) (by decide) (by decide) (by decide) ?_
          rintro v19 T19 h19 W19 z19 ⟨rfl, rfl⟩
          show Go p e below _ T19 (mkF m 149 #[.val (.int pa), .val (.int pb), .val (.int pc), .val (.int pd), .val (.int pe), .val (.int c2), .val (.int d2), .val (.ref b1), .val (.int (pe &&& (3 : Int32))), .val (.ref b8), .unset] [(.long (cano pb))])
          refine s_iload W19 at_149 rfl (pc' := 151) rfl ?_
          refine gStatic W19 (w_53 hw) (w_54 hw) (w_5 hw) (w_55 hw) (by decide) pd_11 (ct_canon hw hEL [] d2 h14) (by simp) at_151 (pc' := 154) rfl rfl (argsL := [(.int d2)]) rfl rfl (rest := [(.long (cano pb))]) rfl (wt := 2) (Nat.le_of_eq rfl) (by decide) (by decide) (by decide) (by decide) ?_
          rintro v20 T20 h20 W20 z20 ⟨rfl, rfl⟩
          show Go p e below _ T20 (mkF m 154 #[.val (.int pa), .val (.int pb), .val (.int pc), .val (.int pd), .val (.int pe), .val (.int c2), .val (.int d2), .val (.ref b1), .val (.int (pe &&& (3 : Int32))), .val (.ref b8), .unset] [(.long (cano d2)), (.long (cano pb))])
          refine s_lcmp W20 at_154 (pc' := 155) rfl ?_
          refine s_ifne W20 at_155 (by decide) (pc1 := 162) (by decide) (pc2 := 158) rfl ?_ ?_
          · intro q155
            have hex : (0 : Int32) = (if con pa = con c2 ∧ con pb = con d2 then (1 : Int32) else 0) := by rw [if_neg (fun r => q155 ((lw_eq _ _).mpr ((con_iff _ _).mp r.2)))]
            refine s_iconst W20 at_162 (v := (0 : Int32)) (by decide) (pc' := 163) rfl ?_
            refine s_istore W20 at_163 (l' := #[.val (.int pa), .val (.int pb), .val (.int pc), .val (.int pd), .val (.int pe), .val (.int c2), .val (.int d2), .val (.ref b1), .val (.int (pe &&& (3 : Int32))), .val (.ref b8), .val (.int (0 : Int32))]) rfl (pc' := 165) rfl ?_
            refine s_aload W20 at_165 rfl rfl (pc' := 167) rfl ?_
            refine s_aload W20 at_167 rfl rfl (pc' := 169) rfl ?_
            refine gVirtual W20 Xx2.1 (w_57 hw) (w_58 hw) (fun s hZ => notFace_of_selects (args := #[]) (mv hZ (w_60 hw))) (w_60 hw) (w_59 hw) (w_2 hw) (w_61 hw) (by decide) pd_5 (ct_xeqX hw hEL [] b1 b8 (con pa) (con pb) (con c2) (con d2) ccs h14 Xx2 Xy SCS hccs) (by simp) at_169 (pc' := 172) rfl rfl (argsL := [(.ref b8)]) rfl rfl (rest := []) rfl (wt := 0) (Nat.le_of_eq rfl) (by decide) (by decide) (by decide) (by decide) ?_
            rintro v21 T21 h21 W21 z21 ⟨rfl, rfl⟩
            rw [← hex]
            show Go p e below _ T21 (mkF m 172 #[.val (.int pa), .val (.int pb), .val (.int pc), .val (.int pd), .val (.int pe), .val (.int c2), .val (.int d2), .val (.ref b1), .val (.int (pe &&& (3 : Int32))), .val (.ref b8), .val (.int (0 : Int32))] [(.int (0 : Int32))])
            refine s_iload W21 at_172 rfl (pc' := 174) rfl ?_
            refine s_icmpne W21 at_174 (by decide) (pc1 := 193) (by decide) (pc2 := 177) rfl (fun q => (q rfl).elim) ?_
            intro q174
            refine s_aload W21 at_177 rfl rfl (pc' := 179) rfl ?_
            refine s_aload W21 at_179 rfl rfl (pc' := 181) rfl ?_
            refine gVirtual W21 Xy.1 (w_57 hw) (w_58 hw) (fun s hZ => notFace_of_selects (args := #[]) (mv hZ (w_60 hw))) (w_60 hw) (w_59 hw) (w_2 hw) (w_61 hw) (by decide) pd_5 (ct_xeqX hw hEL [] b8 b1 (con c2) (con d2) (con pa) (con pb) ccs h14 Xy Xx2 SCS hccs) (by simp) at_181 (pc' := 184) rfl rfl (argsL := [(.ref b1)]) rfl rfl (rest := []) rfl (wt := 0) (Nat.le_of_eq rfl) (by decide) (by decide) (by decide) (by decide) ?_
            rintro v22 T22 h22 W22 z22 ⟨rfl, rfl⟩
            have hsym : (if con c2 = con pa ∧ con d2 = con pb then (1 : Int32) else 0) = (if con pa = con c2 ∧ con pb = con d2 then 1 else 0) := by simp only [eq_comm]
            rw [hsym, ← hex]
            show Go p e below _ T22 (mkF m 184 #[.val (.int pa), .val (.int pb), .val (.int pc), .val (.int pd), .val (.int pe), .val (.int c2), .val (.int d2), .val (.ref b1), .val (.int (pe &&& (3 : Int32))), .val (.ref b8), .val (.int (0 : Int32))] [(.int (0 : Int32))])
            refine s_iload W22 at_184 rfl (pc' := 186) rfl ?_
            refine s_icmpne W22 at_186 (by decide) (pc1 := 193) (by decide) (pc2 := 189) rfl (fun q => (q rfl).elim) ?_
            intro q186
            refine s_iconst W22 at_189 (v := (1 : Int32)) (by decide) (pc' := 190) rfl ?_
            refine s_goto W22 at_190 (by decide) (pc' := 194) (by decide) ?_
            exact gRetN W22 hret (by simp) at_194 (by decide) (by decide) rfl
          · intro q155
            have hex : (1 : Int32) = (if con pa = con c2 ∧ con pb = con d2 then (1 : Int32) else 0) := by rw [if_pos ⟨(con_iff _ _).mpr ((lw_eq _ _).mp q142), (con_iff _ _).mpr ((lw_eq _ _).mp q155)⟩]
            refine s_iconst W20 at_158 (v := (1 : Int32)) (by decide) (pc' := 159) rfl ?_
            refine s_goto W20 at_159 (by decide) (pc' := 163) (by decide) ?_
            refine s_istore W20 at_163 (l' := #[.val (.int pa), .val (.int pb), .val (.int pc), .val (.int pd), .val (.int pe), .val (.int c2), .val (.int d2), .val (.ref b1), .val (.int (pe &&& (3 : Int32))), .val (.ref b8), .val (.int (1 : Int32))]) rfl (pc' := 165) rfl ?_
            refine s_aload W20 at_165 rfl rfl (pc' := 167) rfl ?_
            refine s_aload W20 at_167 rfl rfl (pc' := 169) rfl ?_
            refine gVirtual W20 Xx2.1 (w_57 hw) (w_58 hw) (fun s hZ => notFace_of_selects (args := #[]) (mv hZ (w_60 hw))) (w_60 hw) (w_59 hw) (w_2 hw) (w_61 hw) (by decide) pd_5 (ct_xeqX hw hEL [] b1 b8 (con pa) (con pb) (con c2) (con d2) ccs h14 Xx2 Xy SCS hccs) (by simp) at_169 (pc' := 172) rfl rfl (argsL := [(.ref b8)]) rfl rfl (rest := []) rfl (wt := 0) (Nat.le_of_eq rfl) (by decide) (by decide) (by decide) (by decide) ?_
            rintro v23 T23 h23 W23 z23 ⟨rfl, rfl⟩
            rw [← hex]
            show Go p e below _ T23 (mkF m 172 #[.val (.int pa), .val (.int pb), .val (.int pc), .val (.int pd), .val (.int pe), .val (.int c2), .val (.int d2), .val (.ref b1), .val (.int (pe &&& (3 : Int32))), .val (.ref b8), .val (.int (1 : Int32))] [(.int (1 : Int32))])
            refine s_iload W23 at_172 rfl (pc' := 174) rfl ?_
            refine s_icmpne W23 at_174 (by decide) (pc1 := 193) (by decide) (pc2 := 177) rfl (fun q => (q rfl).elim) ?_
            intro q174
            refine s_aload W23 at_177 rfl rfl (pc' := 179) rfl ?_
            refine s_aload W23 at_179 rfl rfl (pc' := 181) rfl ?_
            refine gVirtual W23 Xy.1 (w_57 hw) (w_58 hw) (fun s hZ => notFace_of_selects (args := #[]) (mv hZ (w_60 hw))) (w_60 hw) (w_59 hw) (w_2 hw) (w_61 hw) (by decide) pd_5 (ct_xeqX hw hEL [] b8 b1 (con c2) (con d2) (con pa) (con pb) ccs h14 Xy Xx2 SCS hccs) (by simp) at_181 (pc' := 184) rfl rfl (argsL := [(.ref b1)]) rfl rfl (rest := []) rfl (wt := 0) (Nat.le_of_eq rfl) (by decide) (by decide) (by decide) (by decide) ?_
            rintro v24 T24 h24 W24 z24 ⟨rfl, rfl⟩
            have hsym : (if con c2 = con pa ∧ con d2 = con pb then (1 : Int32) else 0) = (if con pa = con c2 ∧ con pb = con d2 then 1 else 0) := by simp only [eq_comm]
            rw [hsym, ← hex]
            show Go p e below _ T24 (mkF m 184 #[.val (.int pa), .val (.int pb), .val (.int pc), .val (.int pd), .val (.int pe), .val (.int c2), .val (.int d2), .val (.ref b1), .val (.int (pe &&& (3 : Int32))), .val (.ref b8), .val (.int (1 : Int32))] [(.int (1 : Int32))])
            refine s_iload W24 at_184 rfl (pc' := 186) rfl ?_
            refine s_icmpne W24 at_186 (by decide) (pc1 := 193) (by decide) (pc2 := 189) rfl (fun q => (q rfl).elim) ?_
            intro q186
            refine s_iconst W24 at_189 (v := (1 : Int32)) (by decide) (pc' := 190) rfl ?_
            refine s_goto W24 at_190 (by decide) (pc' := 194) (by decide) ?_
            exact gRetN W24 hret (by simp) at_194 (by decide) (by decide) rfl
      · intro q90
        refine gLdcS W7 (w_74 hw) (wS hw) (List.mem_of_getElem? (i := 0) rfl) (vs := [(.int (120 : Int32))]) (z := (1 : Int32)) ⟨by decide +kernel, by decide +kernel⟩ (by decide) (by decide) at_93 (pc' := 95) rfl (nn := 4) (by decide) (by decide) (by decide) (by decide) ?_
        intro T25 h25 s25 d25 k25 W25 E25 A25 C25 F25 V25 N25
        have z25 : h7.size ≤ h25.size := E25.1
        have lt_s25 := natlt A25.lt
        have lt_d25 := natlt V25.lt
        have Xx' := Xx.ext E25
        refine s_astore W25 at_95 rfl (l' := #[.val (.int pa), .val (.int pb), .val (.int pc), .val (.int pd), .val (.int pe), .val (.int c2), .val (.int d2), .val (.ref b1), .val (.int (pe &&& (3 : Int32))), .val (.ref s25), .unset]) rfl (pc' := 97) rfl ?_
        refine s_aload W25 at_97 rfl rfl (pc' := 99) rfl ?_
        refine s_aload W25 at_99 rfl rfl (pc' := 101) rfl ?_
        refine gVirtual W25 Xx'.1 (w_57 hw) (w_58 hw) (fun s hZ => notFace_of_selects (args := #[]) (mv hZ (w_60 hw))) (w_60 hw) (w_59 hw) (w_2 hw) (w_61 hw) (by decide) pd_5 (ct_xeqS hw hEL [] b1 s25 h25 A25) (by simp) at_101 (pc' := 104) rfl rfl (argsL := [(.ref s25)]) rfl rfl (rest := []) rfl (wt := 0) (Nat.le_of_eq rfl) (by decide) (by decide) (by decide) (by decide) ?_
        rintro v26 T26 h26 W26 z26 ⟨rfl, rfl⟩
        show Go p e below _ T26 (mkF m 104 #[.val (.int pa), .val (.int pb), .val (.int pc), .val (.int pd), .val (.int pe), .val (.int c2), .val (.int d2), .val (.ref b1), .val (.int (pe &&& (3 : Int32))), .val (.ref s25), .unset] [(.int 0)])
        refine s_ifne W26 at_104 (by decide) (pc1 := 111) (by decide) (pc2 := 107) rfl (fun q => (q rfl).elim) ?_
        intro q104
        refine s_iconst W26 at_107 (v := (1 : Int32)) (by decide) (pc' := 108) rfl ?_
        refine s_goto W26 at_108 (by decide) (pc' := 112) (by decide) ?_
        exact gRetN W26 hret (by simp) at_112 (by decide) (by decide) rfl
    · intro q69
      refine s_aload W7 at_72 rfl rfl (pc' := 74) rfl ?_
      refine s_aconst_null W7 at_74 (pc' := 75) rfl ?_
      refine gVirtual W7 Xx.1 (w_57 hw) (w_58 hw) (fun s hZ => notFace_of_selects (args := #[]) (mv hZ (w_60 hw))) (w_60 hw) (w_59 hw) (w_2 hw) (w_61 hw) (by decide) pd_5 (ct_xeqN hw hEL [] b1 h7) (by simp) at_75 (pc' := 78) rfl rfl (argsL := [.null]) rfl rfl (rest := []) rfl (wt := 0) (Nat.le_of_eq rfl) (by decide) (by decide) (by decide) (by decide) ?_
      rintro v27 T27 h27 W27 z27 ⟨rfl, rfl⟩
      show Go p e below _ T27 (mkF m 78 #[.val (.int pa), .val (.int pb), .val (.int pc), .val (.int pd), .val (.int pe), .val (.int c2), .val (.int d2), .val (.ref b1), .val (.int (pe &&& (3 : Int32))), .unset, .unset] [(.int 0)])
      refine s_ifne W27 at_78 (by decide) (pc1 := 85) (by decide) (pc2 := 81) rfl (fun q => (q rfl).elim) ?_
      intro q78
      refine s_iconst W27 at_81 (v := (1 : Int32)) (by decide) (pc' := 82) rfl ?_
      refine s_goto W27 at_82 (by decide) (pc' := 86) (by decide) ?_
      exact gRetN W27 hret (by simp) at_86 (by decide) (by decide) rfl
  · intro q55
    refine s_aload W7 at_58 rfl rfl (pc' := 60) rfl ?_
    refine s_aload W7 at_60 rfl rfl (pc' := 62) rfl ?_
    refine gVirtual W7 Xx.1 (w_57 hw) (w_58 hw) (fun s hZ => notFace_of_selects (args := #[]) (mv hZ (w_60 hw))) (w_60 hw) (w_59 hw) (w_2 hw) (w_61 hw) (by decide) pd_5 (ct_xeqX hw hEL [] b1 b1 (con pa) (con pb) (con pa) (con pb) ccs h7 Xx Xx SCS hccs) (by simp) at_62 (pc' := 65) rfl rfl (argsL := [(.ref b1)]) rfl rfl (rest := []) rfl (wt := 0) (Nat.le_of_eq rfl) (by decide) (by decide) (by decide) (by decide) ?_
    rintro v28 T28 h28 W28 z28 ⟨rfl, rfl⟩
    show Go p e below _ T28 (mkF m 65 #[.val (.int pa), .val (.int pb), .val (.int pc), .val (.int pd), .val (.int pe), .val (.int c2), .val (.int d2), .val (.ref b1), .val (.int (pe &&& (3 : Int32))), .unset, .unset] [(.int (if con pa = con pa ∧ con pb = con pb then 1 else 0))])
    exact gRetN W28 hret (by simp) at_65 (by decide) (by decide) (by show some (Value.int (nar .boolean (if con pa = con pa ∧ con pb = con pb then 1 else 0))) = some (.int 1); rw [if_pos ⟨rfl, rfl⟩]; rfl)
set_option maxRecDepth 65536 in
set_option maxHeartbeats 40000000 in
theorem comes_1 {Post : Tables → Env → Array Value → State → Outcome → State → Prop} (hpost : ∀ tb e args s v u, (limb_1_1.after args s (.returned v) u = true ∧ limb_1_2.after args s (.returned v) u = true ∧ True) → Jvm.D.FramedW s (.returned v) u (Jvm.fieldLocs frame_1_writes args s ++ Jvm.arrayLocs frame_1_arrays args s ++ Jvm.staticLocs frame_1_statics s) 40 2240 → Post tb e args s (.returned v) u) :
    ArmFor flags0 classFile x code maxLocals ret World_1 tables_1 room_1 Calls_1 rest_1 Pre_1 Post := by
  intro l hfl _ _ p e ha hc hk s m args below hf hA hF happ hP
  obtain ⟨hcalls, hrest, hpre⟩ := hP
  obtain ⟨-, -, -, hnamed, -, -, -, hat⟩ := (Spec.applies_iff hf).mp happ
  obtain ⟨hg, hn⟩ := and_e (Cond.before_iff.mp (show (Jvm.Cond.and given_1 narrow_1).before args s = true from hpre))
  obtain ⟨h1, g0⟩ := and_e hg
  obtain ⟨a0, g1⟩ := and_e g0
  obtain ⟨a1, g2⟩ := and_e g1
  obtain ⟨a2, g3⟩ := and_e g2
  obtain ⟨a3, g4⟩ := and_e g3
  have a4 := g4
  obtain ⟨u0, u1, u2, u3, u4, rfl⟩ : ∃ u0 u1 u2 u3 u4 : Value, args = #[u0, u1, u2, u3, u4] := by
    have hs : args.size = 5 := by simpa [Cond.value, given_1] using h1
    obtain ⟨L⟩ := args
    match L, hs with
    | [u0, u1, u2, u3, u4], _ => exact ⟨u0, u1, u2, u3, u4, rfl⟩
  have hw := fun d (hd : d ∈ tables_1) => atoms_spec (ws := Jvm.Cond.code x code maxLocals ret :: tables_1) hat d (List.mem_cons_of_mem _ hd)
  obtain ⟨hsets, hown0⟩ := atoms_of _ (rest_1_c_eq ▸ (show rest_1_c.before _ s = true from hrest))
  have hfit : Fit s := fun {y c} hc i hi => by
    obtain ⟨ha, rfl⟩ := Array.getElem?_eq_some_iff.mp hc
    have q := List.all_eq_true.mp ((Array.all_eq_true_iff_forall_mem.mp hF) _ (Array.getElem_mem ha)) i (List.mem_range.mpr hi)
    simpa [Array.getElem?_eq_getElem hi] using q
  obtain ⟨pa, e_pa⟩ := is_v a0
  obtain rfl : u0 = (.int pa) := Option.some.inj e_pa
  obtain ⟨pb, e_pb⟩ := is_v a1
  obtain rfl : u1 = (.int pb) := Option.some.inj e_pb
  obtain ⟨pc, e_pc⟩ := is_v a2
  obtain rfl : u2 = (.int pc) := Option.some.inj e_pc
  obtain ⟨pd, e_pd⟩ := is_v a3
  obtain rfl : u3 = (.int pd) := Option.some.inj e_pd
  obtain ⟨pe, e_pe⟩ := is_v a4
  obtain rfl : u4 = (.int pe) := Option.some.inj e_pe
  have ncs := not_v (Cond.before_iff.mp (hsets _ (List.mem_of_getElem? (i := 2) rfl)))
  obtain ⟨ccs, ecs⟩ := is_v (Cond.before_iff.mp (hsets _ (List.mem_of_getElem? (i := 1) rfl)))
  have SCS : Sta s s.heap "java/lang/String" "COMPACT_STRINGS" "Z" (.int ccs) := Sta.start ecs (Or.inl (hsets _ (List.mem_of_getElem? (i := 0) rfl)))
  have hccs : ¬ (ccs = (0 : Int32)) := gotF (Cond.eq_ints ecs (Term.int_eval (0))) ncs
  have hEL : EW s #[(.int pa), (.int pb), (.int pc), (.int pd), (.int pe)] EL0 := (EW.cons (w_74 hw) (by decide +kernel) (EW.cons (w_50 hw) (by decide +kernel) EW.nil))
  have hCH : CHv s EL0 s.vm s.heap := CHv.start hEL (fun p hp => hcalls.1 p hp) (hsets _ (List.mem_of_getElem? (i := 2) rfl)) (w_26 hw) (w_9 hw)
  obtain ⟨n, o, h1, h2, h3, v, L, rfl, hQ, N, hC, hwd, hOl, hq⟩ := ct_law (l := l) (n0 := s.heap.size) hw hEL tables_1 pa pb pc pd pe ccs s.heap SCS hccs p e ha hc hk s m _ below hf ((Spec.applies_iff_loose hf).mp happ).1 ⟨rfl, State.Warmed39.refl s, rfl, hCH, Old.start s, fun x hx => by cases hx⟩ (fun q => by cases q)
  obtain rfl : v = some (.int 1) := hQ
  refine ⟨n, _, h1, h2, h3, hpost _ _ _ _ _ _ ⟨Cond.after_iff.mpr rfl, Cond.after_iff.mpr (eq_i res_at (Term.int_eval (1)) rfl), trivial⟩ ⟨hq.1, hq.2.1, hq.2.2.1, (hq.2.2.2.sift fun y hy => Or.inr (N y hy)).mono (by decide) (by decide)⟩⟩
theorem main_1_1 : Claimed_1_1 := comes_1 fun _ _ _ _ _ _ h hF => ⟨h.1, hF⟩
theorem main_1_2 : Claimed_1_2 := comes_1 fun _ _ _ _ _ _ h hF => ⟨h.2.1, hF⟩
end Jvm.Pilot.@@N@@
namespace Jvm.Pilot.@@N@@
open Jvm Jvm.ClassFile Sem Op Lib Jvm.Free Jvm.Stand Jvm.Pilot.@@N@@.Jvm.D
/-! MADE BY PROGRAM (witnessworld.py) out of the Statement's table words and the real class files: 22 classes; the members and pool entries that the words name. The judged class is class 1, her method 3. -/
namespace start1
open Jvm.ClassFile
def u (s : String) : CpInfo := .utf8 (stringToUtf16 s)
/-- a pool by its gaps: so many unusable entries, then the entry; so many at the end -/
def gap : Nat → List CpInfo → List CpInfo
  | 0, r => r
  | n + 1, r => .unusable :: gap n r
def poolList (es : List (Nat × CpInfo)) (last : Nat) : List CpInfo := es.foldr (fun e r => gap e.1 (e.2 :: r)) (gap last [])
def pool (es : List (Nat × CpInfo)) (last : Nat) : Array CpInfo := ⟨poolList es last⟩
def fileOf (pool : Array CpInfo) (this : Nat) (attrs : Array Attribute := #[]) (ms : Array MethodInfo := #[]) (fl : Nat := 33) (sup : Nat := 0) (ifs : Array Nat := #[]) (fds : Array FieldInfo := #[]) : ClassFile where
  minorVersion := 0
  majorVersion := 65
  constantPool := pool
  accessFlags := fl
  thisClass := this
  superClass := sup
  interfaces := ifs
  fields := fds
  methods := ms
  attributes := attrs
def plain (name : String) (sup : Option ClassId) : Class where
  name := name
  kind := .ordinary
  loader := none
  accessFlags := 33
  super := sup
  interfaces := #[]
  cf := none
  fields := #[]
  methods := #[]
  instanceTypes := #[]
  staticTypes := #[]
  resolved := #[]
  callSites := []
  init := .initialized
  statics := none
  mirror := none

def pool0 : Array CpInfo := pool [(5, u "<init>"), (0, u "()V"), (1, .class_ 10), (1, u "java/lang/Object"), (81, u "equals"), (0, u "(Ljava/lang/Object;)Z")] 30

def k0c0 : Code := { maxStack := 0, maxLocals := 1, code := object_method_1_code, exceptionTable := #[], attributes := #[] }
def k0m0 : Method := { name := "<init>", desc := "()V", sig := { parameters := [], returnType := none }, accessFlags := 1, code := some k0c0 }
def k0c1 : Code := { maxStack := 2, maxLocals := 2, code := ⟨#[0x2a, 0x2b, 0xa6, 0x00, 0x07, 0x04, 0xa7, 0x00, 0x04, 0x03, 0xac]⟩, exceptionTable := #[], attributes := #[] }
def k0m1 : Method := { name := "equals", desc := "(Ljava/lang/Object;)Z", sig := { parameters := [(.object "java/lang/Object")], returnType := some .boolean }, accessFlags := 1, code := some k0c1 }
/-- java/lang/Object -/
def k0 : Class := { plain "java/lang/Object" none with
  accessFlags := 33
  interfaces := #[]
  cf := some (fileOf pool0 8 #[] #[{ accessFlags := 1, nameIndex := 5, descriptorIndex := 6, attributes := #[] }, { accessFlags := 1, nameIndex := 92, descriptorIndex := 93, attributes := #[] }] 33 0 #[] #[])
  fields := #[]
  methods := #[k0m0, k0m1]
  instanceTypes := #[]
  staticTypes := #[]
  resolved := Array.replicate 124 none
  statics := none }

def pool1 : Array CpInfo := pool [(2, .class_ 4), (1, u "java/lang/Object"), (0, u "<init>"), (0, u "()V"), (0, .class_ 8), (0, u "java/lang/String"), (0, .methodref 7 10), (0, .nameAndType 5 11), (0, u "([C)V"), (0, .long 18446744073709551615), (1, .long 2), (1, .class_ 17), (0, u "com/example/trifold/trifold/model/XmiIdentity"), (0, .methodref 19 20), (0, .class_ 21), (0, .nameAndType 22 23), (0, u "com/example/trifold/trifold/model/XmiIdentityEqualsPinLaw"), (0, u "mk"), (0, u "(I)Ljava/lang/String;"), (0, .methodref 16 25), (0, .nameAndType 5 26), (0, u "(Ljava/lang/String;Ljava/lang/String;)V"), (0, .methodref 16 28), (0, .nameAndType 29 30), (0, u "equals"), (0, u "(Ljava/lang/Object;)Z"), (0, .string 32), (0, u "x"), (0, .methodref 19 34), (0, .nameAndType 35 36), (0, u "canon"), (0, u "(I)J"), (3, u "law"), (0, u "(IIIII)Z")] 2

def k1m0 : Method := { name := "<init>", desc := "()V", sig := { parameters := [], returnType := none }, accessFlags := 2, code := none }
def k1c1 : Code := { maxStack := 4, maxLocals := 3, code := method_2_code, exceptionTable := #[], attributes := #[] }
def k1m1 : Method := { name := "mk", desc := "(I)Ljava/lang/String;", sig := { parameters := [.int], returnType := some (.object "java/lang/String") }, accessFlags := 10, code := some k1c1 }
def k1c2 : Code := { maxStack := 5, maxLocals := 6, code := method_3_code, exceptionTable := #[], attributes := #[] }
def k1m2 : Method := { name := "canon", desc := "(I)J", sig := { parameters := [.int], returnType := some .long }, accessFlags := 10, code := some k1c2 }
def k1c3 : Code := { maxStack := 4, maxLocals := 11, code := code, exceptionTable := #[], attributes := #[] }
def k1m3 : Method := { name := "law", desc := "(IIIII)Z", sig := { parameters := [.int, .int, .int, .int, .int], returnType := some .boolean }, accessFlags := 9, code := some k1c3 }
/-- com/example/trifold/trifold/model/XmiIdentityEqualsPinLaw -/
def k1 : Class := { plain "com/example/trifold/trifold/model/XmiIdentityEqualsPinLaw" (some 0) with
  accessFlags := 49
  interfaces := #[]
  cf := some (fileOf pool1 19 #[] #[{ accessFlags := 2, nameIndex := 5, descriptorIndex := 6, attributes := #[] }, { accessFlags := 10, nameIndex := 22, descriptorIndex := 23, attributes := #[] }, { accessFlags := 10, nameIndex := 35, descriptorIndex := 36, attributes := #[] }, { accessFlags := 9, nameIndex := 40, descriptorIndex := 41, attributes := #[] }] 49 2 #[] #[])
  fields := #[]
  methods := #[k1m0, k1m1, k1m2, k1m3]
  instanceTypes := #[]
  staticTypes := #[]
  resolved := Array.replicate 44 none
  statics := none }

def pool2 : Array CpInfo := pool [(1, .methodref 2 3), (0, .class_ 4), (0, .nameAndType 5 6), (0, u "java/lang/Object"), (0, u "<init>"), (0, u "()V"), (0, .class_ 8), (0, u "java/lang/Record")] 13

def k2c0 : Code := { maxStack := 1, maxLocals := 1, code := jdk_30_method_1_code, exceptionTable := #[], attributes := #[] }
def k2m0 : Method := { name := "<init>", desc := "()V", sig := { parameters := [], returnType := none }, accessFlags := 4, code := some k2c0 }
/-- java/lang/Record -/
def k2 : Class := { plain "java/lang/Record" (some 0) with
  accessFlags := 1057
  interfaces := #[]
  cf := some (fileOf pool2 7 #[] #[{ accessFlags := 4, nameIndex := 5, descriptorIndex := 6, attributes := #[] }] 1057 2 #[] #[])
  fields := #[]
  methods := #[k2m0]
  instanceTypes := #[]
  staticTypes := #[]
  resolved := Array.replicate 22 none
  statics := none }

def pool3 : Array CpInfo := pool [(1, .methodref 2 3), (0, .class_ 4), (0, .nameAndType 5 6), (0, u "java/lang/Record"), (0, u "<init>"), (0, u "()V"), (0, .fieldref 8 9), (0, .class_ 10), (0, .nameAndType 11 12), (0, u "com/example/trifold/trifold/model/XmiIdentity"), (0, u "id"), (0, u "Ljava/lang/String;"), (0, .fieldref 8 14), (0, .nameAndType 15 12), (0, u "uuid"), (0, .methodref 17 18), (0, .class_ 19), (0, .nameAndType 20 21), (0, u "java/util/Objects"), (0, u "equals"), (0, u "(Ljava/lang/Object;Ljava/lang/Object;)Z"), (10, u "(Ljava/lang/String;Ljava/lang/String;)V"), (3, u "(Ljava/lang/Object;)Z")] 25

def k3c0 : Code := { maxStack := 2, maxLocals := 3, code := prog_14_method_1_code, exceptionTable := #[], attributes := #[] }
def k3m0 : Method := { name := "<init>", desc := "(Ljava/lang/String;Ljava/lang/String;)V", sig := { parameters := [(.object "java/lang/String"), (.object "java/lang/String")], returnType := none }, accessFlags := 1, code := some k3c0 }
def k3c1 : Code := { maxStack := 2, maxLocals := 3, code := prog_14_method_2_code, exceptionTable := #[], attributes := #[] }
def k3m1 : Method := { name := "equals", desc := "(Ljava/lang/Object;)Z", sig := { parameters := [(.object "java/lang/Object")], returnType := some .boolean }, accessFlags := 1, code := some k3c1 }
/-- com/example/trifold/trifold/model/XmiIdentity -/
def k3 : Class := { plain "com/example/trifold/trifold/model/XmiIdentity" (some 2) with
  accessFlags := 49
  interfaces := #[]
  cf := some (fileOf pool3 8 #[] #[{ accessFlags := 1, nameIndex := 5, descriptorIndex := 32, attributes := #[] }, { accessFlags := 1, nameIndex := 20, descriptorIndex := 36, attributes := #[] }] 49 2 #[] #[{ accessFlags := 18, nameIndex := 11, descriptorIndex := 12, attributes := #[] }, { accessFlags := 18, nameIndex := 15, descriptorIndex := 12, attributes := #[] }])
  fields := #[{ name := "id", type := (.object "java/lang/String"), accessFlags := 18, slot := 0, constantValue := 0 }, { name := "uuid", type := (.object "java/lang/String"), accessFlags := 18, slot := 1, constantValue := 0 }]
  methods := #[k3m0, k3m1]
  instanceTypes := #[(.object "java/lang/String"), (.object "java/lang/String")]
  staticTypes := #[]
  resolved := Array.replicate 62 none
  statics := none }

def pool4 : Array CpInfo := pool [(1, .class_ 2), (0, u "java/io/Serializable"), (0, .class_ 4), (0, u "java/lang/Object")] 2

/-- java/io/Serializable -/
def k4 : Class := { plain "java/io/Serializable" (some 0) with
  accessFlags := 1537
  interfaces := #[]
  cf := some (fileOf pool4 1 #[] #[] 1537 3 #[] #[])
  fields := #[]
  methods := #[]
  instanceTypes := #[]
  staticTypes := #[]
  resolved := Array.replicate 7 none
  statics := none }

def pool5 : Array CpInfo := pool [(1, .class_ 2), (0, u "java/lang/Comparable"), (0, .class_ 4), (0, u "java/lang/Object")] 7

/-- java/lang/Comparable -/
def k5 : Class := { plain "java/lang/Comparable" (some 0) with
  accessFlags := 1537
  interfaces := #[]
  cf := some (fileOf pool5 1 #[] #[] 1537 3 #[] #[])
  fields := #[]
  methods := #[]
  instanceTypes := #[]
  staticTypes := #[]
  resolved := Array.replicate 12 none
  statics := none }

def pool6 : Array CpInfo := pool [(2, .class_ 4), (1, u "java/lang/CharSequence"), (42, .class_ 48), (0, u "java/lang/CharSequence$1CodePointIterator"), (10, .class_ 60), (0, u "java/lang/CharSequence$1CharIterator"), (5, .class_ 67), (0, u "java/lang/Object")] 63

/-- java/lang/CharSequence -/
def k6 : Class := { plain "java/lang/CharSequence" (some 0) with
  accessFlags := 1537
  interfaces := #[]
  cf := some (fileOf pool6 2 #[.nestMembers #[47, 59]] #[] 1537 66 #[] #[])
  fields := #[]
  methods := #[]
  instanceTypes := #[]
  staticTypes := #[]
  resolved := Array.replicate 131 none
  statics := none }

def pool7 : Array CpInfo := pool [(1, .class_ 2), (0, u "java/lang/constant/Constable"), (0, .class_ 4), (0, u "java/lang/Object")] 6

/-- java/lang/constant/Constable -/
def k7 : Class := { plain "java/lang/constant/Constable" (some 0) with
  accessFlags := 1537
  interfaces := #[]
  cf := some (fileOf pool7 1 #[] #[] 1537 3 #[] #[])
  fields := #[]
  methods := #[]
  instanceTypes := #[]
  staticTypes := #[]
  resolved := Array.replicate 11 none
  statics := none }

def pool8 : Array CpInfo := pool [(1, .class_ 2), (0, u "java/lang/constant/ConstantDesc"), (0, .class_ 4), (0, u "java/lang/Object")] 32

/-- java/lang/constant/ConstantDesc -/
def k8 : Class := { plain "java/lang/constant/ConstantDesc" (some 0) with
  accessFlags := 1537
  interfaces := #[]
  cf := some (fileOf pool8 1 #[] #[] 1537 3 #[] #[])
  fields := #[]
  methods := #[]
  instanceTypes := #[]
  staticTypes := #[]
  resolved := Array.replicate 37 none
  statics := none }

def pool9 : Array CpInfo := pool [(1, .methodref 2 3), (0, .class_ 4), (0, .nameAndType 5 6), (0, u "java/lang/Object"), (0, u "<init>"), (0, u "()V"), (0, .string 8), (0, u ""), (0, .fieldref 10 11), (0, .class_ 12), (0, .nameAndType 13 14), (0, u "java/lang/String"), (0, u "value"), (0, u "[B"), (0, .fieldref 10 16), (0, .nameAndType 17 18), (0, u "coder"), (0, u "B"), (2, u "hash"), (0, u "I"), (2, u "hashIsZero"), (0, u "Z"), (0, .methodref 10 28), (0, .nameAndType 5 29), (0, u "([CIILjava/lang/Void;)V"), (8, .fieldref 10 39), (0, .nameAndType 40 26), (0, u "COMPACT_STRINGS"), (1, .class_ 44), (1, u "java/lang/StringUTF16"), (0, u "compress"), (1, .methodref 42 48), (0, .nameAndType 49 50), (0, u "coderFromArrayLen"), (0, u "([BI)B"), (56, .class_ 109), (1, u "java/lang/StringLatin1"), (67, .methodref 42 178), (0, .nameAndType 45 179), (0, u "([CII)[B"), (361, .methodref 107 542), (0, .nameAndType 543 544), (0, u "equals"), (0, u "([B[B)Z"), (28, u "(Ljava/lang/Object;)Z"), (1, .class_ 576), (0, u "java/lang/CharSequence"), (22, u "CASE_INSENSITIVE_ORDER"), (0, u "Ljava/util/Comparator;"), (409, u "([C)V"), (90, u "serialPersistentFields"), (0, u "[Ljava/io/ObjectStreamField;"), (0, .class_ 1104), (0, u "java/lang/String$CaseInsensitiveComparator"), (1, .class_ 1107), (0, u "java/io/Serializable"), (0, .class_ 1109), (0, u "java/lang/Comparable"), (0, .class_ 1111), (0, u "java/lang/constant/Constable"), (0, .class_ 1113), (0, u "java/lang/constant/ConstantDesc"), (2, u "serialVersionUID"), (0, u "J"), (3, u "REPL"), (0, u "C"), (2, u "LATIN1"), (1, u "UTF16")] 323

def k9m0 : Method := { name := "<init>", desc := "()V", sig := { parameters := [], returnType := none }, accessFlags := 1, code := none }
def k9c1 : Code := { maxStack := 5, maxLocals := 2, code := jdk_42_method_3_code, exceptionTable := #[], attributes := #[] }
def k9m1 : Method := { name := "<init>", desc := "([C)V", sig := { parameters := [(.array .char)], returnType := none }, accessFlags := 1, code := some k9c1 }
def k9c2 : Code := { maxStack := 2, maxLocals := 3, code := jdk_42_method_66_code, exceptionTable := #[], attributes := #[] }
def k9m2 : Method := { name := "equals", desc := "(Ljava/lang/Object;)Z", sig := { parameters := [(.object "java/lang/Object")], returnType := some .boolean }, accessFlags := 1, code := some k9c2 }
def k9c3 : Code := { maxStack := 4, maxLocals := 6, code := jdk_42_method_149_code, exceptionTable := #[], attributes := #[] }
def k9m3 : Method := { name := "<init>", desc := "([CIILjava/lang/Void;)V", sig := { parameters := [(.array .char), .int, .int, (.object "java/lang/Void")], returnType := none }, accessFlags := 2, code := some k9c3 }
/-- java/lang/String -/
def k9 : Class := { plain "java/lang/String" (some 0) with
  accessFlags := 49
  interfaces := #[4, 5, 6, 7, 8]
  cf := some (fileOf pool9 10 #[.nestMembers #[1103]] #[{ accessFlags := 1, nameIndex := 5, descriptorIndex := 6, attributes := #[] }, { accessFlags := 1, nameIndex := 5, descriptorIndex := 1010, attributes := #[] }, { accessFlags := 1, nameIndex := 543, descriptorIndex := 573, attributes := #[] }, { accessFlags := 2, nameIndex := 5, descriptorIndex := 29, attributes := #[] }] 49 2 #[1106, 1108, 575, 1110, 1112] #[{ accessFlags := 18, nameIndex := 13, descriptorIndex := 14, attributes := #[] }, { accessFlags := 18, nameIndex := 17, descriptorIndex := 18, attributes := #[] }, { accessFlags := 2, nameIndex := 21, descriptorIndex := 22, attributes := #[] }, { accessFlags := 2, nameIndex := 25, descriptorIndex := 26, attributes := #[] }, { accessFlags := 26, nameIndex := 1116, descriptorIndex := 1117, attributes := #[] }, { accessFlags := 24, nameIndex := 40, descriptorIndex := 26, attributes := #[] }, { accessFlags := 26, nameIndex := 1101, descriptorIndex := 1102, attributes := #[] }, { accessFlags := 26, nameIndex := 1121, descriptorIndex := 1122, attributes := #[] }, { accessFlags := 25, nameIndex := 599, descriptorIndex := 600, attributes := #[] }, { accessFlags := 24, nameIndex := 1125, descriptorIndex := 18, attributes := #[] }, { accessFlags := 24, nameIndex := 1127, descriptorIndex := 18, attributes := #[] }])
  fields := #[{ name := "value", type := (.array .byte), accessFlags := 18, slot := 0, constantValue := 0 }, { name := "coder", type := .byte, accessFlags := 18, slot := 1, constantValue := 0 }, { name := "hash", type := .int, accessFlags := 2, slot := 2, constantValue := 0 }, { name := "hashIsZero", type := .boolean, accessFlags := 2, slot := 3, constantValue := 0 }, { name := "serialVersionUID", type := .long, accessFlags := 26, slot := 0, constantValue := 0 }, { name := "COMPACT_STRINGS", type := .boolean, accessFlags := 24, slot := 1, constantValue := 0 }, { name := "serialPersistentFields", type := (.array (.object "java/io/ObjectStreamField")), accessFlags := 26, slot := 2, constantValue := 0 }, { name := "REPL", type := .char, accessFlags := 26, slot := 3, constantValue := 0 }, { name := "CASE_INSENSITIVE_ORDER", type := (.object "java/util/Comparator"), accessFlags := 25, slot := 4, constantValue := 0 }, { name := "LATIN1", type := .byte, accessFlags := 24, slot := 5, constantValue := 0 }, { name := "UTF16", type := .byte, accessFlags := 24, slot := 6, constantValue := 0 }]
  methods := #[k9m0, k9m1, k9m2, k9m3]
  instanceTypes := #[(.array .byte), .byte, .int, .boolean]
  staticTypes := #[.long, .boolean, (.array (.object "java/io/ObjectStreamField")), .char, (.object "java/util/Comparator"), .byte, .byte]
  resolved := Array.replicate 1451 none
  statics := some 0 }

def pool10 : Array CpInfo := pool [(6, .class_ 8), (1, u "java/lang/Object"), (0, u "<init>"), (0, u "()V"), (1, .class_ 14), (1, u "java/lang/StringUTF16"), (31, u "$assertionsDisabled"), (0, u "Z"), (13, u "HI_BYTE_SHIFT"), (0, u "I"), (2, u "LO_BYTE_SHIFT"), (49, .methodref 12 116), (0, .nameAndType 117 118), (0, u "compress"), (0, u "([CI[BII)I"), (3, u "([CII)[B"), (138, u "coderFromArrayLen"), (0, u "([BI)B"), (106, .class_ 371), (1, u "java/lang/StringUTF16$LinesSpliterator"), (58, u "MAX_LENGTH"), (196, .class_ 628), (0, u "java/lang/StringUTF16$CodePointsSpliterator"), (0, .class_ 630), (0, u "java/lang/StringUTF16$CharsSpliterator")] 4

def k10m0 : Method := { name := "<init>", desc := "()V", sig := { parameters := [], returnType := none }, accessFlags := 0, code := none }
def k10c1 : Code := { maxStack := 2, maxLocals := 2, code := jdk_52_method_15_code, exceptionTable := #[], attributes := #[] }
def k10m1 : Method := { name := "coderFromArrayLen", desc := "([BI)B", sig := { parameters := [(.array .byte), .int], returnType := some .byte }, accessFlags := 8, code := some k10c1 }
def k10c2 : Code := { maxStack := 5, maxLocals := 6, code := jdk_52_method_16_code, exceptionTable := #[], attributes := #[] }
def k10m2 : Method := { name := "compress", desc := "([CII)[B", sig := { parameters := [(.array .char), .int, .int], returnType := some (.array .byte) }, accessFlags := 9, code := some k10c2 }
def k10c3 : Code := { maxStack := 3, maxLocals := 7, code := jdk_52_method_21_code, exceptionTable := #[], attributes := #[] }
def k10m3 : Method := { name := "compress", desc := "([CI[BII)I", sig := { parameters := [(.array .char), .int, (.array .byte), .int, .int], returnType := some .int }, accessFlags := 9, code := some k10c3 }
/-- java/lang/StringUTF16 -/
def k10 : Class := { plain "java/lang/StringUTF16" (some 0) with
  accessFlags := 48
  interfaces := #[]
  cf := some (fileOf pool10 12 #[.nestMembers #[627, 629, 369]] #[{ accessFlags := 0, nameIndex := 9, descriptorIndex := 10, attributes := #[] }, { accessFlags := 8, nameIndex := 261, descriptorIndex := 262, attributes := #[] }, { accessFlags := 9, nameIndex := 117, descriptorIndex := 122, attributes := #[] }, { accessFlags := 9, nameIndex := 117, descriptorIndex := 118, attributes := #[] }] 48 6 #[] #[{ accessFlags := 26, nameIndex := 61, descriptorIndex := 62, attributes := #[] }, { accessFlags := 26, nameIndex := 65, descriptorIndex := 62, attributes := #[] }, { accessFlags := 24, nameIndex := 430, descriptorIndex := 62, attributes := #[] }, { accessFlags := 4120, nameIndex := 46, descriptorIndex := 47, attributes := #[] }])
  fields := #[{ name := "HI_BYTE_SHIFT", type := .int, accessFlags := 26, slot := 0, constantValue := 0 }, { name := "LO_BYTE_SHIFT", type := .int, accessFlags := 26, slot := 1, constantValue := 0 }, { name := "MAX_LENGTH", type := .int, accessFlags := 24, slot := 2, constantValue := 0 }, { name := "$assertionsDisabled", type := .boolean, accessFlags := 4120, slot := 3, constantValue := 0 }]
  methods := #[k10m0, k10m1, k10m2, k10m3]
  instanceTypes := #[]
  staticTypes := #[.int, .int, .int, .boolean]
  resolved := Array.replicate 635 none
  statics := none }

def pool11 : Array CpInfo := pool [(2, .class_ 4), (1, u "java/lang/Object"), (0, u "<init>"), (0, u "()V"), (7, .methodref 2 15), (0, .nameAndType 16 17), (0, u "equals"), (0, u "(Ljava/lang/Object;)Z"), (5, u "(Ljava/lang/Object;Ljava/lang/Object;)Z"), (18, .class_ 44), (1, u "java/util/Objects")] 139

def k11m0 : Method := { name := "<init>", desc := "()V", sig := { parameters := [], returnType := none }, accessFlags := 2, code := none }
def k11c1 : Code := { maxStack := 2, maxLocals := 2, code := jdk_31_method_2_code, exceptionTable := #[], attributes := #[] }
def k11m1 : Method := { name := "equals", desc := "(Ljava/lang/Object;Ljava/lang/Object;)Z", sig := { parameters := [(.object "java/lang/Object"), (.object "java/lang/Object")], returnType := some .boolean }, accessFlags := 9, code := some k11c1 }
/-- java/util/Objects -/
def k11 : Class := { plain "java/util/Objects" (some 0) with
  accessFlags := 49
  interfaces := #[]
  cf := some (fileOf pool11 42 #[] #[{ accessFlags := 2, nameIndex := 5, descriptorIndex := 6, attributes := #[] }, { accessFlags := 9, nameIndex := 16, descriptorIndex := 23, attributes := #[] }] 49 2 #[] #[])
  fields := #[]
  methods := #[k11m0, k11m1]
  instanceTypes := #[]
  staticTypes := #[]
  resolved := Array.replicate 184 none
  statics := none }

def pool12 : Array CpInfo := pool [(4, .class_ 6), (1, u "java/lang/Object"), (0, u "<init>"), (0, u "()V"), (5, .class_ 16), (1, u "java/lang/StringLatin1"), (104, u "$assertionsDisabled"), (0, u "Z"), (98, .class_ 223), (1, u "java/lang/StringLatin1$LinesSpliterator"), (57, u "equals"), (0, u "([B[B)Z"), (107, .class_ 391), (0, u "java/lang/StringLatin1$CharsSpliterator")] 3

def k12m0 : Method := { name := "<init>", desc := "()V", sig := { parameters := [], returnType := none }, accessFlags := 0, code := none }
def k12c1 : Code := { maxStack := 3, maxLocals := 3, code := jdk_43_method_13_code, exceptionTable := #[], attributes := #[] }
def k12m1 : Method := { name := "equals", desc := "([B[B)Z", sig := { parameters := [(.array .byte), (.array .byte)], returnType := some .boolean }, accessFlags := 9, code := some k12c1 }
/-- java/lang/StringLatin1 -/
def k12 : Class := { plain "java/lang/StringLatin1" (some 0) with
  accessFlags := 48
  interfaces := #[]
  cf := some (fileOf pool12 14 #[.nestMembers #[390, 221]] #[{ accessFlags := 0, nameIndex := 7, descriptorIndex := 8, attributes := #[] }, { accessFlags := 9, nameIndex := 281, descriptorIndex := 282, attributes := #[] }] 48 4 #[] #[{ accessFlags := 4120, nameIndex := 121, descriptorIndex := 122, attributes := #[] }])
  fields := #[{ name := "$assertionsDisabled", type := .boolean, accessFlags := 4120, slot := 0, constantValue := 0 }]
  methods := #[k12m0, k12m1]
  instanceTypes := #[]
  staticTypes := #[.boolean]
  resolved := Array.replicate 395 none
  statics := none }

def pool13 : Array CpInfo := pool [(2, .class_ 4), (1, u "java/lang/Object"), (0, u "<init>"), (0, u "()V"), (17, .class_ 26), (1, u "jdk/internal/util/Preconditions"), (28, .class_ 56), (0, u "jdk/internal/util/Preconditions$4"), (57, .class_ 115), (0, u "jdk/internal/util/Preconditions$1"), (7, u "SIOOBE_FORMATTER"), (0, u "Ljava/util/function/BiFunction;"), (0, .class_ 126), (0, u "jdk/internal/util/Preconditions$2"), (3, u "AIOOBE_FORMATTER"), (0, .class_ 132), (0, u "jdk/internal/util/Preconditions$3"), (3, u "IOOBE_FORMATTER")] 57

def k13m0 : Method := { name := "<init>", desc := "()V", sig := { parameters := [], returnType := none }, accessFlags := 1, code := none }
/-- jdk/internal/util/Preconditions -/
def k13 : Class := { plain "jdk/internal/util/Preconditions" (some 0) with
  accessFlags := 33
  interfaces := #[]
  cf := some (fileOf pool13 24 #[.nestMembers #[55, 131, 125, 114]] #[{ accessFlags := 1, nameIndex := 5, descriptorIndex := 6, attributes := #[] }] 33 2 #[] #[{ accessFlags := 25, nameIndex := 123, descriptorIndex := 124, attributes := #[] }, { accessFlags := 25, nameIndex := 130, descriptorIndex := 124, attributes := #[] }, { accessFlags := 25, nameIndex := 136, descriptorIndex := 124, attributes := #[] }])
  fields := #[{ name := "SIOOBE_FORMATTER", type := (.object "java/util/function/BiFunction"), accessFlags := 25, slot := 0, constantValue := 0 }, { name := "AIOOBE_FORMATTER", type := (.object "java/util/function/BiFunction"), accessFlags := 25, slot := 1, constantValue := 0 }, { name := "IOOBE_FORMATTER", type := (.object "java/util/function/BiFunction"), accessFlags := 25, slot := 2, constantValue := 0 }]
  methods := #[k13m0]
  instanceTypes := #[]
  staticTypes := #[(.object "java/util/function/BiFunction"), (.object "java/util/function/BiFunction"), (.object "java/util/function/BiFunction")]
  resolved := Array.replicate 194 none
  statics := some 1 }

def pool14 : Array CpInfo := pool [(9, u "<init>"), (6, .class_ 18), (1, u "java/lang/Object"), (0, u "()V"), (1, .class_ 23), (1, u "jdk/internal/util/ArraysSupport"), (0, u "LOG2_ARRAY_LONG_INDEX_SCALE"), (0, u "I"), (2, u "U"), (0, u "Ljdk/internal/misc/Unsafe;"), (8, u "BIG_ENDIAN"), (0, u "Z"), (8, u "LOG2_BYTE_BIT_SIZE"), (4, u "LOG2_ARRAY_INT_INDEX_SCALE"), (54, u "JLA"), (0, u "Ljdk/internal/access/JavaLangAccess;"), (11, u "LOG2_ARRAY_BOOLEAN_INDEX_SCALE"), (9, u "LOG2_ARRAY_BYTE_INDEX_SCALE"), (5, u "LOG2_ARRAY_CHAR_INDEX_SCALE"), (5, u "LOG2_ARRAY_SHORT_INDEX_SCALE"), (18, u "LOG2_ARRAY_FLOAT_INDEX_SCALE"), (24, u "LOG2_ARRAY_DOUBLE_INDEX_SCALE"), (89, u "T_BOOLEAN"), (2, u "T_CHAR"), (1, u "T_FLOAT"), (1, u "T_DOUBLE"), (1, u "T_BYTE"), (1, u "T_SHORT"), (1, u "T_INT"), (1, u "T_LONG"), (1, u "SOFT_MAX_ARRAY_LENGTH")] 83

def k14m0 : Method := { name := "<init>", desc := "()V", sig := { parameters := [], returnType := none }, accessFlags := 2, code := none }
/-- jdk/internal/util/ArraysSupport -/
def k14 : Class := { plain "jdk/internal/util/ArraysSupport" (some 0) with
  accessFlags := 33
  interfaces := #[]
  cf := some (fileOf pool14 21 #[] #[{ accessFlags := 2, nameIndex := 9, descriptorIndex := 19, attributes := #[] }] 33 16 #[] #[{ accessFlags := 24, nameIndex := 28, descriptorIndex := 29, attributes := #[] }, { accessFlags := 26, nameIndex := 38, descriptorIndex := 39, attributes := #[] }, { accessFlags := 25, nameIndex := 121, descriptorIndex := 25, attributes := #[] }, { accessFlags := 25, nameIndex := 131, descriptorIndex := 25, attributes := #[] }, { accessFlags := 25, nameIndex := 137, descriptorIndex := 25, attributes := #[] }, { accessFlags := 25, nameIndex := 143, descriptorIndex := 25, attributes := #[] }, { accessFlags := 25, nameIndex := 53, descriptorIndex := 25, attributes := #[] }, { accessFlags := 25, nameIndex := 24, descriptorIndex := 25, attributes := #[] }, { accessFlags := 25, nameIndex := 162, descriptorIndex := 25, attributes := #[] }, { accessFlags := 25, nameIndex := 187, descriptorIndex := 25, attributes := #[] }, { accessFlags := 26, nameIndex := 48, descriptorIndex := 25, attributes := #[] }, { accessFlags := 25, nameIndex := 277, descriptorIndex := 25, attributes := #[] }, { accessFlags := 25, nameIndex := 280, descriptorIndex := 25, attributes := #[] }, { accessFlags := 25, nameIndex := 282, descriptorIndex := 25, attributes := #[] }, { accessFlags := 25, nameIndex := 284, descriptorIndex := 25, attributes := #[] }, { accessFlags := 25, nameIndex := 286, descriptorIndex := 25, attributes := #[] }, { accessFlags := 25, nameIndex := 288, descriptorIndex := 25, attributes := #[] }, { accessFlags := 25, nameIndex := 290, descriptorIndex := 25, attributes := #[] }, { accessFlags := 25, nameIndex := 292, descriptorIndex := 25, attributes := #[] }, { accessFlags := 26, nameIndex := 108, descriptorIndex := 109, attributes := #[] }, { accessFlags := 25, nameIndex := 294, descriptorIndex := 25, attributes := #[] }])
  fields := #[{ name := "U", type := (.object "jdk/internal/misc/Unsafe"), accessFlags := 24, slot := 0, constantValue := 0 }, { name := "BIG_ENDIAN", type := .boolean, accessFlags := 26, slot := 1, constantValue := 0 }, { name := "LOG2_ARRAY_BOOLEAN_INDEX_SCALE", type := .int, accessFlags := 25, slot := 2, constantValue := 0 }, { name := "LOG2_ARRAY_BYTE_INDEX_SCALE", type := .int, accessFlags := 25, slot := 3, constantValue := 0 }, { name := "LOG2_ARRAY_CHAR_INDEX_SCALE", type := .int, accessFlags := 25, slot := 4, constantValue := 0 }, { name := "LOG2_ARRAY_SHORT_INDEX_SCALE", type := .int, accessFlags := 25, slot := 5, constantValue := 0 }, { name := "LOG2_ARRAY_INT_INDEX_SCALE", type := .int, accessFlags := 25, slot := 6, constantValue := 0 }, { name := "LOG2_ARRAY_LONG_INDEX_SCALE", type := .int, accessFlags := 25, slot := 7, constantValue := 0 }, { name := "LOG2_ARRAY_FLOAT_INDEX_SCALE", type := .int, accessFlags := 25, slot := 8, constantValue := 0 }, { name := "LOG2_ARRAY_DOUBLE_INDEX_SCALE", type := .int, accessFlags := 25, slot := 9, constantValue := 0 }, { name := "LOG2_BYTE_BIT_SIZE", type := .int, accessFlags := 26, slot := 10, constantValue := 0 }, { name := "T_BOOLEAN", type := .int, accessFlags := 25, slot := 11, constantValue := 0 }, { name := "T_CHAR", type := .int, accessFlags := 25, slot := 12, constantValue := 0 }, { name := "T_FLOAT", type := .int, accessFlags := 25, slot := 13, constantValue := 0 }, { name := "T_DOUBLE", type := .int, accessFlags := 25, slot := 14, constantValue := 0 }, { name := "T_BYTE", type := .int, accessFlags := 25, slot := 15, constantValue := 0 }, { name := "T_SHORT", type := .int, accessFlags := 25, slot := 16, constantValue := 0 }, { name := "T_INT", type := .int, accessFlags := 25, slot := 17, constantValue := 0 }, { name := "T_LONG", type := .int, accessFlags := 25, slot := 18, constantValue := 0 }, { name := "JLA", type := (.object "jdk/internal/access/JavaLangAccess"), accessFlags := 26, slot := 19, constantValue := 0 }, { name := "SOFT_MAX_ARRAY_LENGTH", type := .int, accessFlags := 25, slot := 20, constantValue := 0 }]
  methods := #[k14m0]
  instanceTypes := #[]
  staticTypes := #[(.object "jdk/internal/misc/Unsafe"), .boolean, .int, .int, .int, .int, .int, .int, .int, .int, .int, .int, .int, .int, .int, .int, .int, .int, .int, (.object "jdk/internal/access/JavaLangAccess"), .int]
  resolved := Array.replicate 378 none
  statics := none }

def pool15 : Array CpInfo := pool [(1, u "java/lang/Cloneable"), (0, .class_ 1), (0, u "java/lang/Object"), (0, .class_ 3)] 3

/-- java/lang/Cloneable -/
def k15 : Class := { plain "java/lang/Cloneable" (some 0) with
  accessFlags := 1537
  interfaces := #[]
  cf := some (fileOf pool15 2 #[] #[] 1537 4 #[] #[])
  fields := #[]
  methods := #[]
  instanceTypes := #[]
  staticTypes := #[]
  resolved := Array.replicate 8 none
  statics := none }

/-- the primitive byte -/
def k16 : Class := { plain "byte" none with kind := .primitive 'B', accessFlags := 0x411 }
/-- [B -/
def k17 : Class := { plain "[B" (some 0) with kind := .array 16 .byte, interfaces := #[15, 4], accessFlags := 1041 }

/-- the primitive char -/
def k18 : Class := { plain "char" none with kind := .primitive 'C', accessFlags := 0x411 }
/-- [C -/
def k19 : Class := { plain "[C" (some 0) with kind := .array 18 .char, interfaces := #[15, 4], accessFlags := 1041 }

/-- the primitive int -/
def k20 : Class := { plain "int" none with kind := .primitive 'I', accessFlags := 0x411 }
/-- [I -/
def k21 : Class := { plain "[I" (some 0) with kind := .array 20 .int, interfaces := #[15, 4], accessFlags := 1041 }

def heap : Heap := #[{ cls := 9, slots := #[.long 0, .int 1, .null, .int 0, .null, .int 0, .int 0], vm := .statics 9 },
  { cls := 13, slots := #[.null, .null, .null], vm := .statics 13 }]
def classes : Array Class := #[k0, k1, k2, k3, k4, k5, k6, k7, k8, k9, k10, k11, k12, k13, k14, k15, k16, k17, k18, k19, k20, k21]
def interned : List (Array UInt16 × Addr) := []
def slotsUsed : Nat := 10
def theMethod : MethodId := ⟨1, 3⟩
def args0 : Array Value := #[.int 5, .int 7, .int 9, .int 2, .int 0]
def aboutOver (below : List Frame) : State where
  vm := { classes := classes, interned := interned.toArray }
  heap := heap
  slotsUsed := slotsUsed
  threads := #[{ frames := .invoking theMethod args0 :: below }]
def below0 : List Frame := [.native { method := ⟨0, 0⟩, args := #[] }]
def about1 : State := aboutOver below0
def p0 : Program := .bare "" "" ""
def e0 : Env := launch0.env 0 0 0
theorem w_frames : about1.frames = Frame.invoking theMethod args0 :: below0 := rfl
set_option maxRecDepth 65536 in
theorem w_args : argsFit about1.vm theMethod args0 = true := by decide +kernel
set_option maxRecDepth 65536 in
theorem w_heap : heapFits about1 = true := by decide +kernel
set_option maxRecDepth 65536 in
theorem w_runnable : about1.curStatus? = some .runnable := by decide +kernel
set_option maxRecDepth 65536 in
theorem w_alone : about1.alone = true := by decide +kernel
set_option maxRecDepth 65536 in
theorem w_named : about1.methodNamed? x = some theMethod := by decide +kernel
set_option maxRecDepth 65536 in
theorem w_hears : about1.hears theMethod below0 = true := by decide +kernel
set_option maxRecDepth 65536 in
theorem w_ripe : about1.ripe theMethod args0 below0 = true := by decide +kernel
theorem w_running : about1.status = .running := rfl
set_option maxRecDepth 65536 in
theorem w_room : about1.hasRoom e0.platform room_1 = true :=
  launch0.hasRoom_least _ room_1 (by decide +kernel) (by decide +kernel) (by decide +kernel) (by decide +kernel) (by decide +kernel) (by decide +kernel)
theorem allAtoms_all (ts : List Jvm.Cond) (a : Array Jvm.Value) (st : Jvm.State) : (allAtoms ts).before a st = ts.all (fun c => c.before a st) := by
  induction ts with
  | nil => rfl
  | cons c t ih =>
    show (Jvm.Cond.and c (allAtoms t)).before a st = _
    rw [Jvm.Cond.before_and, ih, List.all_cons]
def words1 : List Jvm.Cond := Jvm.Cond.code x code maxLocals ret :: tables_1
/-- a 'code' word, met by the world's own term for the bytes: nothing is compared byte by byte -/
theorem code_word {y : MethodName} {bytes : ByteArray} {mx : Nat} {rt : Option FieldType} {a : Array Value} {s : State} {m : MethodId} {meth : Method} {c : Code} (h1 : s.methodNamed? y = some m) (h2 : s.vm.method? m = some meth) (h3 : meth.code = some c) (h4 : c.code = bytes)
    (h5 : (c.maxLocals == mx && c.exceptionTable.isEmpty && decide (c.maxStack ≤ mostOperands) && decide (meth.sig.returnType = rt) && !meth.locks && decide (parseMethodDescriptor y.desc = some meth.sig)) = true) : (Jvm.Cond.code y bytes mx rt).before a s = true := by
  simp only [Bool.and_eq_true, beq_iff_eq, Bool.not_eq_true', decide_eq_true_eq] at h5
  obtain ⟨⟨⟨⟨⟨g1, g2⟩, g3⟩, g4⟩, g5⟩, g6⟩ := h5
  simp [Cond.before, Cond.holds, Cond.value, h1, h2, h3, h4, g1, g2, g3, g4, g5, g6]
def isCode : Jvm.Cond → Bool
  | .code _ _ _ _ => true
  | _ => false
theorem all_split {L : List Jvm.Cond} {P : Jvm.Cond → Bool} (h1 : L.all (fun c => isCode c || P c) = true) (h2 : ∀ c ∈ L.filter isCode, P c = true) : L.all P = true := by
  refine List.all_eq_true.mpr fun c hc => ?_
  have h := List.all_eq_true.mp h1 c hc
  rcases Bool.eq_false_or_eq_true (isCode c) with hi | hi
  · exact h2 c (List.mem_filter.mpr ⟨hc, hi⟩)
  · simpa [hi] using h
set_option maxRecDepth 65536 in
theorem w_c0 : (Jvm.Cond.code x code maxLocals ret).before args0 about1 = true := code_word (m := ⟨1, 3⟩) (meth := k1m3) (c := k1c3) (by decide +kernel) rfl rfl rfl (by decide +kernel)
set_option maxRecDepth 65536 in
theorem w_c1 : (Jvm.Cond.code ({ cls := "com/example/trifold/trifold/model/XmiIdentityEqualsPinLaw", name := "mk", desc := "(I)Ljava/lang/String;" } : Jvm.MethodName) method_2_code (3 : Nat) (Option.some (Jvm.ClassFile.FieldType.object "java/lang/String"))).before args0 about1 = true := code_word (m := ⟨1, 1⟩) (meth := k1m1) (c := k1c1) (by decide +kernel) rfl rfl rfl (by decide +kernel)
set_option maxRecDepth 65536 in
theorem w_c2 : (Jvm.Cond.code ({ cls := "java/lang/String", name := "<init>", desc := "([C)V" } : Jvm.MethodName) jdk_42_method_3_code (2 : Nat) (Option.none : Option Jvm.ClassFile.FieldType)).before args0 about1 = true := code_word (m := ⟨9, 1⟩) (meth := k9m1) (c := k9c1) (by decide +kernel) rfl rfl rfl (by decide +kernel)
set_option maxRecDepth 65536 in
theorem w_c3 : (Jvm.Cond.code ({ cls := "java/lang/String", name := "<init>", desc := "([CIILjava/lang/Void;)V" } : Jvm.MethodName) jdk_42_method_149_code (6 : Nat) (Option.none : Option Jvm.ClassFile.FieldType)).before args0 about1 = true := code_word (m := ⟨9, 3⟩) (meth := k9m3) (c := k9c3) (by decide +kernel) rfl rfl rfl (by decide +kernel)
set_option maxRecDepth 65536 in
theorem w_c4 : (Jvm.Cond.code ({ cls := "java/lang/Object", name := "<init>", desc := "()V" } : Jvm.MethodName) object_method_1_code (1 : Nat) (Option.none : Option Jvm.ClassFile.FieldType)).before args0 about1 = true := code_word (m := ⟨0, 0⟩) (meth := k0m0) (c := k0c0) (by decide +kernel) rfl rfl rfl (by decide +kernel)
set_option maxRecDepth 65536 in
theorem w_c5 : (Jvm.Cond.code ({ cls := "java/lang/StringUTF16", name := "compress", desc := "([CII)[B" } : Jvm.MethodName) jdk_52_method_16_code (6 : Nat) (Option.some (Jvm.ClassFile.FieldType.array Jvm.ClassFile.FieldType.byte))).before args0 about1 = true := code_word (m := ⟨10, 2⟩) (meth := k10m2) (c := k10c2) (by decide +kernel) rfl rfl rfl (by decide +kernel)
set_option maxRecDepth 65536 in
theorem w_c6 : (Jvm.Cond.code ({ cls := "java/lang/StringUTF16", name := "compress", desc := "([CI[BII)I" } : Jvm.MethodName) jdk_52_method_21_code (7 : Nat) (Option.some Jvm.ClassFile.FieldType.int)).before args0 about1 = true := code_word (m := ⟨10, 3⟩) (meth := k10m3) (c := k10c3) (by decide +kernel) rfl rfl rfl (by decide +kernel)
set_option maxRecDepth 65536 in
theorem w_c7 : (Jvm.Cond.code ({ cls := "java/lang/StringUTF16", name := "coderFromArrayLen", desc := "([BI)B" } : Jvm.MethodName) jdk_52_method_15_code (2 : Nat) (Option.some Jvm.ClassFile.FieldType.byte)).before args0 about1 = true := code_word (m := ⟨10, 1⟩) (meth := k10m1) (c := k10c1) (by decide +kernel) rfl rfl rfl (by decide +kernel)
set_option maxRecDepth 65536 in
theorem w_c8 : (Jvm.Cond.code ({ cls := "com/example/trifold/trifold/model/XmiIdentity", name := "<init>", desc := "(Ljava/lang/String;Ljava/lang/String;)V" } : Jvm.MethodName) prog_14_method_1_code (3 : Nat) (Option.none : Option Jvm.ClassFile.FieldType)).before args0 about1 = true := code_word (m := ⟨3, 0⟩) (meth := k3m0) (c := k3c0) (by decide +kernel) rfl rfl rfl (by decide +kernel)
set_option maxRecDepth 65536 in
theorem w_c9 : (Jvm.Cond.code ({ cls := "java/lang/Record", name := "<init>", desc := "()V" } : Jvm.MethodName) jdk_30_method_1_code (1 : Nat) (Option.none : Option Jvm.ClassFile.FieldType)).before args0 about1 = true := code_word (m := ⟨2, 0⟩) (meth := k2m0) (c := k2c0) (by decide +kernel) rfl rfl rfl (by decide +kernel)
set_option maxRecDepth 65536 in
theorem w_c10 : (Jvm.Cond.code ({ cls := "com/example/trifold/trifold/model/XmiIdentityEqualsPinLaw", name := "canon", desc := "(I)J" } : Jvm.MethodName) method_3_code (6 : Nat) (Option.some Jvm.ClassFile.FieldType.long)).before args0 about1 = true := code_word (m := ⟨1, 2⟩) (meth := k1m2) (c := k1c2) (by decide +kernel) rfl rfl rfl (by decide +kernel)
set_option maxRecDepth 65536 in
theorem w_c11 : (Jvm.Cond.code ({ cls := "com/example/trifold/trifold/model/XmiIdentity", name := "equals", desc := "(Ljava/lang/Object;)Z" } : Jvm.MethodName) prog_14_method_2_code (3 : Nat) (Option.some Jvm.ClassFile.FieldType.boolean)).before args0 about1 = true := code_word (m := ⟨3, 1⟩) (meth := k3m1) (c := k3c1) (by decide +kernel) rfl rfl rfl (by decide +kernel)
set_option maxRecDepth 65536 in
theorem w_c12 : (Jvm.Cond.code ({ cls := "java/util/Objects", name := "equals", desc := "(Ljava/lang/Object;Ljava/lang/Object;)Z" } : Jvm.MethodName) jdk_31_method_2_code (2 : Nat) (Option.some Jvm.ClassFile.FieldType.boolean)).before args0 about1 = true := code_word (m := ⟨11, 1⟩) (meth := k11m1) (c := k11c1) (by decide +kernel) rfl rfl rfl (by decide +kernel)
set_option maxRecDepth 65536 in
theorem w_c13 : (Jvm.Cond.code ({ cls := "java/lang/String", name := "equals", desc := "(Ljava/lang/Object;)Z" } : Jvm.MethodName) jdk_42_method_66_code (3 : Nat) (Option.some Jvm.ClassFile.FieldType.boolean)).before args0 about1 = true := code_word (m := ⟨9, 2⟩) (meth := k9m2) (c := k9c2) (by decide +kernel) rfl rfl rfl (by decide +kernel)
set_option maxRecDepth 65536 in
theorem w_c14 : (Jvm.Cond.code ({ cls := "java/lang/StringLatin1", name := "equals", desc := "([B[B)Z" } : Jvm.MethodName) jdk_43_method_13_code (3 : Nat) (Option.some Jvm.ClassFile.FieldType.boolean)).before args0 about1 = true := code_word (m := ⟨12, 1⟩) (meth := k12m1) (c := k12c1) (by decide +kernel) rfl rfl rfl (by decide +kernel)
def codes1 : List Jvm.Cond := [Jvm.Cond.code x code maxLocals ret, Jvm.Cond.code ({ cls := "com/example/trifold/trifold/model/XmiIdentityEqualsPinLaw", name := "mk", desc := "(I)Ljava/lang/String;" } : Jvm.MethodName) method_2_code (3 : Nat) (Option.some (Jvm.ClassFile.FieldType.object "java/lang/String")), Jvm.Cond.code ({ cls := "java/lang/String", name := "<init>", desc := "([C)V" } : Jvm.MethodName) jdk_42_method_3_code (2 : Nat) (Option.none : Option Jvm.ClassFile.FieldType), Jvm.Cond.code ({ cls := "java/lang/String", name := "<init>", desc := "([CIILjava/lang/Void;)V" } : Jvm.MethodName) jdk_42_method_149_code (6 : Nat) (Option.none : Option Jvm.ClassFile.FieldType), Jvm.Cond.code ({ cls := "java/lang/Object", name := "<init>", desc := "()V" } : Jvm.MethodName) object_method_1_code (1 : Nat) (Option.none : Option Jvm.ClassFile.FieldType), Jvm.Cond.code ({ cls := "java/lang/StringUTF16", name := "compress", desc := "([CII)[B" } : Jvm.MethodName) jdk_52_method_16_code (6 : Nat) (Option.some (Jvm.ClassFile.FieldType.array Jvm.ClassFile.FieldType.byte)), Jvm.Cond.code ({ cls := "java/lang/StringUTF16", name := "compress", desc := "([CI[BII)I" } : Jvm.MethodName) jdk_52_method_21_code (7 : Nat) (Option.some Jvm.ClassFile.FieldType.int), Jvm.Cond.code ({ cls := "java/lang/StringUTF16", name := "coderFromArrayLen", desc := "([BI)B" } : Jvm.MethodName) jdk_52_method_15_code (2 : Nat) (Option.some Jvm.ClassFile.FieldType.byte), Jvm.Cond.code ({ cls := "com/example/trifold/trifold/model/XmiIdentity", name := "<init>", desc := "(Ljava/lang/String;Ljava/lang/String;)V" } : Jvm.MethodName) prog_14_method_1_code (3 : Nat) (Option.none : Option Jvm.ClassFile.FieldType), Jvm.Cond.code ({ cls := "java/lang/Record", name := "<init>", desc := "()V" } : Jvm.MethodName) jdk_30_method_1_code (1 : Nat) (Option.none : Option Jvm.ClassFile.FieldType), Jvm.Cond.code ({ cls := "com/example/trifold/trifold/model/XmiIdentityEqualsPinLaw", name := "canon", desc := "(I)J" } : Jvm.MethodName) method_3_code (6 : Nat) (Option.some Jvm.ClassFile.FieldType.long), Jvm.Cond.code ({ cls := "com/example/trifold/trifold/model/XmiIdentity", name := "equals", desc := "(Ljava/lang/Object;)Z" } : Jvm.MethodName) prog_14_method_2_code (3 : Nat) (Option.some Jvm.ClassFile.FieldType.boolean), Jvm.Cond.code ({ cls := "java/util/Objects", name := "equals", desc := "(Ljava/lang/Object;Ljava/lang/Object;)Z" } : Jvm.MethodName) jdk_31_method_2_code (2 : Nat) (Option.some Jvm.ClassFile.FieldType.boolean), Jvm.Cond.code ({ cls := "java/lang/String", name := "equals", desc := "(Ljava/lang/Object;)Z" } : Jvm.MethodName) jdk_42_method_66_code (3 : Nat) (Option.some Jvm.ClassFile.FieldType.boolean), Jvm.Cond.code ({ cls := "java/lang/StringLatin1", name := "equals", desc := "([B[B)Z" } : Jvm.MethodName) jdk_43_method_13_code (3 : Nat) (Option.some Jvm.ClassFile.FieldType.boolean)]
set_option maxRecDepth 65536 in
theorem codes_eq : words1.filter isCode = codes1 := rfl
theorem w_codes : ∀ c ∈ words1.filter isCode, c.before args0 about1 = true := by
  rw [codes_eq]
  intro c hc
  simp only [codes1, List.mem_cons, List.not_mem_nil, or_false] at hc
  rcases hc with rfl | rfl | rfl | rfl | rfl | rfl | rfl | rfl | rfl | rfl | rfl | rfl | rfl | rfl | rfl
  · exact w_c0
  · exact w_c1
  · exact w_c2
  · exact w_c3
  · exact w_c4
  · exact w_c5
  · exact w_c6
  · exact w_c7
  · exact w_c8
  · exact w_c9
  · exact w_c10
  · exact w_c11
  · exact w_c12
  · exact w_c13
  · exact w_c14
set_option maxRecDepth 65536 in
theorem w_t1 : (words1.take 24).all (fun c => isCode c || c.before args0 about1) = true := by decide +kernel
set_option maxRecDepth 65536 in
theorem w_t2 : ((words1.drop 24).take 24).all (fun c => isCode c || c.before args0 about1) = true := by decide +kernel
set_option maxRecDepth 65536 in
theorem w_t3 : (((words1.drop 24).drop 24).take 24).all (fun c => isCode c || c.before args0 about1) = true := by decide +kernel
set_option maxRecDepth 65536 in
theorem w_t4 : (((words1.drop 24).drop 24).drop 24).all (fun c => isCode c || c.before args0 about1) = true := by decide +kernel
theorem w_tables : (allAtoms (Jvm.Cond.code x code maxLocals ret :: tables_1)).before args0 about1 = true := by
  rw [allAtoms_all]
  show words1.all (fun c => c.before args0 about1) = true
  refine all_split ?_ w_codes
  rw [← List.take_append_drop 24 words1, List.all_append, w_t1, ← List.take_append_drop 24 (words1.drop 24), List.all_append, w_t2, ← List.take_append_drop 24 ((words1.drop 24).drop 24), List.all_append, w_t3, w_t4]
  rfl
set_option maxRecDepth 65536 in
theorem w_rest : rest_1_c.before args0 about1 = true := by decide +kernel
set_option maxRecDepth 65536 in
theorem w_case : (Jvm.Cond.and given_1 narrow_1).before args0 about1 = true := by decide +kernel
set_option maxRecDepth 65536 in
theorem w_consts : constsHeld consts_1 about1 := Jvm.Lit.constsHeldB_iff.mp (by decide +kernel)
theorem w_applies : (headSpec (Jvm.Cond.code x code maxLocals ret :: tables_1) room_1).applies x e0.platform about1 = true :=
  (Spec.applies_iff w_frames).mpr ⟨w_running, w_runnable, w_alone, w_named, w_hears, w_ripe, w_room, w_tables⟩
theorem atStart : AtStart classFile x code maxLocals ret World_1 tables_1 room_1 Calls_1 rest_1 Pre_1 launch0 p0 e0 about1 theMethod args0 below0 :=
  ⟨lists_1, trivial, launch0.admits_env _ _ _, launch0.least_env, fairChoices_fair.cas, fairChoices_fair.clock, w_frames, w_args, w_heap, w_applies, ⟨w_consts, trivial⟩, w_rest, w_case⟩
end start1
theorem witness_1 : WitnessClaimed_1 := ⟨start1.p0, start1.e0, start1.about1, start1.theMethod, start1.args0, start1.below0, start1.atStart⟩
end Jvm.Pilot.@@N@@
