import JvmDerived
import JvmDerived.Pilot.@@N@@Statement
import JvmDerived.Pilot.@@N@@Code
set_option linter.unusedVariables false
set_option linter.unusedSimpArgs false
namespace Jvm.RoadKit
open Sem ClassFile Op Lib Jvm.Stand Jvm.Free Jvm.LawKit
section New
variable {p : Program} {l : Launch} {e : Env} {R : Room} {s : State} {m : MethodId} {args : Array Value} {below : List Frame} {meth : Method} {c : Code} {T : State} {locs : List Loc} {cells slots : Nat}
theorem retI (X : Stand p l e R s m args below meth c T locs cells slots) (hx : p.tables.exec = Jvm.exec) {pc : Nat} {Ls : Array Slot} {z : Int32} {rest : List Value} (hret : meth.sig.returnType = some .int) (hd : decode c.code pc = .ok (.ireturn, 1)) {fs : List Frame}
    (hl : ∀ (f : JFrame) (acts : List Action), f.method = m → f.locked = none → f.entered = [] → (doReturn e (T.setTop f) acts (some (.int z))).1 = T.setFrames fs) : Steps p.tables e below (T.setTop (mkF m pc Ls (.int z :: rest))) (T.setFrames fs) := by
  have hm' : T.vm.method? m = some meth := X.method'
  have hn : narrow .int (.int z) = .int z := rfl
  show Steps p.tables e below (T.setTop { method := m, pc := pc, locals := Ls, stack := _ :: rest, locked := none }) _
  jvm_step X.here [X.here.top, hx, hd, hm', hret, hn]
  first | (intro acts; rw [hl _ acts rfl rfl rfl]) | rw [hl _ _ rfl rfl rfl]
  exact Steps.refl _
end New
end Jvm.RoadKit
namespace Jvm.Pilot.@@N@@
open Jvm Jvm.ClassFile Sem Op Lib Jvm.Free Jvm.Stand Jvm.LawKit Jvm.RoadKit Bundle Jvm.Pilot.@@N@@.Jvm.D
section OwnKit
variable {p : Program} {l : Launch} {e : Env} {R : Room} {s : State} {m : MethodId} {args : Array Value} {below : List Frame} {meth : Method} {c : Code} {T T' : State} {locs : List Loc} {cells slots : Nat} {Z : State} {a0 : Array Value} {h h' : Heap} {n0 : Nat} {a : Addr}
/-- from this frame the walk ends by a return, and leaves what Q says -/
def own_Ends (p : Program) (e : Env) (below : List Frame) (s : State) (k n : Nat) (Q : Option Value → Heap → List Loc → Prop) (T : State) (F : JFrame) : Prop :=
  ∃ s₂ o, Steps p.tables e below (T.setTop F) s₂ ∧ s₂.status = .running ∧ Ended s₂ below o ∧ ∃ v L, o = .returned v ∧ Q v s₂.heap L ∧ FrameEnd s o s₂ L k n
theorem own_st {F F' : JFrame} {k n : Nat} {Q : Option Value → Heap → List Loc → Prop} (q : ∀ t, Steps p.tables e below (T'.setTop F') t → Steps p.tables e below (T.setTop F) t) (r : own_Ends p e below s k n Q T' F') : own_Ends p e below s k n Q T F := by
  obtain ⟨s₂, o, h1, h2⟩ := r
  exact ⟨s₂, o, q _ h1, h2⟩
theorem own_retN (X : Stand p l e R s m args below meth c T locs cells slots) (hx : p.tables.exec = Jvm.exec) (hlk : meth.locks = false) {t : FieldType} (hret : meth.sig.returnType = some t) (ht : t = .boolean ∨ t = .byte ∨ t = .char ∨ t = .short) {pc : Nat} {Ls : Array Slot} {z : Int32} {rest : List Value}
    (hd : decode c.code pc = .ok (.ireturn, 1)) {k n : Nat} {Q : Option Value → Heap → List Loc → Prop} (hk : cells ≤ k) (hn : slots ≤ n) (q : Q (some (.int (nar t z))) T.heap locs) : own_Ends p e below s k n Q T (mkF m pc Ls (.int z :: rest)) := by
  obtain ⟨fs, hr, hrun, hended, hW, hsame⟩ := X.leave (v := some (.int (nar t z))) (fun h => by rw [hret] at h; cases h) hlk
  exact ⟨_, _, retN X hx hret ht hd hr, hrun, hended, _, _, rfl, q, ⟨_, rfl⟩, hW, hsame.mono hk hn⟩
theorem own_retI (X : Stand p l e R s m args below meth c T locs cells slots) (hx : p.tables.exec = Jvm.exec) (hlk : meth.locks = false) (hret : meth.sig.returnType = some .int) {pc : Nat} {Ls : Array Slot} {z : Int32} {rest : List Value}
    (hd : decode c.code pc = .ok (.ireturn, 1)) {k n : Nat} {Q : Option Value → Heap → List Loc → Prop} (hk : cells ≤ k) (hn : slots ≤ n) (q : Q (some (.int z)) T.heap locs) : own_Ends p e below s k n Q T (mkF m pc Ls (.int z :: rest)) := by
  obtain ⟨fs, hr, hrun, hended, hW, hsame⟩ := X.leave (v := some (.int z)) (fun h => by rw [hret] at h; cases h) hlk
  exact ⟨_, _, retI X hx hret hd hr, hrun, hended, _, _, rfl, q, ⟨_, rfl⟩, hW, hsame.mono hk hn⟩
theorem own_retL (X : Stand p l e R s m args below meth c T locs cells slots) (hx : p.tables.exec = Jvm.exec) (hlk : meth.locks = false) (hret : meth.sig.returnType = some .long) {pc : Nat} {Ls : Array Slot} {z : Int64}
    (hd : decode c.code pc = .ok (.lreturn, 1)) {k n : Nat} {Q : Option Value → Heap → List Loc → Prop} (hk : cells ≤ k) (hn : slots ≤ n) (q : Q (some (.long z)) T.heap locs) : own_Ends p e below s k n Q T (mkF m pc Ls [.long z]) := by
  obtain ⟨fs, hr, hrun, hended, hW, hsame⟩ := X.leave (v := some (.long z)) (fun h => by rw [hret] at h; cases h) hlk
  exact ⟨_, _, X.lreturnOut hx hret hd hr, hrun, hended, _, _, rfl, q, ⟨_, rfl⟩, hW, hsame.mono hk hn⟩
theorem own_retV (X : Stand p l e R s m args below meth c T locs cells slots) (hx : p.tables.exec = Jvm.exec) (hlk : meth.locks = false) (hret : meth.sig.returnType = none) {pc : Nat} {Ls : Array Slot}
    (hd : decode c.code pc = .ok (.return_, 1)) {k n : Nat} {Q : Option Value → Heap → List Loc → Prop} (hk : cells ≤ k) (hn : slots ≤ n) (q : Q none T.heap locs) : own_Ends p e below s k n Q T (mkF m pc Ls []) := by
  obtain ⟨fs, hr, hrun, hended, hW, hsame⟩ := X.leave (v := none) (fun _ => rfl) hlk
  exact ⟨_, _, X.returnOut hx hret hd hr, hrun, hended, _, _, rfl, q, ⟨_, rfl⟩, hW, hsame.mono hk hn⟩
/-- a body's contract: called with these values in heap h it returns, and Q holds of what it returns, of the heap and of the places written -/
abbrev own_Met (l : Launch) (Z : State) (y : MethodName) (bytes : ByteArray) (maxL : Nat) (ret : Option FieldType) (ws : List Jvm.Cond) (rm : Room) (as' : Array Value) (h : Heap) (Q : Option Value → Heap → List Loc → Prop) : Prop :=
  MetFree l y (head1 (Jvm.Cond.code y bytes maxL ret :: ws) rm) (fun a U => a = as' ∧ Z.Warmed39 U.vm ∧ U.heap = h) (fun _ _ _ _ _ => True) (fun _ U o U' => ∃ v L, o = .returned v ∧ Q v U'.heap L ∧ FrameEnd U o U' L rm.cells rm.slots)
theorem own_body {y : MethodName} {bytes : ByteArray} {maxL : Nat} {ret : Option FieldType} {ws : List Jvm.Cond} {rm : Room} {as' : Array Value} {Q : Option Value → Heap → List Loc → Prop} (hpf : plainFor y = true)
    (body : ∀ (p : Program) (e : Env) (s : State) (m : MethodId) (below : List Frame) (meth : Method) (c : Code) (T : State), Stand p l e rm s m as' below meth c T [] 0 0 → p.tables.exec = Jvm.exec → c.code = bytes → c.maxLocals = maxL → meth.sig.returnType = ret → meth.locks = false → Z.Warmed39 s.vm → s.vm.findClass y.cls = some m.cls → meth.name = y.name → T.heap = h →
      own_Ends p e below s rm.cells rm.slots Q T (entryFrame m as' maxL)) : own_Met l Z y bytes maxL ret ws rm as' h Q := by
  refine MetFree.of_bodySF hpf hisR ?_
  intro p e s m args below meth c s₁ Bd hml0 hP hK
  obtain ⟨rfl, hZ, hh⟩ := hP
  exact body p e s m below meth c s₁ (Stand.of_body Bd) Bd.exec Bd.bytes hml0 Bd.returns Bd.notSynchronized hZ (findClass_of_methodNamed Bd.named) (name_of_methodNamed Bd.named Bd.method).1 (by rw [← hh, Bd.state]; rfl)
theorem own_entry {F F' : JFrame} {k n : Nat} {Q : Option Value → Heap → List Loc → Prop} (q : F = F') (r : own_Ends p e below s k n Q T F') : own_Ends p e below s k n Q T F := q ▸ r
/-- what a body without effect leaves -/
abbrev own_PQ (w : Value) (h0 : Heap) (n0 : Nat) : Option Value → Heap → List Loc → Prop := fun v h L => v = some w ∧ Fr n0 L ∧ h = h0
theorem own_PQi {w w' : Value} {h0 : Heap} {L : List Loc} (hv : w = w') (N : Fr n0 L) (hh : h = h0) : own_PQ w' h0 n0 (some w) h L := ⟨congrArg some hv, N, hh⟩
/-- a static call by the callee's contract -/
theorem own_callS (X : Stand p l e R s m args below meth c T locs cells slots) (hx : p.tables.exec = Jvm.exec) (hZ : Z.Warmed39 s.vm) {own : String} {index : Nat} {y : MethodName} {bytes : ByteArray} {maxL : Nat} {ret : Option FieldType} {rm : Room} (W : Nat) {as' : Array Value} {Q : Option Value → Heap → List Loc → Prop}
    (hown : s.vm.findClass own = some m.cls) (w1 : (Jvm.Cond.methodLink own index y).before a0 Z = true) (w2 : (Jvm.Cond.static y).before a0 Z = true) (w3 : (Jvm.Cond.initialized y.cls).before a0 Z = true) (w4 : (Jvm.Cond.code y bytes maxL ret).before a0 Z = true)
    (hy : y.cls ≠ "java/lang/invoke/MethodHandle" ∧ y.cls ≠ "java/lang/invoke/VarHandle") (hM : own_Met l Z y bytes maxL ret [] rm as' h Q) (hf : rm.frames + 1 ≤ R.frames) (hl : W + (maxL + 11) + rm.locals ≤ R.locals) (eT : T.heap = h) (hc : cells + rm.cells ≤ R.cells) (hs : slots + rm.slots ≤ R.slots)
    {g : JFrame} (hg : g.method = m) (hsize : g.locals.size = c.maxLocals) {argsL rest : List Value} (hlen : ∀ sig, parseMethodDescriptor y.desc = some sig → argsL.length = sig.parameters.length) (has : argsL.toArray = as') (hst : g.stack = argsL.reverse ++ rest)
    (hW : 2 * g.monitorRoom + (rest.map fun v => v.category).sum ≤ W) (hd : decode c.code g.pc = .ok (.invokestatic index, 3)) :
    ∃ (v : Option Value) (T' : State) (L : List Loc), Stand p l e R s m args below meth c T' (locs ++ L) (cells + rm.cells) (slots + rm.slots) ∧ Q v T'.heap L ∧
      ∀ t, Steps p.tables e below (T'.setTop { g with pc := g.pc + 3, stack := v.toList ++ rest }) t → Steps p.tables e below (T.setTop g) t := by
  obtain ⟨v, _, ⟨T6, L6, k6, n6⟩, -, X6, ⟨Lc6, hQ6, l6, y6, z6⟩, st6⟩ := Jvm.LawKit.callS X hx hown (mvT hZ w1) (mvT hZ w2) (mvT hZ w3) (mvT hZ w4) hy (backOf (W := W) hM hZ w4 w3 hf hl) hg hsize (argsL := argsL) (rest := rest) hlen hst hW hd (fun _ _ => ⟨has, eT, hc, hs⟩)
  dsimp only [Pt.U, Pt.locs, Pt.cells, Pt.slots] at X6 l6 y6 z6 st6 hQ6
  subst l6 y6 z6
  exact ⟨v, T6, Lc6, X6, hQ6, st6⟩
/-- a static call without effect -/
theorem own_callP (X : Stand p l e R s m args below meth c T locs cells slots) (hx : p.tables.exec = Jvm.exec) (hZ : Z.Warmed39 s.vm) {own : String} {index : Nat} {y : MethodName} {bytes : ByteArray} {maxL : Nat} {ret : Option FieldType} {rm : Room} (W : Nat) {as' : Array Value} {w : Value}
    (hown : s.vm.findClass own = some m.cls) (w1 : (Jvm.Cond.methodLink own index y).before a0 Z = true) (w2 : (Jvm.Cond.static y).before a0 Z = true) (w3 : (Jvm.Cond.initialized y.cls).before a0 Z = true) (w4 : (Jvm.Cond.code y bytes maxL ret).before a0 Z = true)
    (hy : y.cls ≠ "java/lang/invoke/MethodHandle" ∧ y.cls ≠ "java/lang/invoke/VarHandle") (hM : own_Met l Z y bytes maxL ret [] rm as' h (own_PQ w h n0)) (hf : rm.frames + 1 ≤ R.frames) (hl : W + (maxL + 11) + rm.locals ≤ R.locals) (rc : rm.cells = 0) (rs : rm.slots = 0) (eT : T.heap = h) (N : Fr n0 locs) (hc : cells ≤ R.cells) (hs : slots ≤ R.slots)
    {g : JFrame} (hg : g.method = m) (hsize : g.locals.size = c.maxLocals) {argsL rest : List Value} (hlen : ∀ sig, parseMethodDescriptor y.desc = some sig → argsL.length = sig.parameters.length) (has : argsL.toArray = as') (hst : g.stack = argsL.reverse ++ rest)
    (hW : 2 * g.monitorRoom + (rest.map fun v => v.category).sum ≤ W) (hd : decode c.code g.pc = .ok (.invokestatic index, 3)) :
    ∃ (T' : State) (locs' : List Loc), Stand p l e R s m args below meth c T' locs' cells slots ∧ T'.heap = h ∧ Fr n0 locs' ∧
      ∀ t, Steps p.tables e below (T'.setTop { g with pc := g.pc + 3, stack := w :: rest }) t → Steps p.tables e below (T.setTop g) t := by
  obtain ⟨v, T', L, X', ⟨rfl, NL, hh⟩, st⟩ := own_callS X hx hZ W hown w1 w2 w3 w4 hy hM hf hl eT (by rw [rc]; exact hc) (by rw [rs]; exact hs) hg hsize hlen has hst hW hd
  rw [rc, rs] at X'
  exact ⟨T', _, X', hh, Fr.app N NL, st⟩
/-- an array of ints, bytes, ..: its length and all its elements -/
def own_AI (Z : State) (h : Heap) (a : Addr) (ty : FieldType) (n : Int32) (xs : List Int32) : Prop := ∃ k, Arv Z h a k ty n (xs.map Value.int) (.int 0) ∧ xs.length = n.toNatClampNeg
def own_AJ (Z : State) (h : Heap) (a : Addr) (n : Int32) (xs : List Int64) : Prop := ∃ k, Arv Z h a k .long n (xs.map Value.long) (.long 0) ∧ xs.length = n.toNatClampNeg
theorem own_AI.ext {ty : FieldType} {n : Int32} {xs : List Int32} (V : own_AI Z h a ty n xs) (E : Ext h h') : own_AI Z h' a ty n xs := by
  obtain ⟨k, V, q⟩ := V; exact ⟨k, V.ext E, q⟩
theorem own_AJ.ext {n : Int32} {xs : List Int64} (V : own_AJ Z h a n xs) (E : Ext h h') : own_AJ Z h' a n xs := by
  obtain ⟨k, V, q⟩ := V; exact ⟨k, V.ext E, q⟩
theorem own_AI.other {ty : FieldType} {n : Int32} {xs : List Int32} {b : Addr} {sl : Nat} {v : Value} (V : own_AI Z h a ty n xs) (W : Wr h h' b sl v) (q : a ≠ b) : own_AI Z h' a ty n xs := by
  obtain ⟨k, V, r⟩ := V; exact ⟨k, V.other W q, r⟩
theorem own_AJ.other {n : Int32} {xs : List Int64} {b : Addr} {sl : Nat} {v : Value} (V : own_AJ Z h a n xs) (W : Wr h h' b sl v) (q : a ≠ b) : own_AJ Z h' a n xs := by
  obtain ⟨k, V, r⟩ := V; exact ⟨k, V.other W q, r⟩
theorem own_AI.keep {ty : FieldType} {n : Int32} {xs : List Int32} {ws : List Addr} (V : own_AI Z h a ty n xs) (K : Keep h h' ws) (q : a ∉ ws) : own_AI Z h' a ty n xs := by
  obtain ⟨k, V, r⟩ := V; exact ⟨k, V.keep K q, r⟩
theorem own_AJ.keep {n : Int32} {xs : List Int64} {ws : List Addr} (V : own_AJ Z h a n xs) (K : Keep h h' ws) (q : a ∉ ws) : own_AJ Z h' a n xs := by
  obtain ⟨k, V, r⟩ := V; exact ⟨k, V.keep K q, r⟩
theorem own_AI.lt {ty : FieldType} {n : Int32} {xs : List Int32} (V : own_AI Z h a ty n xs) : a < h.size := by
  obtain ⟨k, V, q⟩ := V; exact V.lt
theorem own_AJ.lt {n : Int32} {xs : List Int64} (V : own_AJ Z h a n xs) : a < h.size := by
  obtain ⟨k, V, q⟩ := V; exact V.lt
theorem own_AI.len {ty : FieldType} {n : Int32} {xs : List Int32} (V : own_AI Z h a ty n xs) : xs.length = n.toNatClampNeg := by
  obtain ⟨k, V, q⟩ := V; exact q
theorem own_AJ.len {n : Int32} {xs : List Int64} (V : own_AJ Z h a n xs) : xs.length = n.toNatClampNeg := by
  obtain ⟨k, V, q⟩ := V; exact q
theorem own_map_getD {α : Type} (f : α → Value) (d : α) (xs : List α) (i : Nat) : (xs.map f).getD i (f d) = f (xs.getD i d) := by
  simp only [List.getD_eq_getElem?_getD, List.getElem?_map]
  cases xs[i]? <;> rfl
theorem own_bound {j n : Int32} {N : Nat} (hN : N = n.toNatClampNeg) (hj : ¬ j < 0) (hn : ¬ n < 0) (q : j.toNatClampNeg < N) : ¬ j < 0 ∧ j < n := by
  refine ⟨hj, ?_⟩
  rw [hN] at q
  rw [Int32.lt_iff_toInt_lt] at hj hn ⊢
  have e0 : (0 : Int32).toInt = 0 := rfl
  simp only [Int32.toNatClampNeg] at q
  omega
/-- newarray of an int's kind -/
theorem own_newI (X : Stand p l e R s m args below meth c T locs cells slots) (hx : p.tables.exec = Jvm.exec) (hZ : Z.Warmed39 s.vm) {aty : ArrayType} (w : (Jvm.Cond.arrayClass (newarray.typeOf aty)).before a0 Z = true) (eT : T.heap = h) (Z0 : n0 ≤ h.size) {g : JFrame} (hg : g.method = m) {n : Int32} {rest : List Value} (hs : g.stack = .int n :: rest)
    (hd : decode c.code g.pc = .ok (.newarray aty, 2)) (hdv : defaultValue (newarray.typeOf aty) = .int 0) (hn : ¬ n < 0) (cap N : Nat) (hN : n.toNatClampNeg = N) (hcap : N ≤ cap) (hb : cap * 8 ≤ 536870912) (hc : cells + 1 ≤ R.cells) (hl : slots + cap ≤ R.slots) :
    ∃ (T' : State) (h' : Heap) (b : Addr), Stand p l e R s m args below meth c T' locs (cells + 1) (slots + cap) ∧ T'.heap = h' ∧ Ext h h' ∧ b = h.size ∧ n0 ≤ b ∧ n0 ≤ h'.size ∧ own_AI Z h' b (newarray.typeOf aty) n (List.replicate N 0) ∧
      ∀ t, Steps p.tables e below (T'.setTop { g with pc := g.pc + 2, stack := .ref b :: rest }) t → Steps p.tables e below (T.setTop g) t := by
  obtain ⟨T', h', k, X', e', E, A, st⟩ := newP X hx hZ w eT hg hd hs hn (cap := cap) (by rw [hN]; exact hcap) hb hc hl
  refine ⟨T', h', h.size, X', e', E, rfl, Z0, Nat.le_trans Z0 E.1, ⟨k, ?_, by rw [List.length_replicate, hN]⟩, st⟩
  have V := Arv.new A hn
  rw [hdv] at V
  rw [List.map_replicate]
  exact V.pad (vs' := List.replicate N (.int 0)) (fun i => by have q := pad_rep [] (Value.int 0) N i; rw [List.nil_append] at q; exact q)
theorem own_newJ (X : Stand p l e R s m args below meth c T locs cells slots) (hx : p.tables.exec = Jvm.exec) (hZ : Z.Warmed39 s.vm) (w : (Jvm.Cond.arrayClass .long).before a0 Z = true) (eT : T.heap = h) (Z0 : n0 ≤ h.size) {g : JFrame} (hg : g.method = m) {n : Int32} {rest : List Value} (hs : g.stack = .int n :: rest)
    (hd : decode c.code g.pc = .ok (.newarray .long, 2)) (hn : ¬ n < 0) (cap N : Nat) (hN : n.toNatClampNeg = N) (hcap : N ≤ cap) (hb : cap * 8 ≤ 536870912) (hc : cells + 1 ≤ R.cells) (hl : slots + cap ≤ R.slots) :
    ∃ (T' : State) (h' : Heap) (b : Addr), Stand p l e R s m args below meth c T' locs (cells + 1) (slots + cap) ∧ T'.heap = h' ∧ Ext h h' ∧ b = h.size ∧ n0 ≤ b ∧ n0 ≤ h'.size ∧ own_AJ Z h' b n (List.replicate N 0) ∧
      ∀ t, Steps p.tables e below (T'.setTop { g with pc := g.pc + 2, stack := .ref b :: rest }) t → Steps p.tables e below (T.setTop g) t := by
  obtain ⟨T', h', k, X', e', E, A, st⟩ := newP X hx hZ (aty := .long) w eT hg hd hs hn (cap := cap) (by rw [hN]; exact hcap) hb hc hl
  refine ⟨T', h', h.size, X', e', E, rfl, Z0, Nat.le_trans Z0 E.1, ⟨k, ?_, by rw [List.length_replicate, hN]⟩, st⟩
  have V := Arv.new A hn
  rw [List.map_replicate]
  exact V.pad (vs' := List.replicate N (.long 0)) (fun i => by have q := pad_rep [] (Value.long 0) N i; rw [List.nil_append] at q; exact q)
/-- a byte stored -/
theorem own_stB (X : Stand p l e R s m args below meth c T locs cells slots) (hx : p.tables.exec = Jvm.exec) (hZ : Z.Warmed39 s.vm) (eT : T.heap = h) (N : Fr n0 locs) {n : Int32} {xs ys : List Int32} (V : own_AI Z h a .byte n xs) (ga : n0 ≤ a) {g : JFrame} (hg : g.method = m) {j x : Int32} {rest : List Value} (hs : g.stack = .int x :: .int j :: .ref a :: rest)
    (hd : decode c.code g.pc = .ok (.bastore, 1)) (hj : ¬ j < 0) (hi : j.toNatClampNeg < xs.length) (hy : xs.set j.toNatClampNeg (x.toInt8.toInt32) = ys) :
    ∃ (T' : State) (h' : Heap) (locs' : List Loc), Stand p l e R s m args below meth c T' locs' cells slots ∧ T'.heap = h' ∧ Fr n0 locs' ∧ Wr h h' a j.toNatClampNeg (.int (x.toInt8.toInt32)) ∧ own_AI Z h' a .byte n ys ∧
      ∀ t, Steps p.tables e below (T'.setTop { g with pc := g.pc + 1, stack := rest }) t → Steps p.tables e below (T.setTop g) t := by
  obtain ⟨k, ⟨cl, Ar, q, S, M, H, G⟩, hl⟩ := V
  obtain ⟨T', h', X', e', W, st⟩ := stB X hx hZ eT Ar (j := j) (x := x) (inb_of S (own_bound hl hj M hi)) hg hs hd
  refine ⟨T', h', _, X', e', Fr.snoc X' N ga, W, ?_, st⟩
  subst hy
  refine ⟨k, ?_, by rw [List.length_set]; exact hl⟩
  have := Arv.set Ar q S M H G (fits_nar_byte x) W j.toNatClampNeg rfl (by rw [List.length_map]; exact hi)
  rw [List.map_set]
  exact this
theorem own_stI (X : Stand p l e R s m args below meth c T locs cells slots) (hx : p.tables.exec = Jvm.exec) (hZ : Z.Warmed39 s.vm) (eT : T.heap = h) (N : Fr n0 locs) {n : Int32} {xs ys : List Int32} (V : own_AI Z h a .int n xs) (ga : n0 ≤ a) {g : JFrame} (hg : g.method = m) {j x : Int32} {rest : List Value} (hs : g.stack = .int x :: .int j :: .ref a :: rest)
    (hd : decode c.code g.pc = .ok (.iastore, 1)) (hj : ¬ j < 0) (hi : j.toNatClampNeg < xs.length) (hy : xs.set j.toNatClampNeg x = ys) :
    ∃ (T' : State) (h' : Heap) (locs' : List Loc), Stand p l e R s m args below meth c T' locs' cells slots ∧ T'.heap = h' ∧ Fr n0 locs' ∧ Wr h h' a j.toNatClampNeg (.int x) ∧ own_AI Z h' a .int n ys ∧
      ∀ t, Steps p.tables e below (T'.setTop { g with pc := g.pc + 1, stack := rest }) t → Steps p.tables e below (T.setTop g) t := by
  obtain ⟨k, ⟨cl, Ar, q, S, M, H, G⟩, hl⟩ := V
  obtain ⟨T', h', X', e', W, st⟩ := stI X hx hZ eT Ar (j := j) (x := x) (inb_of S (own_bound hl hj M hi)) hg hs hd
  refine ⟨T', h', _, X', e', Fr.snoc X' N ga, W, ?_, st⟩
  subst hy
  refine ⟨k, ?_, by rw [List.length_set]; exact hl⟩
  have := Arv.set Ar q S M H G (v := .int x) rfl W j.toNatClampNeg rfl (by rw [List.length_map]; exact hi)
  rw [List.map_set]
  exact this
theorem own_stJ (X : Stand p l e R s m args below meth c T locs cells slots) (hx : p.tables.exec = Jvm.exec) (hZ : Z.Warmed39 s.vm) (eT : T.heap = h) (N : Fr n0 locs) {n : Int32} {xs ys : List Int64} (V : own_AJ Z h a n xs) (ga : n0 ≤ a) {g : JFrame} (hg : g.method = m) {j : Int32} {x : Int64} {rest : List Value} (hs : g.stack = .long x :: .int j :: .ref a :: rest)
    (hd : decode c.code g.pc = .ok (.lastore, 1)) (hj : ¬ j < 0) (hi : j.toNatClampNeg < xs.length) (hy : xs.set j.toNatClampNeg x = ys) :
    ∃ (T' : State) (h' : Heap) (locs' : List Loc), Stand p l e R s m args below meth c T' locs' cells slots ∧ T'.heap = h' ∧ Fr n0 locs' ∧ Wr h h' a j.toNatClampNeg (.long x) ∧ own_AJ Z h' a n ys ∧
      ∀ t, Steps p.tables e below (T'.setTop { g with pc := g.pc + 1, stack := rest }) t → Steps p.tables e below (T.setTop g) t := by
  obtain ⟨k, ⟨cl, Ar, q, S, M, H, G⟩, hl⟩ := V
  obtain ⟨T', h', X', e', W, st⟩ := stJ X hx hZ eT Ar (j := j) (x := x) (inb_of S (own_bound hl hj M hi)) hg hs hd
  refine ⟨T', h', _, X', e', Fr.snoc X' N ga, W, ?_, st⟩
  subst hy
  refine ⟨k, ?_, by rw [List.length_set]; exact hl⟩
  have := Arv.set Ar q S M H G (v := .long x) rfl W j.toNatClampNeg rfl (by rw [List.length_map]; exact hi)
  rw [List.map_set]
  exact this
theorem own_baload (X : Stand p l e R s m args below meth c T locs cells slots) (hx : p.tables.exec = Jvm.exec) (hZ : Z.Warmed39 s.vm) (eT : T.heap = h) {n : Int32} {xs : List Int32} (V : own_AI Z h a .byte n xs) {g : JFrame} (hg : g.method = m) {j : Int32} {rest : List Value} (hs : g.stack = .int j :: .ref a :: rest)
    (hd : decode c.code g.pc = .ok (.baload, 1)) (hj : ¬ j < 0) (hi : j.toNatClampNeg < xs.length) {w : Int32} (hv : xs.getD j.toNatClampNeg 0 = w) :
    ∀ t, Steps p.tables e below (T.setTop { g with pc := g.pc + 1, stack := .int w :: rest }) t → Steps p.tables e below (T.setTop g) t := by
  obtain ⟨k, ⟨cl, Ar, q, S, M, H, G⟩, hl⟩ := V
  have hin := inb_of (j := j) S (own_bound hl hj M hi)
  have hat := Has.at H hin (v := .int w) (by rw [own_map_getD Value.int 0, hv])
  exact fun t k => X.baloadBytes hx (j := j) (v := .int w) (by rw [eT]; exact Ar.1) (State.isArrayOf_alike hZ.alike Ar.2.1) Ar.2.2 hin hat hg hs hd _ k
theorem own_iaload (X : Stand p l e R s m args below meth c T locs cells slots) (hx : p.tables.exec = Jvm.exec) (hZ : Z.Warmed39 s.vm) (eT : T.heap = h) {n : Int32} {xs : List Int32} (V : own_AI Z h a .int n xs) {g : JFrame} (hg : g.method = m) {j : Int32} {rest : List Value} (hs : g.stack = .int j :: .ref a :: rest)
    (hd : decode c.code g.pc = .ok (.iaload, 1)) (hj : ¬ j < 0) (hi : j.toNatClampNeg < xs.length) {w : Int32} (hv : xs.getD j.toNatClampNeg 0 = w) :
    ∀ t, Steps p.tables e below (T.setTop { g with pc := g.pc + 1, stack := .int w :: rest }) t → Steps p.tables e below (T.setTop g) t := by
  obtain ⟨k, ⟨cl, Ar, q, S, M, H, G⟩, hl⟩ := V
  have hin := inb_of (j := j) S (own_bound hl hj M hi)
  have hat := Has.at H hin (v := .int w) (by rw [own_map_getD Value.int 0, hv])
  exact fun t k => X.iaload hx (j := j) (v := .int w) (by rw [eT]; exact Ar.1) (State.isArrayOf_alike hZ.alike Ar.2.1) Ar.2.2 hin hat hg hs hd _ k
theorem own_laload (X : Stand p l e R s m args below meth c T locs cells slots) (hx : p.tables.exec = Jvm.exec) (hZ : Z.Warmed39 s.vm) (eT : T.heap = h) {n : Int32} {xs : List Int64} (V : own_AJ Z h a n xs) {g : JFrame} (hg : g.method = m) {j : Int32} {rest : List Value} (hs : g.stack = .int j :: .ref a :: rest)
    (hd : decode c.code g.pc = .ok (.laload, 1)) (hj : ¬ j < 0) (hi : j.toNatClampNeg < xs.length) {w : Int64} (hv : xs.getD j.toNatClampNeg 0 = w) :
    ∀ t, Steps p.tables e below (T.setTop { g with pc := g.pc + 1, stack := .long w :: rest }) t → Steps p.tables e below (T.setTop g) t := by
  obtain ⟨k, ⟨cl, Ar, q, S, M, H, G⟩, hl⟩ := V
  have hin := inb_of (j := j) S (own_bound hl hj M hi)
  have hat := Has.at H hin (v := .long w) (by rw [own_map_getD Value.long 0, hv])
  exact fun t k => X.laload hx (j := j) (v := .long w) (by rw [eT]; exact Ar.1) (State.isArrayOf_alike hZ.alike Ar.2.1) Ar.2.2 hin hat hg hs hd _ k
theorem own_lenI (X : Stand p l e R s m args below meth c T locs cells slots) (hx : p.tables.exec = Jvm.exec) (hZ : Z.Warmed39 s.vm) (eT : T.heap = h) {ty : FieldType} {n : Int32} {xs : List Int32} (V : own_AI Z h a ty n xs) {g : JFrame} (hg : g.method = m) {rest : List Value} (hs : g.stack = .ref a :: rest)
    (hd : decode c.code g.pc = .ok (.arraylength, 1)) :
    ∀ t, Steps p.tables e below (T.setTop { g with pc := g.pc + 1, stack := .int n :: rest }) t → Steps p.tables e below (T.setTop g) t := by
  obtain ⟨k, ⟨cl, Ar, q, S, M, H, G⟩, hl⟩ := V
  intro t k
  refine X.arraylength hx (cell := cl) (by rw [eT]; exact Ar.1) (State.isArrayOf_alike hZ.alike Ar.2.1) hg hs hd _ ?_
  rw [len_of S M]
  exact k
theorem own_lenJ (X : Stand p l e R s m args below meth c T locs cells slots) (hx : p.tables.exec = Jvm.exec) (hZ : Z.Warmed39 s.vm) (eT : T.heap = h) {n : Int32} {xs : List Int64} (V : own_AJ Z h a n xs) {g : JFrame} (hg : g.method = m) {rest : List Value} (hs : g.stack = .ref a :: rest)
    (hd : decode c.code g.pc = .ok (.arraylength, 1)) :
    ∀ t, Steps p.tables e below (T.setTop { g with pc := g.pc + 1, stack := .int n :: rest }) t → Steps p.tables e below (T.setTop g) t := by
  obtain ⟨k, ⟨cl, Ar, q, S, M, H, G⟩, hl⟩ := V
  intro t k
  refine X.arraylength hx (cell := cl) (by rw [eT]; exact Ar.1) (State.isArrayOf_alike hZ.alike Ar.2.1) hg hs hd _ ?_
  rw [len_of S M]
  exact k
end OwnKit
theorem d1_0 : decode prog_121_method_4_code 0 = .ok (.iload_n 0, 1) := by decide +kernel
theorem d1_1 : decode prog_121_method_4_code 1 = .ok (.bipush 97, 2) := by decide +kernel
theorem d1_6 : decode prog_121_method_4_code 6 = .ok (.iload_n 0, 1) := by decide +kernel
theorem d1_7 : decode prog_121_method_4_code 7 = .ok (.bipush 122, 2) := by decide +kernel
theorem d1_191 : decode prog_121_method_4_code 191 = .ok (.iconst 1, 1) := by decide +kernel
theorem d1_192 : decode prog_121_method_4_code 192 = .ok (.goto 4, 3) := by decide +kernel
theorem d1_12 : decode prog_121_method_4_code 12 = .ok (.iload_n 0, 1) := by decide +kernel
theorem d1_13 : decode prog_121_method_4_code 13 = .ok (.bipush 65, 2) := by decide +kernel
theorem d1_18 : decode prog_121_method_4_code 18 = .ok (.iload_n 0, 1) := by decide +kernel
theorem d1_19 : decode prog_121_method_4_code 19 = .ok (.bipush 90, 2) := by decide +kernel
theorem d1_24 : decode prog_121_method_4_code 24 = .ok (.iload_n 0, 1) := by decide +kernel
theorem d1_25 : decode prog_121_method_4_code 25 = .ok (.bipush 95, 2) := by decide +kernel
theorem d1_30 : decode prog_121_method_4_code 30 = .ok (.iload_n 0, 1) := by decide +kernel
theorem d1_31 : decode prog_121_method_4_code 31 = .ok (.sipush 192, 3) := by decide +kernel
theorem d1_37 : decode prog_121_method_4_code 37 = .ok (.iload_n 0, 1) := by decide +kernel
theorem d1_38 : decode prog_121_method_4_code 38 = .ok (.sipush 214, 3) := by decide +kernel
theorem d1_44 : decode prog_121_method_4_code 44 = .ok (.iload_n 0, 1) := by decide +kernel
theorem d1_45 : decode prog_121_method_4_code 45 = .ok (.sipush 216, 3) := by decide +kernel
theorem d1_51 : decode prog_121_method_4_code 51 = .ok (.iload_n 0, 1) := by decide +kernel
theorem d1_52 : decode prog_121_method_4_code 52 = .ok (.sipush 246, 3) := by decide +kernel
theorem d1_58 : decode prog_121_method_4_code 58 = .ok (.iload_n 0, 1) := by decide +kernel
theorem d1_59 : decode prog_121_method_4_code 59 = .ok (.sipush 248, 3) := by decide +kernel
theorem d1_65 : decode prog_121_method_4_code 65 = .ok (.iload_n 0, 1) := by decide +kernel
theorem d1_66 : decode prog_121_method_4_code 66 = .ok (.sipush 767, 3) := by decide +kernel
theorem d1_72 : decode prog_121_method_4_code 72 = .ok (.iload_n 0, 1) := by decide +kernel
theorem d1_73 : decode prog_121_method_4_code 73 = .ok (.sipush 880, 3) := by decide +kernel
theorem d1_79 : decode prog_121_method_4_code 79 = .ok (.iload_n 0, 1) := by decide +kernel
theorem d1_80 : decode prog_121_method_4_code 80 = .ok (.sipush 893, 3) := by decide +kernel
theorem d1_86 : decode prog_121_method_4_code 86 = .ok (.iload_n 0, 1) := by decide +kernel
theorem d1_87 : decode prog_121_method_4_code 87 = .ok (.sipush 895, 3) := by decide +kernel
theorem d1_93 : decode prog_121_method_4_code 93 = .ok (.iload_n 0, 1) := by decide +kernel
theorem d1_94 : decode prog_121_method_4_code 94 = .ok (.sipush 8191, 3) := by decide +kernel
theorem d1_100 : decode prog_121_method_4_code 100 = .ok (.iload_n 0, 1) := by decide +kernel
theorem d1_101 : decode prog_121_method_4_code 101 = .ok (.sipush 8204, 3) := by decide +kernel
theorem d1_107 : decode prog_121_method_4_code 107 = .ok (.iload_n 0, 1) := by decide +kernel
theorem d1_108 : decode prog_121_method_4_code 108 = .ok (.sipush 8205, 3) := by decide +kernel
theorem d1_114 : decode prog_121_method_4_code 114 = .ok (.iload_n 0, 1) := by decide +kernel
theorem d1_115 : decode prog_121_method_4_code 115 = .ok (.sipush 8304, 3) := by decide +kernel
theorem d1_121 : decode prog_121_method_4_code 121 = .ok (.iload_n 0, 1) := by decide +kernel
theorem d1_122 : decode prog_121_method_4_code 122 = .ok (.sipush 8591, 3) := by decide +kernel
theorem d1_128 : decode prog_121_method_4_code 128 = .ok (.iload_n 0, 1) := by decide +kernel
theorem d1_129 : decode prog_121_method_4_code 129 = .ok (.sipush 11264, 3) := by decide +kernel
theorem d1_135 : decode prog_121_method_4_code 135 = .ok (.iload_n 0, 1) := by decide +kernel
theorem d1_136 : decode prog_121_method_4_code 136 = .ok (.sipush 12271, 3) := by decide +kernel
theorem d1_142 : decode prog_121_method_4_code 142 = .ok (.iload_n 0, 1) := by decide +kernel
theorem d1_143 : decode prog_121_method_4_code 143 = .ok (.sipush 12289, 3) := by decide +kernel
theorem d1_149 : decode prog_121_method_4_code 149 = .ok (.iload_n 0, 1) := by decide +kernel
theorem d1_150 : decode prog_121_method_4_code 150 = .ok (.ldc 7, 2) := by decide +kernel
theorem d1_155 : decode prog_121_method_4_code 155 = .ok (.iload_n 0, 1) := by decide +kernel
theorem d1_156 : decode prog_121_method_4_code 156 = .ok (.ldc 12, 2) := by decide +kernel
theorem d1_161 : decode prog_121_method_4_code 161 = .ok (.iload_n 0, 1) := by decide +kernel
theorem d1_162 : decode prog_121_method_4_code 162 = .ok (.ldc 13, 2) := by decide +kernel
theorem d1_167 : decode prog_121_method_4_code 167 = .ok (.iload_n 0, 1) := by decide +kernel
theorem d1_168 : decode prog_121_method_4_code 168 = .ok (.ldc 14, 2) := by decide +kernel
theorem d1_173 : decode prog_121_method_4_code 173 = .ok (.iload_n 0, 1) := by decide +kernel
theorem d1_174 : decode prog_121_method_4_code 174 = .ok (.ldc 9, 2) := by decide +kernel
theorem d1_179 : decode prog_121_method_4_code 179 = .ok (.iload_n 0, 1) := by decide +kernel
theorem d1_180 : decode prog_121_method_4_code 180 = .ok (.ldc 10, 2) := by decide +kernel
theorem d1_195 : decode prog_121_method_4_code 195 = .ok (.iconst 0, 1) := by decide +kernel
theorem d1_185 : decode prog_121_method_4_code 185 = .ok (.iload_n 0, 1) := by decide +kernel
theorem d1_186 : decode prog_121_method_4_code 186 = .ok (.ldc 15, 2) := by decide +kernel
theorem d1_182 : decode prog_121_method_4_code 182 = .ok (.if_icmp .lt 13, 3) := by decide +kernel
theorem d1_196 : decode prog_121_method_4_code 196 = .ok (.ireturn, 1) := by decide +kernel
theorem d1_188 : decode prog_121_method_4_code 188 = .ok (.if_icmp .gt 7, 3) := by decide +kernel
theorem d1_170 : decode prog_121_method_4_code 170 = .ok (.if_icmp .lt 9, 3) := by decide +kernel
theorem d1_176 : decode prog_121_method_4_code 176 = .ok (.if_icmp .le 15, 3) := by decide +kernel
theorem d1_158 : decode prog_121_method_4_code 158 = .ok (.if_icmp .lt 9, 3) := by decide +kernel
theorem d1_164 : decode prog_121_method_4_code 164 = .ok (.if_icmp .le 27, 3) := by decide +kernel
theorem d1_146 : decode prog_121_method_4_code 146 = .ok (.if_icmp .lt 9, 3) := by decide +kernel
theorem d1_152 : decode prog_121_method_4_code 152 = .ok (.if_icmp .le 39, 3) := by decide +kernel
theorem d1_132 : decode prog_121_method_4_code 132 = .ok (.if_icmp .lt 10, 3) := by decide +kernel
theorem d1_139 : decode prog_121_method_4_code 139 = .ok (.if_icmp .le 52, 3) := by decide +kernel
theorem d1_118 : decode prog_121_method_4_code 118 = .ok (.if_icmp .lt 10, 3) := by decide +kernel
theorem d1_125 : decode prog_121_method_4_code 125 = .ok (.if_icmp .le 66, 3) := by decide +kernel
theorem d1_104 : decode prog_121_method_4_code 104 = .ok (.if_icmp .lt 10, 3) := by decide +kernel
theorem d1_111 : decode prog_121_method_4_code 111 = .ok (.if_icmp .le 80, 3) := by decide +kernel
theorem d1_90 : decode prog_121_method_4_code 90 = .ok (.if_icmp .lt 10, 3) := by decide +kernel
theorem d1_97 : decode prog_121_method_4_code 97 = .ok (.if_icmp .le 94, 3) := by decide +kernel
theorem d1_76 : decode prog_121_method_4_code 76 = .ok (.if_icmp .lt 10, 3) := by decide +kernel
theorem d1_83 : decode prog_121_method_4_code 83 = .ok (.if_icmp .le 108, 3) := by decide +kernel
theorem d1_62 : decode prog_121_method_4_code 62 = .ok (.if_icmp .lt 10, 3) := by decide +kernel
theorem d1_69 : decode prog_121_method_4_code 69 = .ok (.if_icmp .le 122, 3) := by decide +kernel
theorem d1_48 : decode prog_121_method_4_code 48 = .ok (.if_icmp .lt 10, 3) := by decide +kernel
theorem d1_55 : decode prog_121_method_4_code 55 = .ok (.if_icmp .le 136, 3) := by decide +kernel
theorem d1_27 : decode prog_121_method_4_code 27 = .ok (.if_icmp .eq 164, 3) := by decide +kernel
theorem d1_34 : decode prog_121_method_4_code 34 = .ok (.if_icmp .lt 10, 3) := by decide +kernel
theorem d1_41 : decode prog_121_method_4_code 41 = .ok (.if_icmp .le 150, 3) := by decide +kernel
theorem d1_15 : decode prog_121_method_4_code 15 = .ok (.if_icmp .lt 9, 3) := by decide +kernel
theorem d1_21 : decode prog_121_method_4_code 21 = .ok (.if_icmp .le 170, 3) := by decide +kernel
theorem ef1 (m : MethodId) (x0 : Int32) : entryFrame m #[(.int x0)] 1 = mkF m 0 #[.val (.int x0)] [] := by first | (simp [entryFrame, mkF, argsToLocals, Value.category]; done) | rfl
theorem d1_3 : decode prog_121_method_4_code 3 = .ok (.if_icmp .lt 9, 3) := by decide +kernel
theorem d1_9 : decode prog_121_method_4_code 9 = .ok (.if_icmp .le 182, 3) := by decide +kernel
theorem pn0 : plainName "com/example/node_sieve/nodesieve/xml/XmlChars" = true := by first | (simp [plainName, overriddenIn]; done) | decide +kernel
def f1_179 (y : Int32) : Int32 := if y < (65536 : Int32) then ((0 : Int32)) else (if (983039 : Int32) < y then ((0 : Int32)) else ((1 : Int32)))
def f1_167 (y : Int32) : Int32 := if y < (65008 : Int32) then (f1_179 y) else (if (65533 : Int32) < y then (f1_179 y) else ((1 : Int32)))
def f1_155 (y : Int32) : Int32 := if y < (63744 : Int32) then (f1_167 y) else (if (64975 : Int32) < y then (f1_167 y) else ((1 : Int32)))
def f1_142 (y : Int32) : Int32 := if y < (12289 : Int32) then (f1_155 y) else (if (55295 : Int32) < y then (f1_155 y) else ((1 : Int32)))
def f1_128 (y : Int32) : Int32 := if y < (11264 : Int32) then (f1_142 y) else (if (12271 : Int32) < y then (f1_142 y) else ((1 : Int32)))
def f1_114 (y : Int32) : Int32 := if y < (8304 : Int32) then (f1_128 y) else (if (8591 : Int32) < y then (f1_128 y) else ((1 : Int32)))
def f1_100 (y : Int32) : Int32 := if y < (8204 : Int32) then (f1_114 y) else (if (8205 : Int32) < y then (f1_114 y) else ((1 : Int32)))
def f1_86 (y : Int32) : Int32 := if y < (895 : Int32) then (f1_100 y) else (if (8191 : Int32) < y then (f1_100 y) else ((1 : Int32)))
def f1_72 (y : Int32) : Int32 := if y < (880 : Int32) then (f1_86 y) else (if (893 : Int32) < y then (f1_86 y) else ((1 : Int32)))
def f1_58 (y : Int32) : Int32 := if y < (248 : Int32) then (f1_72 y) else (if (767 : Int32) < y then (f1_72 y) else ((1 : Int32)))
def f1_44 (y : Int32) : Int32 := if y < (216 : Int32) then (f1_58 y) else (if (246 : Int32) < y then (f1_58 y) else ((1 : Int32)))
def f1_24 (y : Int32) : Int32 := if y = (95 : Int32) then ((1 : Int32)) else (if y < (192 : Int32) then (f1_44 y) else (if (214 : Int32) < y then (f1_44 y) else ((1 : Int32))))
def f1_12 (y : Int32) : Int32 := if y < (65 : Int32) then (f1_24 y) else (if (90 : Int32) < y then (f1_24 y) else ((1 : Int32)))
def f1 (y : Int32) : Int32 := if y < (97 : Int32) then (f1_12 y) else (if (122 : Int32) < y then (f1_12 y) else ((1 : Int32)))
set_option maxRecDepth 65536 in
set_option maxHeartbeats 40000000 in
theorem rm1 (l : Launch) (Z : State) (a0 : Array Value) (hw : ∀ d ∈ tables_1, d.before a0 Z = true) (ws : List Jvm.Cond) (y : Int32) (h0 : Heap) (n0 : Nat) :
    own_Met l Z (⟨"com/example/node_sieve/nodesieve/xml/XmlChars", "isNameStart", "(I)Z"⟩ : MethodName) prog_121_method_4_code 1 (some .boolean) ws ({ frames := 0, cells := 0, slots := 0, locals := 0 } : Room) #[(.int y)] h0 (own_PQ (.int (f1 y)) h0 n0) := by
  refine own_body (plainFor_of_name pn0) ?_
  intro p e s m below meth c T X hx hby hml hret hlk hZ hown hnm eT
  have J179 : ∀ (T : State) (locs : List Loc) (X : Stand p l e ({ frames := 0, cells := 0, slots := 0, locals := 0 } : Room) s m #[(.int y)] below meth c T locs 0 0) (eT : T.heap = h0) (N : Fr n0 locs), own_Ends p e below s 0 0 (own_PQ (.int (f1_179 y)) h0 n0) T (mkF m 179 #[.val (.int y)] []) := by
    intro T locs X eT N
    unfold f1_179
    refine own_st (T' := T) (F' := (mkF m 180 #[.val (.int y)] [(.int y)])) (fun _ kq => XS.iloadN X.here hx rfl (hb hby d1_179) rfl kq) ?_
    refine own_st (T' := T) (F' := (mkF m 182 #[.val (.int y)] [(.int (65536 : Int32)), (.int y)])) (fun _ kq => X.ldcInt hx hown (mvT hZ (hw _ (List.mem_of_getElem? (i := 16) rfl))) (g := (mkF m 180 #[.val (.int y)] [(.int y)])) rfl (hb hby d1_180) _ kq) ?_
    by_cases hc182_1 : y < (65536 : Int32)
    ·
      rw [if_pos hc182_1]
      refine own_st (T' := T) (F' := (mkF m 195 #[.val (.int y)] [])) (fun _ kq => XS.icmpYes X.here hx rfl (pc0 := 182) (pc' := 195) rfl (hb hby d1_182) rfl (tlt hc182_1).1 (by decide) (by decide) kq) ?_
      refine own_st (T' := T) (F' := (mkF m 196 #[.val (.int y)] [(.int (0 : Int32))])) (fun _ kq => XS.iconst X.here hx rfl (hb hby d1_195) kq) ?_
      exact own_retN X hx hlk hret (by simp) (hb hby d1_196) (by decide) (by decide) (own_PQi rfl N eT)
    ·
      rw [if_neg hc182_1]
      refine own_st (T' := T) (F' := (mkF m 185 #[.val (.int y)] [])) (fun _ kq => XS.icmpNo X.here hx rfl (hb hby d1_182) rfl (flt hc182_1).1 kq) ?_
      refine own_st (T' := T) (F' := (mkF m 186 #[.val (.int y)] [(.int y)])) (fun _ kq => XS.iloadN X.here hx rfl (hb hby d1_185) rfl kq) ?_
      refine own_st (T' := T) (F' := (mkF m 188 #[.val (.int y)] [(.int (983039 : Int32)), (.int y)])) (fun _ kq => X.ldcInt hx hown (mvT hZ (hw _ (List.mem_of_getElem? (i := 27) rfl))) (g := (mkF m 186 #[.val (.int y)] [(.int y)])) rfl (hb hby d1_186) _ kq) ?_
      by_cases hc188_2 : (983039 : Int32) < y
      ·
        rw [if_pos hc188_2]
        refine own_st (T' := T) (F' := (mkF m 195 #[.val (.int y)] [])) (fun _ kq => XS.icmpYes X.here hx rfl (pc0 := 188) (pc' := 195) rfl (hb hby d1_188) rfl (tlt hc188_2).2.2.1 (by decide) (by decide) kq) ?_
        refine own_st (T' := T) (F' := (mkF m 196 #[.val (.int y)] [(.int (0 : Int32))])) (fun _ kq => XS.iconst X.here hx rfl (hb hby d1_195) kq) ?_
        exact own_retN X hx hlk hret (by simp) (hb hby d1_196) (by decide) (by decide) (own_PQi rfl N eT)
      ·
        rw [if_neg hc188_2]
        refine own_st (T' := T) (F' := (mkF m 191 #[.val (.int y)] [])) (fun _ kq => XS.icmpNo X.here hx rfl (hb hby d1_188) rfl (flt hc188_2).2.2.1 kq) ?_
        refine own_st (T' := T) (F' := (mkF m 192 #[.val (.int y)] [(.int (1 : Int32))])) (fun _ kq => XS.iconst X.here hx rfl (hb hby d1_191) kq) ?_
        refine own_st (T' := T) (F' := (mkF m 196 #[.val (.int y)] [(.int (1 : Int32))])) (fun _ kq => XS.goto X.here hx rfl (pc0 := 192) (pc' := 196) rfl (hb hby d1_192) (by decide) (by decide) kq) ?_
        exact own_retN X hx hlk hret (by simp) (hb hby d1_196) (by decide) (by decide) (own_PQi rfl N eT)
  have J167 : ∀ (T : State) (locs : List Loc) (X : Stand p l e ({ frames := 0, cells := 0, slots := 0, locals := 0 } : Room) s m #[(.int y)] below meth c T locs 0 0) (eT : T.heap = h0) (N : Fr n0 locs), own_Ends p e below s 0 0 (own_PQ (.int (f1_167 y)) h0 n0) T (mkF m 167 #[.val (.int y)] []) := by
    intro T locs X eT N
    unfold f1_167
    refine own_st (T' := T) (F' := (mkF m 168 #[.val (.int y)] [(.int y)])) (fun _ kq => XS.iloadN X.here hx rfl (hb hby d1_167) rfl kq) ?_
    refine own_st (T' := T) (F' := (mkF m 170 #[.val (.int y)] [(.int (65008 : Int32)), (.int y)])) (fun _ kq => X.ldcInt hx hown (mvT hZ (hw _ (List.mem_of_getElem? (i := 15) rfl))) (g := (mkF m 168 #[.val (.int y)] [(.int y)])) rfl (hb hby d1_168) _ kq) ?_
    by_cases hc170_3 : y < (65008 : Int32)
    ·
      rw [if_pos hc170_3]
      refine own_st (T' := T) (F' := (mkF m 179 #[.val (.int y)] [])) (fun _ kq => XS.icmpYes X.here hx rfl (pc0 := 170) (pc' := 179) rfl (hb hby d1_170) rfl (tlt hc170_3).1 (by decide) (by decide) kq) ?_
      exact J179  T _ X eT N
    ·
      rw [if_neg hc170_3]
      refine own_st (T' := T) (F' := (mkF m 173 #[.val (.int y)] [])) (fun _ kq => XS.icmpNo X.here hx rfl (hb hby d1_170) rfl (flt hc170_3).1 kq) ?_
      refine own_st (T' := T) (F' := (mkF m 174 #[.val (.int y)] [(.int y)])) (fun _ kq => XS.iloadN X.here hx rfl (hb hby d1_173) rfl kq) ?_
      refine own_st (T' := T) (F' := (mkF m 176 #[.val (.int y)] [(.int (65533 : Int32)), (.int y)])) (fun _ kq => X.ldcInt hx hown (mvT hZ (hw _ (List.mem_of_getElem? (i := 26) rfl))) (g := (mkF m 174 #[.val (.int y)] [(.int y)])) rfl (hb hby d1_174) _ kq) ?_
      by_cases hc176_4 : (65533 : Int32) < y
      ·
        rw [if_pos hc176_4]
        refine own_st (T' := T) (F' := (mkF m 179 #[.val (.int y)] [])) (fun _ kq => XS.icmpNo X.here hx rfl (hb hby d1_176) rfl (tlt hc176_4).2.2.2 kq) ?_
        exact J179  T _ X eT N
      ·
        rw [if_neg hc176_4]
        refine own_st (T' := T) (F' := (mkF m 191 #[.val (.int y)] [])) (fun _ kq => XS.icmpYes X.here hx rfl (pc0 := 176) (pc' := 191) rfl (hb hby d1_176) rfl (flt hc176_4).2.2.2 (by decide) (by decide) kq) ?_
        refine own_st (T' := T) (F' := (mkF m 192 #[.val (.int y)] [(.int (1 : Int32))])) (fun _ kq => XS.iconst X.here hx rfl (hb hby d1_191) kq) ?_
        refine own_st (T' := T) (F' := (mkF m 196 #[.val (.int y)] [(.int (1 : Int32))])) (fun _ kq => XS.goto X.here hx rfl (pc0 := 192) (pc' := 196) rfl (hb hby d1_192) (by decide) (by decide) kq) ?_
        exact own_retN X hx hlk hret (by simp) (hb hby d1_196) (by decide) (by decide) (own_PQi rfl N eT)
  have J155 : ∀ (T : State) (locs : List Loc) (X : Stand p l e ({ frames := 0, cells := 0, slots := 0, locals := 0 } : Room) s m #[(.int y)] below meth c T locs 0 0) (eT : T.heap = h0) (N : Fr n0 locs), own_Ends p e below s 0 0 (own_PQ (.int (f1_155 y)) h0 n0) T (mkF m 155 #[.val (.int y)] []) := by
    intro T locs X eT N
    unfold f1_155
    refine own_st (T' := T) (F' := (mkF m 156 #[.val (.int y)] [(.int y)])) (fun _ kq => XS.iloadN X.here hx rfl (hb hby d1_155) rfl kq) ?_
    refine own_st (T' := T) (F' := (mkF m 158 #[.val (.int y)] [(.int (63744 : Int32)), (.int y)])) (fun _ kq => X.ldcInt hx hown (mvT hZ (hw _ (List.mem_of_getElem? (i := 14) rfl))) (g := (mkF m 156 #[.val (.int y)] [(.int y)])) rfl (hb hby d1_156) _ kq) ?_
    by_cases hc158_5 : y < (63744 : Int32)
    ·
      rw [if_pos hc158_5]
      refine own_st (T' := T) (F' := (mkF m 167 #[.val (.int y)] [])) (fun _ kq => XS.icmpYes X.here hx rfl (pc0 := 158) (pc' := 167) rfl (hb hby d1_158) rfl (tlt hc158_5).1 (by decide) (by decide) kq) ?_
      exact J167  T _ X eT N
    ·
      rw [if_neg hc158_5]
      refine own_st (T' := T) (F' := (mkF m 161 #[.val (.int y)] [])) (fun _ kq => XS.icmpNo X.here hx rfl (hb hby d1_158) rfl (flt hc158_5).1 kq) ?_
      refine own_st (T' := T) (F' := (mkF m 162 #[.val (.int y)] [(.int y)])) (fun _ kq => XS.iloadN X.here hx rfl (hb hby d1_161) rfl kq) ?_
      refine own_st (T' := T) (F' := (mkF m 164 #[.val (.int y)] [(.int (64975 : Int32)), (.int y)])) (fun _ kq => X.ldcInt hx hown (mvT hZ (hw _ (List.mem_of_getElem? (i := 25) rfl))) (g := (mkF m 162 #[.val (.int y)] [(.int y)])) rfl (hb hby d1_162) _ kq) ?_
      by_cases hc164_6 : (64975 : Int32) < y
      ·
        rw [if_pos hc164_6]
        refine own_st (T' := T) (F' := (mkF m 167 #[.val (.int y)] [])) (fun _ kq => XS.icmpNo X.here hx rfl (hb hby d1_164) rfl (tlt hc164_6).2.2.2 kq) ?_
        exact J167  T _ X eT N
      ·
        rw [if_neg hc164_6]
        refine own_st (T' := T) (F' := (mkF m 191 #[.val (.int y)] [])) (fun _ kq => XS.icmpYes X.here hx rfl (pc0 := 164) (pc' := 191) rfl (hb hby d1_164) rfl (flt hc164_6).2.2.2 (by decide) (by decide) kq) ?_
        refine own_st (T' := T) (F' := (mkF m 192 #[.val (.int y)] [(.int (1 : Int32))])) (fun _ kq => XS.iconst X.here hx rfl (hb hby d1_191) kq) ?_
        refine own_st (T' := T) (F' := (mkF m 196 #[.val (.int y)] [(.int (1 : Int32))])) (fun _ kq => XS.goto X.here hx rfl (pc0 := 192) (pc' := 196) rfl (hb hby d1_192) (by decide) (by decide) kq) ?_
        exact own_retN X hx hlk hret (by simp) (hb hby d1_196) (by decide) (by decide) (own_PQi rfl N eT)
  have J142 : ∀ (T : State) (locs : List Loc) (X : Stand p l e ({ frames := 0, cells := 0, slots := 0, locals := 0 } : Room) s m #[(.int y)] below meth c T locs 0 0) (eT : T.heap = h0) (N : Fr n0 locs), own_Ends p e below s 0 0 (own_PQ (.int (f1_142 y)) h0 n0) T (mkF m 142 #[.val (.int y)] []) := by
    intro T locs X eT N
    unfold f1_142
    refine own_st (T' := T) (F' := (mkF m 143 #[.val (.int y)] [(.int y)])) (fun _ kq => XS.iloadN X.here hx rfl (hb hby d1_142) rfl kq) ?_
    refine own_st (T' := T) (F' := (mkF m 146 #[.val (.int y)] [(.int (12289 : Int32)), (.int y)])) (fun _ kq => XS.sipush X.here hx rfl (hb hby d1_143) kq) ?_
    by_cases hc146_7 : y < (12289 : Int32)
    ·
      rw [if_pos hc146_7]
      refine own_st (T' := T) (F' := (mkF m 155 #[.val (.int y)] [])) (fun _ kq => XS.icmpYes X.here hx rfl (pc0 := 146) (pc' := 155) rfl (hb hby d1_146) rfl (tlt hc146_7).1 (by decide) (by decide) kq) ?_
      exact J155  T _ X eT N
    ·
      rw [if_neg hc146_7]
      refine own_st (T' := T) (F' := (mkF m 149 #[.val (.int y)] [])) (fun _ kq => XS.icmpNo X.here hx rfl (hb hby d1_146) rfl (flt hc146_7).1 kq) ?_
      refine own_st (T' := T) (F' := (mkF m 150 #[.val (.int y)] [(.int y)])) (fun _ kq => XS.iloadN X.here hx rfl (hb hby d1_149) rfl kq) ?_
      refine own_st (T' := T) (F' := (mkF m 152 #[.val (.int y)] [(.int (55295 : Int32)), (.int y)])) (fun _ kq => X.ldcInt hx hown (mvT hZ (hw _ (List.mem_of_getElem? (i := 24) rfl))) (g := (mkF m 150 #[.val (.int y)] [(.int y)])) rfl (hb hby d1_150) _ kq) ?_
      by_cases hc152_8 : (55295 : Int32) < y
      ·
        rw [if_pos hc152_8]
        refine own_st (T' := T) (F' := (mkF m 155 #[.val (.int y)] [])) (fun _ kq => XS.icmpNo X.here hx rfl (hb hby d1_152) rfl (tlt hc152_8).2.2.2 kq) ?_
        exact J155  T _ X eT N
      ·
        rw [if_neg hc152_8]
        refine own_st (T' := T) (F' := (mkF m 191 #[.val (.int y)] [])) (fun _ kq => XS.icmpYes X.here hx rfl (pc0 := 152) (pc' := 191) rfl (hb hby d1_152) rfl (flt hc152_8).2.2.2 (by decide) (by decide) kq) ?_
        refine own_st (T' := T) (F' := (mkF m 192 #[.val (.int y)] [(.int (1 : Int32))])) (fun _ kq => XS.iconst X.here hx rfl (hb hby d1_191) kq) ?_
        refine own_st (T' := T) (F' := (mkF m 196 #[.val (.int y)] [(.int (1 : Int32))])) (fun _ kq => XS.goto X.here hx rfl (pc0 := 192) (pc' := 196) rfl (hb hby d1_192) (by decide) (by decide) kq) ?_
        exact own_retN X hx hlk hret (by simp) (hb hby d1_196) (by decide) (by decide) (own_PQi rfl N eT)
  have J128 : ∀ (T : State) (locs : List Loc) (X : Stand p l e ({ frames := 0, cells := 0, slots := 0, locals := 0 } : Room) s m #[(.int y)] below meth c T locs 0 0) (eT : T.heap = h0) (N : Fr n0 locs), own_Ends p e below s 0 0 (own_PQ (.int (f1_128 y)) h0 n0) T (mkF m 128 #[.val (.int y)] []) := by
    intro T locs X eT N
    unfold f1_128
    refine own_st (T' := T) (F' := (mkF m 129 #[.val (.int y)] [(.int y)])) (fun _ kq => XS.iloadN X.here hx rfl (hb hby d1_128) rfl kq) ?_
    refine own_st (T' := T) (F' := (mkF m 132 #[.val (.int y)] [(.int (11264 : Int32)), (.int y)])) (fun _ kq => XS.sipush X.here hx rfl (hb hby d1_129) kq) ?_
    by_cases hc132_9 : y < (11264 : Int32)
    ·
      rw [if_pos hc132_9]
      refine own_st (T' := T) (F' := (mkF m 142 #[.val (.int y)] [])) (fun _ kq => XS.icmpYes X.here hx rfl (pc0 := 132) (pc' := 142) rfl (hb hby d1_132) rfl (tlt hc132_9).1 (by decide) (by decide) kq) ?_
      exact J142  T _ X eT N
    ·
      rw [if_neg hc132_9]
      refine own_st (T' := T) (F' := (mkF m 135 #[.val (.int y)] [])) (fun _ kq => XS.icmpNo X.here hx rfl (hb hby d1_132) rfl (flt hc132_9).1 kq) ?_
      refine own_st (T' := T) (F' := (mkF m 136 #[.val (.int y)] [(.int y)])) (fun _ kq => XS.iloadN X.here hx rfl (hb hby d1_135) rfl kq) ?_
      refine own_st (T' := T) (F' := (mkF m 139 #[.val (.int y)] [(.int (12271 : Int32)), (.int y)])) (fun _ kq => XS.sipush X.here hx rfl (hb hby d1_136) kq) ?_
      by_cases hc139_10 : (12271 : Int32) < y
      ·
        rw [if_pos hc139_10]
        refine own_st (T' := T) (F' := (mkF m 142 #[.val (.int y)] [])) (fun _ kq => XS.icmpNo X.here hx rfl (hb hby d1_139) rfl (tlt hc139_10).2.2.2 kq) ?_
        exact J142  T _ X eT N
      ·
        rw [if_neg hc139_10]
        refine own_st (T' := T) (F' := (mkF m 191 #[.val (.int y)] [])) (fun _ kq => XS.icmpYes X.here hx rfl (pc0 := 139) (pc' := 191) rfl (hb hby d1_139) rfl (flt hc139_10).2.2.2 (by decide) (by decide) kq) ?_
        refine own_st (T' := T) (F' := (mkF m 192 #[.val (.int y)] [(.int (1 : Int32))])) (fun _ kq => XS.iconst X.here hx rfl (hb hby d1_191) kq) ?_
        refine own_st (T' := T) (F' := (mkF m 196 #[.val (.int y)] [(.int (1 : Int32))])) (fun _ kq => XS.goto X.here hx rfl (pc0 := 192) (pc' := 196) rfl (hb hby d1_192) (by decide) (by decide) kq) ?_
        exact own_retN X hx hlk hret (by simp) (hb hby d1_196) (by decide) (by decide) (own_PQi rfl N eT)
  have J114 : ∀ (T : State) (locs : List Loc) (X : Stand p l e ({ frames := 0, cells := 0, slots := 0, locals := 0 } : Room) s m #[(.int y)] below meth c T locs 0 0) (eT : T.heap = h0) (N : Fr n0 locs), own_Ends p e below s 0 0 (own_PQ (.int (f1_114 y)) h0 n0) T (mkF m 114 #[.val (.int y)] []) := by
    intro T locs X eT N
    unfold f1_114
    refine own_st (T' := T) (F' := (mkF m 115 #[.val (.int y)] [(.int y)])) (fun _ kq => XS.iloadN X.here hx rfl (hb hby d1_114) rfl kq) ?_
    refine own_st (T' := T) (F' := (mkF m 118 #[.val (.int y)] [(.int (8304 : Int32)), (.int y)])) (fun _ kq => XS.sipush X.here hx rfl (hb hby d1_115) kq) ?_
    by_cases hc118_11 : y < (8304 : Int32)
    ·
      rw [if_pos hc118_11]
      refine own_st (T' := T) (F' := (mkF m 128 #[.val (.int y)] [])) (fun _ kq => XS.icmpYes X.here hx rfl (pc0 := 118) (pc' := 128) rfl (hb hby d1_118) rfl (tlt hc118_11).1 (by decide) (by decide) kq) ?_
      exact J128  T _ X eT N
    ·
      rw [if_neg hc118_11]
      refine own_st (T' := T) (F' := (mkF m 121 #[.val (.int y)] [])) (fun _ kq => XS.icmpNo X.here hx rfl (hb hby d1_118) rfl (flt hc118_11).1 kq) ?_
      refine own_st (T' := T) (F' := (mkF m 122 #[.val (.int y)] [(.int y)])) (fun _ kq => XS.iloadN X.here hx rfl (hb hby d1_121) rfl kq) ?_
      refine own_st (T' := T) (F' := (mkF m 125 #[.val (.int y)] [(.int (8591 : Int32)), (.int y)])) (fun _ kq => XS.sipush X.here hx rfl (hb hby d1_122) kq) ?_
      by_cases hc125_12 : (8591 : Int32) < y
      ·
        rw [if_pos hc125_12]
        refine own_st (T' := T) (F' := (mkF m 128 #[.val (.int y)] [])) (fun _ kq => XS.icmpNo X.here hx rfl (hb hby d1_125) rfl (tlt hc125_12).2.2.2 kq) ?_
        exact J128  T _ X eT N
      ·
        rw [if_neg hc125_12]
        refine own_st (T' := T) (F' := (mkF m 191 #[.val (.int y)] [])) (fun _ kq => XS.icmpYes X.here hx rfl (pc0 := 125) (pc' := 191) rfl (hb hby d1_125) rfl (flt hc125_12).2.2.2 (by decide) (by decide) kq) ?_
        refine own_st (T' := T) (F' := (mkF m 192 #[.val (.int y)] [(.int (1 : Int32))])) (fun _ kq => XS.iconst X.here hx rfl (hb hby d1_191) kq) ?_
        refine own_st (T' := T) (F' := (mkF m 196 #[.val (.int y)] [(.int (1 : Int32))])) (fun _ kq => XS.goto X.here hx rfl (pc0 := 192) (pc' := 196) rfl (hb hby d1_192) (by decide) (by decide) kq) ?_
        exact own_retN X hx hlk hret (by simp) (hb hby d1_196) (by decide) (by decide) (own_PQi rfl N eT)
  have J100 : ∀ (T : State) (locs : List Loc) (X : Stand p l e ({ frames := 0, cells := 0, slots := 0, locals := 0 } : Room) s m #[(.int y)] below meth c T locs 0 0) (eT : T.heap = h0) (N : Fr n0 locs), own_Ends p e below s 0 0 (own_PQ (.int (f1_100 y)) h0 n0) T (mkF m 100 #[.val (.int y)] []) := by
    intro T locs X eT N
    unfold f1_100
    refine own_st (T' := T) (F' := (mkF m 101 #[.val (.int y)] [(.int y)])) (fun _ kq => XS.iloadN X.here hx rfl (hb hby d1_100) rfl kq) ?_
    refine own_st (T' := T) (F' := (mkF m 104 #[.val (.int y)] [(.int (8204 : Int32)), (.int y)])) (fun _ kq => XS.sipush X.here hx rfl (hb hby d1_101) kq) ?_
    by_cases hc104_13 : y < (8204 : Int32)
    ·
      rw [if_pos hc104_13]
      refine own_st (T' := T) (F' := (mkF m 114 #[.val (.int y)] [])) (fun _ kq => XS.icmpYes X.here hx rfl (pc0 := 104) (pc' := 114) rfl (hb hby d1_104) rfl (tlt hc104_13).1 (by decide) (by decide) kq) ?_
      exact J114  T _ X eT N
    ·
      rw [if_neg hc104_13]
      refine own_st (T' := T) (F' := (mkF m 107 #[.val (.int y)] [])) (fun _ kq => XS.icmpNo X.here hx rfl (hb hby d1_104) rfl (flt hc104_13).1 kq) ?_
      refine own_st (T' := T) (F' := (mkF m 108 #[.val (.int y)] [(.int y)])) (fun _ kq => XS.iloadN X.here hx rfl (hb hby d1_107) rfl kq) ?_
      refine own_st (T' := T) (F' := (mkF m 111 #[.val (.int y)] [(.int (8205 : Int32)), (.int y)])) (fun _ kq => XS.sipush X.here hx rfl (hb hby d1_108) kq) ?_
      by_cases hc111_14 : (8205 : Int32) < y
      ·
        rw [if_pos hc111_14]
        refine own_st (T' := T) (F' := (mkF m 114 #[.val (.int y)] [])) (fun _ kq => XS.icmpNo X.here hx rfl (hb hby d1_111) rfl (tlt hc111_14).2.2.2 kq) ?_
        exact J114  T _ X eT N
      ·
        rw [if_neg hc111_14]
        refine own_st (T' := T) (F' := (mkF m 191 #[.val (.int y)] [])) (fun _ kq => XS.icmpYes X.here hx rfl (pc0 := 111) (pc' := 191) rfl (hb hby d1_111) rfl (flt hc111_14).2.2.2 (by decide) (by decide) kq) ?_
        refine own_st (T' := T) (F' := (mkF m 192 #[.val (.int y)] [(.int (1 : Int32))])) (fun _ kq => XS.iconst X.here hx rfl (hb hby d1_191) kq) ?_
        refine own_st (T' := T) (F' := (mkF m 196 #[.val (.int y)] [(.int (1 : Int32))])) (fun _ kq => XS.goto X.here hx rfl (pc0 := 192) (pc' := 196) rfl (hb hby d1_192) (by decide) (by decide) kq) ?_
        exact own_retN X hx hlk hret (by simp) (hb hby d1_196) (by decide) (by decide) (own_PQi rfl N eT)
  have J86 : ∀ (T : State) (locs : List Loc) (X : Stand p l e ({ frames := 0, cells := 0, slots := 0, locals := 0 } : Room) s m #[(.int y)] below meth c T locs 0 0) (eT : T.heap = h0) (N : Fr n0 locs), own_Ends p e below s 0 0 (own_PQ (.int (f1_86 y)) h0 n0) T (mkF m 86 #[.val (.int y)] []) := by
    intro T locs X eT N
    unfold f1_86
    refine own_st (T' := T) (F' := (mkF m 87 #[.val (.int y)] [(.int y)])) (fun _ kq => XS.iloadN X.here hx rfl (hb hby d1_86) rfl kq) ?_
    refine own_st (T' := T) (F' := (mkF m 90 #[.val (.int y)] [(.int (895 : Int32)), (.int y)])) (fun _ kq => XS.sipush X.here hx rfl (hb hby d1_87) kq) ?_
    by_cases hc90_15 : y < (895 : Int32)
    ·
      rw [if_pos hc90_15]
      refine own_st (T' := T) (F' := (mkF m 100 #[.val (.int y)] [])) (fun _ kq => XS.icmpYes X.here hx rfl (pc0 := 90) (pc' := 100) rfl (hb hby d1_90) rfl (tlt hc90_15).1 (by decide) (by decide) kq) ?_
      exact J100  T _ X eT N
    ·
      rw [if_neg hc90_15]
      refine own_st (T' := T) (F' := (mkF m 93 #[.val (.int y)] [])) (fun _ kq => XS.icmpNo X.here hx rfl (hb hby d1_90) rfl (flt hc90_15).1 kq) ?_
      refine own_st (T' := T) (F' := (mkF m 94 #[.val (.int y)] [(.int y)])) (fun _ kq => XS.iloadN X.here hx rfl (hb hby d1_93) rfl kq) ?_
      refine own_st (T' := T) (F' := (mkF m 97 #[.val (.int y)] [(.int (8191 : Int32)), (.int y)])) (fun _ kq => XS.sipush X.here hx rfl (hb hby d1_94) kq) ?_
      by_cases hc97_16 : (8191 : Int32) < y
      ·
        rw [if_pos hc97_16]
        refine own_st (T' := T) (F' := (mkF m 100 #[.val (.int y)] [])) (fun _ kq => XS.icmpNo X.here hx rfl (hb hby d1_97) rfl (tlt hc97_16).2.2.2 kq) ?_
        exact J100  T _ X eT N
      ·
        rw [if_neg hc97_16]
        refine own_st (T' := T) (F' := (mkF m 191 #[.val (.int y)] [])) (fun _ kq => XS.icmpYes X.here hx rfl (pc0 := 97) (pc' := 191) rfl (hb hby d1_97) rfl (flt hc97_16).2.2.2 (by decide) (by decide) kq) ?_
        refine own_st (T' := T) (F' := (mkF m 192 #[.val (.int y)] [(.int (1 : Int32))])) (fun _ kq => XS.iconst X.here hx rfl (hb hby d1_191) kq) ?_
        refine own_st (T' := T) (F' := (mkF m 196 #[.val (.int y)] [(.int (1 : Int32))])) (fun _ kq => XS.goto X.here hx rfl (pc0 := 192) (pc' := 196) rfl (hb hby d1_192) (by decide) (by decide) kq) ?_
        exact own_retN X hx hlk hret (by simp) (hb hby d1_196) (by decide) (by decide) (own_PQi rfl N eT)
  have J72 : ∀ (T : State) (locs : List Loc) (X : Stand p l e ({ frames := 0, cells := 0, slots := 0, locals := 0 } : Room) s m #[(.int y)] below meth c T locs 0 0) (eT : T.heap = h0) (N : Fr n0 locs), own_Ends p e below s 0 0 (own_PQ (.int (f1_72 y)) h0 n0) T (mkF m 72 #[.val (.int y)] []) := by
    intro T locs X eT N
    unfold f1_72
    refine own_st (T' := T) (F' := (mkF m 73 #[.val (.int y)] [(.int y)])) (fun _ kq => XS.iloadN X.here hx rfl (hb hby d1_72) rfl kq) ?_
    refine own_st (T' := T) (F' := (mkF m 76 #[.val (.int y)] [(.int (880 : Int32)), (.int y)])) (fun _ kq => XS.sipush X.here hx rfl (hb hby d1_73) kq) ?_
    by_cases hc76_17 : y < (880 : Int32)
    ·
      rw [if_pos hc76_17]
      refine own_st (T' := T) (F' := (mkF m 86 #[.val (.int y)] [])) (fun _ kq => XS.icmpYes X.here hx rfl (pc0 := 76) (pc' := 86) rfl (hb hby d1_76) rfl (tlt hc76_17).1 (by decide) (by decide) kq) ?_
      exact J86  T _ X eT N
    ·
      rw [if_neg hc76_17]
      refine own_st (T' := T) (F' := (mkF m 79 #[.val (.int y)] [])) (fun _ kq => XS.icmpNo X.here hx rfl (hb hby d1_76) rfl (flt hc76_17).1 kq) ?_
      refine own_st (T' := T) (F' := (mkF m 80 #[.val (.int y)] [(.int y)])) (fun _ kq => XS.iloadN X.here hx rfl (hb hby d1_79) rfl kq) ?_
      refine own_st (T' := T) (F' := (mkF m 83 #[.val (.int y)] [(.int (893 : Int32)), (.int y)])) (fun _ kq => XS.sipush X.here hx rfl (hb hby d1_80) kq) ?_
      by_cases hc83_18 : (893 : Int32) < y
      ·
        rw [if_pos hc83_18]
        refine own_st (T' := T) (F' := (mkF m 86 #[.val (.int y)] [])) (fun _ kq => XS.icmpNo X.here hx rfl (hb hby d1_83) rfl (tlt hc83_18).2.2.2 kq) ?_
        exact J86  T _ X eT N
      ·
        rw [if_neg hc83_18]
        refine own_st (T' := T) (F' := (mkF m 191 #[.val (.int y)] [])) (fun _ kq => XS.icmpYes X.here hx rfl (pc0 := 83) (pc' := 191) rfl (hb hby d1_83) rfl (flt hc83_18).2.2.2 (by decide) (by decide) kq) ?_
        refine own_st (T' := T) (F' := (mkF m 192 #[.val (.int y)] [(.int (1 : Int32))])) (fun _ kq => XS.iconst X.here hx rfl (hb hby d1_191) kq) ?_
        refine own_st (T' := T) (F' := (mkF m 196 #[.val (.int y)] [(.int (1 : Int32))])) (fun _ kq => XS.goto X.here hx rfl (pc0 := 192) (pc' := 196) rfl (hb hby d1_192) (by decide) (by decide) kq) ?_
        exact own_retN X hx hlk hret (by simp) (hb hby d1_196) (by decide) (by decide) (own_PQi rfl N eT)
  have J58 : ∀ (T : State) (locs : List Loc) (X : Stand p l e ({ frames := 0, cells := 0, slots := 0, locals := 0 } : Room) s m #[(.int y)] below meth c T locs 0 0) (eT : T.heap = h0) (N : Fr n0 locs), own_Ends p e below s 0 0 (own_PQ (.int (f1_58 y)) h0 n0) T (mkF m 58 #[.val (.int y)] []) := by
    intro T locs X eT N
    unfold f1_58
    refine own_st (T' := T) (F' := (mkF m 59 #[.val (.int y)] [(.int y)])) (fun _ kq => XS.iloadN X.here hx rfl (hb hby d1_58) rfl kq) ?_
    refine own_st (T' := T) (F' := (mkF m 62 #[.val (.int y)] [(.int (248 : Int32)), (.int y)])) (fun _ kq => XS.sipush X.here hx rfl (hb hby d1_59) kq) ?_
    by_cases hc62_19 : y < (248 : Int32)
    ·
      rw [if_pos hc62_19]
      refine own_st (T' := T) (F' := (mkF m 72 #[.val (.int y)] [])) (fun _ kq => XS.icmpYes X.here hx rfl (pc0 := 62) (pc' := 72) rfl (hb hby d1_62) rfl (tlt hc62_19).1 (by decide) (by decide) kq) ?_
      exact J72  T _ X eT N
    ·
      rw [if_neg hc62_19]
      refine own_st (T' := T) (F' := (mkF m 65 #[.val (.int y)] [])) (fun _ kq => XS.icmpNo X.here hx rfl (hb hby d1_62) rfl (flt hc62_19).1 kq) ?_
      refine own_st (T' := T) (F' := (mkF m 66 #[.val (.int y)] [(.int y)])) (fun _ kq => XS.iloadN X.here hx rfl (hb hby d1_65) rfl kq) ?_
      refine own_st (T' := T) (F' := (mkF m 69 #[.val (.int y)] [(.int (767 : Int32)), (.int y)])) (fun _ kq => XS.sipush X.here hx rfl (hb hby d1_66) kq) ?_
      by_cases hc69_20 : (767 : Int32) < y
      ·
        rw [if_pos hc69_20]
        refine own_st (T' := T) (F' := (mkF m 72 #[.val (.int y)] [])) (fun _ kq => XS.icmpNo X.here hx rfl (hb hby d1_69) rfl (tlt hc69_20).2.2.2 kq) ?_
        exact J72  T _ X eT N
      ·
        rw [if_neg hc69_20]
        refine own_st (T' := T) (F' := (mkF m 191 #[.val (.int y)] [])) (fun _ kq => XS.icmpYes X.here hx rfl (pc0 := 69) (pc' := 191) rfl (hb hby d1_69) rfl (flt hc69_20).2.2.2 (by decide) (by decide) kq) ?_
        refine own_st (T' := T) (F' := (mkF m 192 #[.val (.int y)] [(.int (1 : Int32))])) (fun _ kq => XS.iconst X.here hx rfl (hb hby d1_191) kq) ?_
        refine own_st (T' := T) (F' := (mkF m 196 #[.val (.int y)] [(.int (1 : Int32))])) (fun _ kq => XS.goto X.here hx rfl (pc0 := 192) (pc' := 196) rfl (hb hby d1_192) (by decide) (by decide) kq) ?_
        exact own_retN X hx hlk hret (by simp) (hb hby d1_196) (by decide) (by decide) (own_PQi rfl N eT)
  have J44 : ∀ (T : State) (locs : List Loc) (X : Stand p l e ({ frames := 0, cells := 0, slots := 0, locals := 0 } : Room) s m #[(.int y)] below meth c T locs 0 0) (eT : T.heap = h0) (N : Fr n0 locs), own_Ends p e below s 0 0 (own_PQ (.int (f1_44 y)) h0 n0) T (mkF m 44 #[.val (.int y)] []) := by
    intro T locs X eT N
    unfold f1_44
    refine own_st (T' := T) (F' := (mkF m 45 #[.val (.int y)] [(.int y)])) (fun _ kq => XS.iloadN X.here hx rfl (hb hby d1_44) rfl kq) ?_
    refine own_st (T' := T) (F' := (mkF m 48 #[.val (.int y)] [(.int (216 : Int32)), (.int y)])) (fun _ kq => XS.sipush X.here hx rfl (hb hby d1_45) kq) ?_
    by_cases hc48_21 : y < (216 : Int32)
    ·
      rw [if_pos hc48_21]
      refine own_st (T' := T) (F' := (mkF m 58 #[.val (.int y)] [])) (fun _ kq => XS.icmpYes X.here hx rfl (pc0 := 48) (pc' := 58) rfl (hb hby d1_48) rfl (tlt hc48_21).1 (by decide) (by decide) kq) ?_
      exact J58  T _ X eT N
    ·
      rw [if_neg hc48_21]
      refine own_st (T' := T) (F' := (mkF m 51 #[.val (.int y)] [])) (fun _ kq => XS.icmpNo X.here hx rfl (hb hby d1_48) rfl (flt hc48_21).1 kq) ?_
      refine own_st (T' := T) (F' := (mkF m 52 #[.val (.int y)] [(.int y)])) (fun _ kq => XS.iloadN X.here hx rfl (hb hby d1_51) rfl kq) ?_
      refine own_st (T' := T) (F' := (mkF m 55 #[.val (.int y)] [(.int (246 : Int32)), (.int y)])) (fun _ kq => XS.sipush X.here hx rfl (hb hby d1_52) kq) ?_
      by_cases hc55_22 : (246 : Int32) < y
      ·
        rw [if_pos hc55_22]
        refine own_st (T' := T) (F' := (mkF m 58 #[.val (.int y)] [])) (fun _ kq => XS.icmpNo X.here hx rfl (hb hby d1_55) rfl (tlt hc55_22).2.2.2 kq) ?_
        exact J58  T _ X eT N
      ·
        rw [if_neg hc55_22]
        refine own_st (T' := T) (F' := (mkF m 191 #[.val (.int y)] [])) (fun _ kq => XS.icmpYes X.here hx rfl (pc0 := 55) (pc' := 191) rfl (hb hby d1_55) rfl (flt hc55_22).2.2.2 (by decide) (by decide) kq) ?_
        refine own_st (T' := T) (F' := (mkF m 192 #[.val (.int y)] [(.int (1 : Int32))])) (fun _ kq => XS.iconst X.here hx rfl (hb hby d1_191) kq) ?_
        refine own_st (T' := T) (F' := (mkF m 196 #[.val (.int y)] [(.int (1 : Int32))])) (fun _ kq => XS.goto X.here hx rfl (pc0 := 192) (pc' := 196) rfl (hb hby d1_192) (by decide) (by decide) kq) ?_
        exact own_retN X hx hlk hret (by simp) (hb hby d1_196) (by decide) (by decide) (own_PQi rfl N eT)
  have J24 : ∀ (T : State) (locs : List Loc) (X : Stand p l e ({ frames := 0, cells := 0, slots := 0, locals := 0 } : Room) s m #[(.int y)] below meth c T locs 0 0) (eT : T.heap = h0) (N : Fr n0 locs), own_Ends p e below s 0 0 (own_PQ (.int (f1_24 y)) h0 n0) T (mkF m 24 #[.val (.int y)] []) := by
    intro T locs X eT N
    unfold f1_24
    refine own_st (T' := T) (F' := (mkF m 25 #[.val (.int y)] [(.int y)])) (fun _ kq => XS.iloadN X.here hx rfl (hb hby d1_24) rfl kq) ?_
    refine own_st (T' := T) (F' := (mkF m 27 #[.val (.int y)] [(.int (95 : Int32)), (.int y)])) (fun _ kq => XS.bipush X.here hx rfl (hb hby d1_25) kq) ?_
    by_cases hc27_23 : y = (95 : Int32)
    ·
      rw [if_pos hc27_23]
      refine own_st (T' := T) (F' := (mkF m 191 #[.val (.int y)] [])) (fun _ kq => XS.icmpYes X.here hx rfl (pc0 := 27) (pc' := 191) rfl (hb hby d1_27) rfl (teq hc27_23).1 (by decide) (by decide) kq) ?_
      refine own_st (T' := T) (F' := (mkF m 192 #[.val (.int y)] [(.int (1 : Int32))])) (fun _ kq => XS.iconst X.here hx rfl (hb hby d1_191) kq) ?_
      refine own_st (T' := T) (F' := (mkF m 196 #[.val (.int y)] [(.int (1 : Int32))])) (fun _ kq => XS.goto X.here hx rfl (pc0 := 192) (pc' := 196) rfl (hb hby d1_192) (by decide) (by decide) kq) ?_
      exact own_retN X hx hlk hret (by simp) (hb hby d1_196) (by decide) (by decide) (own_PQi rfl N eT)
    ·
      rw [if_neg hc27_23]
      refine own_st (T' := T) (F' := (mkF m 30 #[.val (.int y)] [])) (fun _ kq => XS.icmpNo X.here hx rfl (hb hby d1_27) rfl (feq hc27_23).1 kq) ?_
      refine own_st (T' := T) (F' := (mkF m 31 #[.val (.int y)] [(.int y)])) (fun _ kq => XS.iloadN X.here hx rfl (hb hby d1_30) rfl kq) ?_
      refine own_st (T' := T) (F' := (mkF m 34 #[.val (.int y)] [(.int (192 : Int32)), (.int y)])) (fun _ kq => XS.sipush X.here hx rfl (hb hby d1_31) kq) ?_
      by_cases hc34_24 : y < (192 : Int32)
      ·
        rw [if_pos hc34_24]
        refine own_st (T' := T) (F' := (mkF m 44 #[.val (.int y)] [])) (fun _ kq => XS.icmpYes X.here hx rfl (pc0 := 34) (pc' := 44) rfl (hb hby d1_34) rfl (tlt hc34_24).1 (by decide) (by decide) kq) ?_
        exact J44  T _ X eT N
      ·
        rw [if_neg hc34_24]
        refine own_st (T' := T) (F' := (mkF m 37 #[.val (.int y)] [])) (fun _ kq => XS.icmpNo X.here hx rfl (hb hby d1_34) rfl (flt hc34_24).1 kq) ?_
        refine own_st (T' := T) (F' := (mkF m 38 #[.val (.int y)] [(.int y)])) (fun _ kq => XS.iloadN X.here hx rfl (hb hby d1_37) rfl kq) ?_
        refine own_st (T' := T) (F' := (mkF m 41 #[.val (.int y)] [(.int (214 : Int32)), (.int y)])) (fun _ kq => XS.sipush X.here hx rfl (hb hby d1_38) kq) ?_
        by_cases hc41_25 : (214 : Int32) < y
        ·
          rw [if_pos hc41_25]
          refine own_st (T' := T) (F' := (mkF m 44 #[.val (.int y)] [])) (fun _ kq => XS.icmpNo X.here hx rfl (hb hby d1_41) rfl (tlt hc41_25).2.2.2 kq) ?_
          exact J44  T _ X eT N
        ·
          rw [if_neg hc41_25]
          refine own_st (T' := T) (F' := (mkF m 191 #[.val (.int y)] [])) (fun _ kq => XS.icmpYes X.here hx rfl (pc0 := 41) (pc' := 191) rfl (hb hby d1_41) rfl (flt hc41_25).2.2.2 (by decide) (by decide) kq) ?_
          refine own_st (T' := T) (F' := (mkF m 192 #[.val (.int y)] [(.int (1 : Int32))])) (fun _ kq => XS.iconst X.here hx rfl (hb hby d1_191) kq) ?_
          refine own_st (T' := T) (F' := (mkF m 196 #[.val (.int y)] [(.int (1 : Int32))])) (fun _ kq => XS.goto X.here hx rfl (pc0 := 192) (pc' := 196) rfl (hb hby d1_192) (by decide) (by decide) kq) ?_
          exact own_retN X hx hlk hret (by simp) (hb hby d1_196) (by decide) (by decide) (own_PQi rfl N eT)
  have J12 : ∀ (T : State) (locs : List Loc) (X : Stand p l e ({ frames := 0, cells := 0, slots := 0, locals := 0 } : Room) s m #[(.int y)] below meth c T locs 0 0) (eT : T.heap = h0) (N : Fr n0 locs), own_Ends p e below s 0 0 (own_PQ (.int (f1_12 y)) h0 n0) T (mkF m 12 #[.val (.int y)] []) := by
    intro T locs X eT N
    unfold f1_12
    refine own_st (T' := T) (F' := (mkF m 13 #[.val (.int y)] [(.int y)])) (fun _ kq => XS.iloadN X.here hx rfl (hb hby d1_12) rfl kq) ?_
    refine own_st (T' := T) (F' := (mkF m 15 #[.val (.int y)] [(.int (65 : Int32)), (.int y)])) (fun _ kq => XS.bipush X.here hx rfl (hb hby d1_13) kq) ?_
    by_cases hc15_26 : y < (65 : Int32)
    ·
      rw [if_pos hc15_26]
      refine own_st (T' := T) (F' := (mkF m 24 #[.val (.int y)] [])) (fun _ kq => XS.icmpYes X.here hx rfl (pc0 := 15) (pc' := 24) rfl (hb hby d1_15) rfl (tlt hc15_26).1 (by decide) (by decide) kq) ?_
      exact J24  T _ X eT N
    ·
      rw [if_neg hc15_26]
      refine own_st (T' := T) (F' := (mkF m 18 #[.val (.int y)] [])) (fun _ kq => XS.icmpNo X.here hx rfl (hb hby d1_15) rfl (flt hc15_26).1 kq) ?_
      refine own_st (T' := T) (F' := (mkF m 19 #[.val (.int y)] [(.int y)])) (fun _ kq => XS.iloadN X.here hx rfl (hb hby d1_18) rfl kq) ?_
      refine own_st (T' := T) (F' := (mkF m 21 #[.val (.int y)] [(.int (90 : Int32)), (.int y)])) (fun _ kq => XS.bipush X.here hx rfl (hb hby d1_19) kq) ?_
      by_cases hc21_27 : (90 : Int32) < y
      ·
        rw [if_pos hc21_27]
        refine own_st (T' := T) (F' := (mkF m 24 #[.val (.int y)] [])) (fun _ kq => XS.icmpNo X.here hx rfl (hb hby d1_21) rfl (tlt hc21_27).2.2.2 kq) ?_
        exact J24  T _ X eT N
      ·
        rw [if_neg hc21_27]
        refine own_st (T' := T) (F' := (mkF m 191 #[.val (.int y)] [])) (fun _ kq => XS.icmpYes X.here hx rfl (pc0 := 21) (pc' := 191) rfl (hb hby d1_21) rfl (flt hc21_27).2.2.2 (by decide) (by decide) kq) ?_
        refine own_st (T' := T) (F' := (mkF m 192 #[.val (.int y)] [(.int (1 : Int32))])) (fun _ kq => XS.iconst X.here hx rfl (hb hby d1_191) kq) ?_
        refine own_st (T' := T) (F' := (mkF m 196 #[.val (.int y)] [(.int (1 : Int32))])) (fun _ kq => XS.goto X.here hx rfl (pc0 := 192) (pc' := 196) rfl (hb hby d1_192) (by decide) (by decide) kq) ?_
        exact own_retN X hx hlk hret (by simp) (hb hby d1_196) (by decide) (by decide) (own_PQi rfl N eT)
  have N := Fr.nil n0
  refine own_entry (ef1 m y) ?_
  unfold f1
  refine own_st (T' := T) (F' := (mkF m 1 #[.val (.int y)] [(.int y)])) (fun _ kq => XS.iloadN X.here hx rfl (hb hby d1_0) rfl kq) ?_
  refine own_st (T' := T) (F' := (mkF m 3 #[.val (.int y)] [(.int (97 : Int32)), (.int y)])) (fun _ kq => XS.bipush X.here hx rfl (hb hby d1_1) kq) ?_
  by_cases hc3_28 : y < (97 : Int32)
  ·
    rw [if_pos hc3_28]
    refine own_st (T' := T) (F' := (mkF m 12 #[.val (.int y)] [])) (fun _ kq => XS.icmpYes X.here hx rfl (pc0 := 3) (pc' := 12) rfl (hb hby d1_3) rfl (tlt hc3_28).1 (by decide) (by decide) kq) ?_
    exact J12  T _ X eT N
  ·
    rw [if_neg hc3_28]
    refine own_st (T' := T) (F' := (mkF m 6 #[.val (.int y)] [])) (fun _ kq => XS.icmpNo X.here hx rfl (hb hby d1_3) rfl (flt hc3_28).1 kq) ?_
    refine own_st (T' := T) (F' := (mkF m 7 #[.val (.int y)] [(.int y)])) (fun _ kq => XS.iloadN X.here hx rfl (hb hby d1_6) rfl kq) ?_
    refine own_st (T' := T) (F' := (mkF m 9 #[.val (.int y)] [(.int (122 : Int32)), (.int y)])) (fun _ kq => XS.bipush X.here hx rfl (hb hby d1_7) kq) ?_
    by_cases hc9_29 : (122 : Int32) < y
    ·
      rw [if_pos hc9_29]
      refine own_st (T' := T) (F' := (mkF m 12 #[.val (.int y)] [])) (fun _ kq => XS.icmpNo X.here hx rfl (hb hby d1_9) rfl (tlt hc9_29).2.2.2 kq) ?_
      exact J12  T _ X eT N
    ·
      rw [if_neg hc9_29]
      refine own_st (T' := T) (F' := (mkF m 191 #[.val (.int y)] [])) (fun _ kq => XS.icmpYes X.here hx rfl (pc0 := 9) (pc' := 191) rfl (hb hby d1_9) rfl (flt hc9_29).2.2.2 (by decide) (by decide) kq) ?_
      refine own_st (T' := T) (F' := (mkF m 192 #[.val (.int y)] [(.int (1 : Int32))])) (fun _ kq => XS.iconst X.here hx rfl (hb hby d1_191) kq) ?_
      refine own_st (T' := T) (F' := (mkF m 196 #[.val (.int y)] [(.int (1 : Int32))])) (fun _ kq => XS.goto X.here hx rfl (pc0 := 192) (pc' := 196) rfl (hb hby d1_192) (by decide) (by decide) kq) ?_
      exact own_retN X hx hlk hret (by simp) (hb hby d1_196) (by decide) (by decide) (own_PQi rfl N eT)
theorem d2_0 : decode method_2_code 0 = .ok (.iload_n 0, 1) := by decide +kernel
theorem d2_1 : decode method_2_code 1 = .ok (.bipush 65, 2) := by decide +kernel
theorem d2_12 : decode method_2_code 12 = .ok (.iconst 0, 1) := by decide +kernel
theorem d2_6 : decode method_2_code 6 = .ok (.iload_n 0, 1) := by decide +kernel
theorem d2_7 : decode method_2_code 7 = .ok (.ldc 7, 2) := by decide +kernel
theorem d2_14 : decode method_2_code 14 = .ok (.iload_n 0, 1) := by decide +kernel
theorem d2_15 : decode method_2_code 15 = .ok (.bipush 91, 2) := by decide +kernel
theorem d2_20 : decode method_2_code 20 = .ok (.iload_n 0, 1) := by decide +kernel
theorem d2_21 : decode method_2_code 21 = .ok (.bipush 94, 2) := by decide +kernel
theorem d2_26 : decode method_2_code 26 = .ok (.iconst 0, 1) := by decide +kernel
theorem d2_28 : decode method_2_code 28 = .ok (.iload_n 0, 1) := by decide +kernel
theorem d2_29 : decode method_2_code 29 = .ok (.bipush 96, 2) := by decide +kernel
theorem d2_34 : decode method_2_code 34 = .ok (.iconst 0, 1) := by decide +kernel
theorem d2_36 : decode method_2_code 36 = .ok (.iload_n 0, 1) := by decide +kernel
theorem d2_37 : decode method_2_code 37 = .ok (.bipush 123, 2) := by decide +kernel
theorem d2_42 : decode method_2_code 42 = .ok (.iload_n 0, 1) := by decide +kernel
theorem d2_43 : decode method_2_code 43 = .ok (.sipush 191, 3) := by decide +kernel
theorem d2_49 : decode method_2_code 49 = .ok (.iconst 0, 1) := by decide +kernel
theorem d2_51 : decode method_2_code 51 = .ok (.iload_n 0, 1) := by decide +kernel
theorem d2_52 : decode method_2_code 52 = .ok (.sipush 215, 3) := by decide +kernel
theorem d2_58 : decode method_2_code 58 = .ok (.iconst 0, 1) := by decide +kernel
theorem d2_60 : decode method_2_code 60 = .ok (.iload_n 0, 1) := by decide +kernel
theorem d2_61 : decode method_2_code 61 = .ok (.sipush 247, 3) := by decide +kernel
theorem d2_67 : decode method_2_code 67 = .ok (.iconst 0, 1) := by decide +kernel
theorem d2_69 : decode method_2_code 69 = .ok (.iload_n 0, 1) := by decide +kernel
theorem d2_70 : decode method_2_code 70 = .ok (.sipush 768, 3) := by decide +kernel
theorem d2_76 : decode method_2_code 76 = .ok (.iload_n 0, 1) := by decide +kernel
theorem d2_77 : decode method_2_code 77 = .ok (.sipush 879, 3) := by decide +kernel
theorem d2_83 : decode method_2_code 83 = .ok (.iconst 0, 1) := by decide +kernel
theorem d2_85 : decode method_2_code 85 = .ok (.iload_n 0, 1) := by decide +kernel
theorem d2_86 : decode method_2_code 86 = .ok (.sipush 894, 3) := by decide +kernel
theorem d2_92 : decode method_2_code 92 = .ok (.iconst 0, 1) := by decide +kernel
theorem d2_94 : decode method_2_code 94 = .ok (.iload_n 0, 1) := by decide +kernel
theorem d2_95 : decode method_2_code 95 = .ok (.sipush 8192, 3) := by decide +kernel
theorem d2_101 : decode method_2_code 101 = .ok (.iload_n 0, 1) := by decide +kernel
theorem d2_102 : decode method_2_code 102 = .ok (.sipush 8203, 3) := by decide +kernel
theorem d2_108 : decode method_2_code 108 = .ok (.iconst 0, 1) := by decide +kernel
theorem d2_110 : decode method_2_code 110 = .ok (.iload_n 0, 1) := by decide +kernel
theorem d2_111 : decode method_2_code 111 = .ok (.sipush 8206, 3) := by decide +kernel
theorem d2_117 : decode method_2_code 117 = .ok (.iload_n 0, 1) := by decide +kernel
theorem d2_118 : decode method_2_code 118 = .ok (.sipush 8303, 3) := by decide +kernel
theorem d2_124 : decode method_2_code 124 = .ok (.iconst 0, 1) := by decide +kernel
theorem d2_126 : decode method_2_code 126 = .ok (.iload_n 0, 1) := by decide +kernel
theorem d2_127 : decode method_2_code 127 = .ok (.sipush 8592, 3) := by decide +kernel
theorem d2_133 : decode method_2_code 133 = .ok (.iload_n 0, 1) := by decide +kernel
theorem d2_134 : decode method_2_code 134 = .ok (.sipush 11263, 3) := by decide +kernel
theorem d2_140 : decode method_2_code 140 = .ok (.iconst 0, 1) := by decide +kernel
theorem d2_142 : decode method_2_code 142 = .ok (.iload_n 0, 1) := by decide +kernel
theorem d2_143 : decode method_2_code 143 = .ok (.sipush 12272, 3) := by decide +kernel
theorem d2_149 : decode method_2_code 149 = .ok (.iload_n 0, 1) := by decide +kernel
theorem d2_150 : decode method_2_code 150 = .ok (.sipush 12288, 3) := by decide +kernel
theorem d2_156 : decode method_2_code 156 = .ok (.iconst 0, 1) := by decide +kernel
theorem d2_158 : decode method_2_code 158 = .ok (.iload_n 0, 1) := by decide +kernel
theorem d2_159 : decode method_2_code 159 = .ok (.ldc 8, 2) := by decide +kernel
theorem d2_164 : decode method_2_code 164 = .ok (.iload_n 0, 1) := by decide +kernel
theorem d2_165 : decode method_2_code 165 = .ok (.ldc 9, 2) := by decide +kernel
theorem d2_170 : decode method_2_code 170 = .ok (.iconst 0, 1) := by decide +kernel
theorem d2_172 : decode method_2_code 172 = .ok (.iload_n 0, 1) := by decide +kernel
theorem d2_173 : decode method_2_code 173 = .ok (.ldc 10, 2) := by decide +kernel
theorem d2_178 : decode method_2_code 178 = .ok (.iload_n 0, 1) := by decide +kernel
theorem d2_179 : decode method_2_code 179 = .ok (.ldc 11, 2) := by decide +kernel
theorem d2_184 : decode method_2_code 184 = .ok (.iconst 0, 1) := by decide +kernel
theorem d2_186 : decode method_2_code 186 = .ok (.iload_n 0, 1) := by decide +kernel
theorem d2_187 : decode method_2_code 187 = .ok (.ldc 12, 2) := by decide +kernel
theorem d2_200 : decode method_2_code 200 = .ok (.iconst 1, 1) := by decide +kernel
theorem d2_192 : decode method_2_code 192 = .ok (.iload_n 0, 1) := by decide +kernel
theorem d2_193 : decode method_2_code 193 = .ok (.ldc 13, 2) := by decide +kernel
theorem d2_198 : decode method_2_code 198 = .ok (.iconst 0, 1) := by decide +kernel
theorem d2_189 : decode method_2_code 189 = .ok (.if_icmp .lt 11, 3) := by decide +kernel
theorem d2_201 : decode method_2_code 201 = .ok (.ireturn, 1) := by decide +kernel
theorem d2_195 : decode method_2_code 195 = .ok (.if_icmp .gt 5, 3) := by decide +kernel
theorem d2_199 : decode method_2_code 199 = .ok (.ireturn, 1) := by decide +kernel
theorem d2_175 : decode method_2_code 175 = .ok (.if_icmp .lt 11, 3) := by decide +kernel
theorem d2_181 : decode method_2_code 181 = .ok (.if_icmp .gt 5, 3) := by decide +kernel
theorem d2_185 : decode method_2_code 185 = .ok (.ireturn, 1) := by decide +kernel
theorem d2_161 : decode method_2_code 161 = .ok (.if_icmp .lt 11, 3) := by decide +kernel
theorem d2_167 : decode method_2_code 167 = .ok (.if_icmp .gt 5, 3) := by decide +kernel
theorem d2_171 : decode method_2_code 171 = .ok (.ireturn, 1) := by decide +kernel
theorem d2_146 : decode method_2_code 146 = .ok (.if_icmp .lt 12, 3) := by decide +kernel
theorem d2_153 : decode method_2_code 153 = .ok (.if_icmp .gt 5, 3) := by decide +kernel
theorem d2_157 : decode method_2_code 157 = .ok (.ireturn, 1) := by decide +kernel
theorem d2_130 : decode method_2_code 130 = .ok (.if_icmp .lt 12, 3) := by decide +kernel
theorem d2_137 : decode method_2_code 137 = .ok (.if_icmp .gt 5, 3) := by decide +kernel
theorem d2_141 : decode method_2_code 141 = .ok (.ireturn, 1) := by decide +kernel
theorem d2_114 : decode method_2_code 114 = .ok (.if_icmp .lt 12, 3) := by decide +kernel
theorem d2_121 : decode method_2_code 121 = .ok (.if_icmp .gt 5, 3) := by decide +kernel
theorem d2_125 : decode method_2_code 125 = .ok (.ireturn, 1) := by decide +kernel
theorem d2_89 : decode method_2_code 89 = .ok (.if_icmp .ne 5, 3) := by decide +kernel
theorem d2_93 : decode method_2_code 93 = .ok (.ireturn, 1) := by decide +kernel
theorem d2_98 : decode method_2_code 98 = .ok (.if_icmp .lt 12, 3) := by decide +kernel
theorem d2_105 : decode method_2_code 105 = .ok (.if_icmp .gt 5, 3) := by decide +kernel
theorem d2_109 : decode method_2_code 109 = .ok (.ireturn, 1) := by decide +kernel
theorem d2_55 : decode method_2_code 55 = .ok (.if_icmp .ne 5, 3) := by decide +kernel
theorem d2_59 : decode method_2_code 59 = .ok (.ireturn, 1) := by decide +kernel
theorem d2_64 : decode method_2_code 64 = .ok (.if_icmp .ne 5, 3) := by decide +kernel
theorem d2_68 : decode method_2_code 68 = .ok (.ireturn, 1) := by decide +kernel
theorem d2_73 : decode method_2_code 73 = .ok (.if_icmp .lt 12, 3) := by decide +kernel
theorem d2_80 : decode method_2_code 80 = .ok (.if_icmp .gt 5, 3) := by decide +kernel
theorem d2_84 : decode method_2_code 84 = .ok (.ireturn, 1) := by decide +kernel
theorem d2_31 : decode method_2_code 31 = .ok (.if_icmp .ne 5, 3) := by decide +kernel
theorem d2_35 : decode method_2_code 35 = .ok (.ireturn, 1) := by decide +kernel
theorem d2_39 : decode method_2_code 39 = .ok (.if_icmp .lt 12, 3) := by decide +kernel
theorem d2_46 : decode method_2_code 46 = .ok (.if_icmp .gt 5, 3) := by decide +kernel
theorem d2_50 : decode method_2_code 50 = .ok (.ireturn, 1) := by decide +kernel
theorem ef2 (m : MethodId) (x0 : Int32) : entryFrame m #[(.int x0)] 1 = mkF m 0 #[.val (.int x0)] [] := by first | (simp [entryFrame, mkF, argsToLocals, Value.category]; done) | rfl
theorem d2_3 : decode method_2_code 3 = .ok (.if_icmp .lt 9, 3) := by decide +kernel
theorem d2_13 : decode method_2_code 13 = .ok (.ireturn, 1) := by decide +kernel
theorem d2_9 : decode method_2_code 9 = .ok (.if_icmp .le 5, 3) := by decide +kernel
theorem d2_17 : decode method_2_code 17 = .ok (.if_icmp .lt 11, 3) := by decide +kernel
theorem d2_23 : decode method_2_code 23 = .ok (.if_icmp .gt 5, 3) := by decide +kernel
theorem d2_27 : decode method_2_code 27 = .ok (.ireturn, 1) := by decide +kernel
theorem pn1 : plainName "com/example/node_sieve/nodesieve/xml/XmlCharsIsNameStartPinLaw" = true := by first | (simp [plainName, overriddenIn]; done) | decide +kernel
def f2_186 (y : Int32) : Int32 := if y < (65534 : Int32) then ((1 : Int32)) else (if (65535 : Int32) < y then ((1 : Int32)) else ((0 : Int32)))
def f2_172 (y : Int32) : Int32 := if y < (64976 : Int32) then (f2_186 y) else (if (65007 : Int32) < y then (f2_186 y) else ((0 : Int32)))
def f2_158 (y : Int32) : Int32 := if y < (55296 : Int32) then (f2_172 y) else (if (63743 : Int32) < y then (f2_172 y) else ((0 : Int32)))
def f2_142 (y : Int32) : Int32 := if y < (12272 : Int32) then (f2_158 y) else (if (12288 : Int32) < y then (f2_158 y) else ((0 : Int32)))
def f2_126 (y : Int32) : Int32 := if y < (8592 : Int32) then (f2_142 y) else (if (11263 : Int32) < y then (f2_142 y) else ((0 : Int32)))
def f2_110 (y : Int32) : Int32 := if y < (8206 : Int32) then (f2_126 y) else (if (8303 : Int32) < y then (f2_126 y) else ((0 : Int32)))
def f2_85 (y : Int32) : Int32 := if y = (894 : Int32) then ((0 : Int32)) else (if y < (8192 : Int32) then (f2_110 y) else (if (8203 : Int32) < y then (f2_110 y) else ((0 : Int32))))
def f2_51 (y : Int32) : Int32 := if y = (215 : Int32) then ((0 : Int32)) else (if y = (247 : Int32) then ((0 : Int32)) else (if y < (768 : Int32) then (f2_85 y) else (if (879 : Int32) < y then (f2_85 y) else ((0 : Int32)))))
def f2_28 (y : Int32) : Int32 := if y = (96 : Int32) then ((0 : Int32)) else (if y < (123 : Int32) then (f2_51 y) else (if (191 : Int32) < y then (f2_51 y) else ((0 : Int32))))
def f2 (y : Int32) : Int32 := if y < (65 : Int32) then ((0 : Int32)) else (if (983039 : Int32) < y then ((0 : Int32)) else (if y < (91 : Int32) then (f2_28 y) else (if (94 : Int32) < y then (f2_28 y) else ((0 : Int32)))))
set_option maxRecDepth 65536 in
set_option maxHeartbeats 40000000 in
theorem rm2 (l : Launch) (Z : State) (a0 : Array Value) (hw : ∀ d ∈ tables_1, d.before a0 Z = true) (ws : List Jvm.Cond) (y : Int32) (h0 : Heap) (n0 : Nat) :
    own_Met l Z (⟨"com/example/node_sieve/nodesieve/xml/XmlCharsIsNameStartPinLaw", "ref", "(I)Z"⟩ : MethodName) method_2_code 1 (some .boolean) ws ({ frames := 0, cells := 0, slots := 0, locals := 0 } : Room) #[(.int y)] h0 (own_PQ (.int (f2 y)) h0 n0) := by
  refine own_body (plainFor_of_name pn1) ?_
  intro p e s m below meth c T X hx hby hml hret hlk hZ hown hnm eT
  have J186 : ∀ (T : State) (locs : List Loc) (X : Stand p l e ({ frames := 0, cells := 0, slots := 0, locals := 0 } : Room) s m #[(.int y)] below meth c T locs 0 0) (eT : T.heap = h0) (N : Fr n0 locs), own_Ends p e below s 0 0 (own_PQ (.int (f2_186 y)) h0 n0) T (mkF m 186 #[.val (.int y)] []) := by
    intro T locs X eT N
    unfold f2_186
    refine own_st (T' := T) (F' := (mkF m 187 #[.val (.int y)] [(.int y)])) (fun _ kq => XS.iloadN X.here hx rfl (hb hby d2_186) rfl kq) ?_
    refine own_st (T' := T) (F' := (mkF m 189 #[.val (.int y)] [(.int (65534 : Int32)), (.int y)])) (fun _ kq => X.ldcInt hx hown (mvT hZ (hw _ (List.mem_of_getElem? (i := 23) rfl))) (g := (mkF m 187 #[.val (.int y)] [(.int y)])) rfl (hb hby d2_187) _ kq) ?_
    by_cases hc189_30 : y < (65534 : Int32)
    ·
      rw [if_pos hc189_30]
      refine own_st (T' := T) (F' := (mkF m 200 #[.val (.int y)] [])) (fun _ kq => XS.icmpYes X.here hx rfl (pc0 := 189) (pc' := 200) rfl (hb hby d2_189) rfl (tlt hc189_30).1 (by decide) (by decide) kq) ?_
      refine own_st (T' := T) (F' := (mkF m 201 #[.val (.int y)] [(.int (1 : Int32))])) (fun _ kq => XS.iconst X.here hx rfl (hb hby d2_200) kq) ?_
      exact own_retN X hx hlk hret (by simp) (hb hby d2_201) (by decide) (by decide) (own_PQi rfl N eT)
    ·
      rw [if_neg hc189_30]
      refine own_st (T' := T) (F' := (mkF m 192 #[.val (.int y)] [])) (fun _ kq => XS.icmpNo X.here hx rfl (hb hby d2_189) rfl (flt hc189_30).1 kq) ?_
      refine own_st (T' := T) (F' := (mkF m 193 #[.val (.int y)] [(.int y)])) (fun _ kq => XS.iloadN X.here hx rfl (hb hby d2_192) rfl kq) ?_
      refine own_st (T' := T) (F' := (mkF m 195 #[.val (.int y)] [(.int (65535 : Int32)), (.int y)])) (fun _ kq => X.ldcInt hx hown (mvT hZ (hw _ (List.mem_of_getElem? (i := 30) rfl))) (g := (mkF m 193 #[.val (.int y)] [(.int y)])) rfl (hb hby d2_193) _ kq) ?_
      by_cases hc195_31 : (65535 : Int32) < y
      ·
        rw [if_pos hc195_31]
        refine own_st (T' := T) (F' := (mkF m 200 #[.val (.int y)] [])) (fun _ kq => XS.icmpYes X.here hx rfl (pc0 := 195) (pc' := 200) rfl (hb hby d2_195) rfl (tlt hc195_31).2.2.1 (by decide) (by decide) kq) ?_
        refine own_st (T' := T) (F' := (mkF m 201 #[.val (.int y)] [(.int (1 : Int32))])) (fun _ kq => XS.iconst X.here hx rfl (hb hby d2_200) kq) ?_
        exact own_retN X hx hlk hret (by simp) (hb hby d2_201) (by decide) (by decide) (own_PQi rfl N eT)
      ·
        rw [if_neg hc195_31]
        refine own_st (T' := T) (F' := (mkF m 198 #[.val (.int y)] [])) (fun _ kq => XS.icmpNo X.here hx rfl (hb hby d2_195) rfl (flt hc195_31).2.2.1 kq) ?_
        refine own_st (T' := T) (F' := (mkF m 199 #[.val (.int y)] [(.int (0 : Int32))])) (fun _ kq => XS.iconst X.here hx rfl (hb hby d2_198) kq) ?_
        exact own_retN X hx hlk hret (by simp) (hb hby d2_199) (by decide) (by decide) (own_PQi rfl N eT)
  have J172 : ∀ (T : State) (locs : List Loc) (X : Stand p l e ({ frames := 0, cells := 0, slots := 0, locals := 0 } : Room) s m #[(.int y)] below meth c T locs 0 0) (eT : T.heap = h0) (N : Fr n0 locs), own_Ends p e below s 0 0 (own_PQ (.int (f2_172 y)) h0 n0) T (mkF m 172 #[.val (.int y)] []) := by
    intro T locs X eT N
    unfold f2_172
    refine own_st (T' := T) (F' := (mkF m 173 #[.val (.int y)] [(.int y)])) (fun _ kq => XS.iloadN X.here hx rfl (hb hby d2_172) rfl kq) ?_
    refine own_st (T' := T) (F' := (mkF m 175 #[.val (.int y)] [(.int (64976 : Int32)), (.int y)])) (fun _ kq => X.ldcInt hx hown (mvT hZ (hw _ (List.mem_of_getElem? (i := 22) rfl))) (g := (mkF m 173 #[.val (.int y)] [(.int y)])) rfl (hb hby d2_173) _ kq) ?_
    by_cases hc175_32 : y < (64976 : Int32)
    ·
      rw [if_pos hc175_32]
      refine own_st (T' := T) (F' := (mkF m 186 #[.val (.int y)] [])) (fun _ kq => XS.icmpYes X.here hx rfl (pc0 := 175) (pc' := 186) rfl (hb hby d2_175) rfl (tlt hc175_32).1 (by decide) (by decide) kq) ?_
      exact J186  T _ X eT N
    ·
      rw [if_neg hc175_32]
      refine own_st (T' := T) (F' := (mkF m 178 #[.val (.int y)] [])) (fun _ kq => XS.icmpNo X.here hx rfl (hb hby d2_175) rfl (flt hc175_32).1 kq) ?_
      refine own_st (T' := T) (F' := (mkF m 179 #[.val (.int y)] [(.int y)])) (fun _ kq => XS.iloadN X.here hx rfl (hb hby d2_178) rfl kq) ?_
      refine own_st (T' := T) (F' := (mkF m 181 #[.val (.int y)] [(.int (65007 : Int32)), (.int y)])) (fun _ kq => X.ldcInt hx hown (mvT hZ (hw _ (List.mem_of_getElem? (i := 29) rfl))) (g := (mkF m 179 #[.val (.int y)] [(.int y)])) rfl (hb hby d2_179) _ kq) ?_
      by_cases hc181_33 : (65007 : Int32) < y
      ·
        rw [if_pos hc181_33]
        refine own_st (T' := T) (F' := (mkF m 186 #[.val (.int y)] [])) (fun _ kq => XS.icmpYes X.here hx rfl (pc0 := 181) (pc' := 186) rfl (hb hby d2_181) rfl (tlt hc181_33).2.2.1 (by decide) (by decide) kq) ?_
        exact J186  T _ X eT N
      ·
        rw [if_neg hc181_33]
        refine own_st (T' := T) (F' := (mkF m 184 #[.val (.int y)] [])) (fun _ kq => XS.icmpNo X.here hx rfl (hb hby d2_181) rfl (flt hc181_33).2.2.1 kq) ?_
        refine own_st (T' := T) (F' := (mkF m 185 #[.val (.int y)] [(.int (0 : Int32))])) (fun _ kq => XS.iconst X.here hx rfl (hb hby d2_184) kq) ?_
        exact own_retN X hx hlk hret (by simp) (hb hby d2_185) (by decide) (by decide) (own_PQi rfl N eT)
  have J158 : ∀ (T : State) (locs : List Loc) (X : Stand p l e ({ frames := 0, cells := 0, slots := 0, locals := 0 } : Room) s m #[(.int y)] below meth c T locs 0 0) (eT : T.heap = h0) (N : Fr n0 locs), own_Ends p e below s 0 0 (own_PQ (.int (f2_158 y)) h0 n0) T (mkF m 158 #[.val (.int y)] []) := by
    intro T locs X eT N
    unfold f2_158
    refine own_st (T' := T) (F' := (mkF m 159 #[.val (.int y)] [(.int y)])) (fun _ kq => XS.iloadN X.here hx rfl (hb hby d2_158) rfl kq) ?_
    refine own_st (T' := T) (F' := (mkF m 161 #[.val (.int y)] [(.int (55296 : Int32)), (.int y)])) (fun _ kq => X.ldcInt hx hown (mvT hZ (hw _ (List.mem_of_getElem? (i := 21) rfl))) (g := (mkF m 159 #[.val (.int y)] [(.int y)])) rfl (hb hby d2_159) _ kq) ?_
    by_cases hc161_34 : y < (55296 : Int32)
    ·
      rw [if_pos hc161_34]
      refine own_st (T' := T) (F' := (mkF m 172 #[.val (.int y)] [])) (fun _ kq => XS.icmpYes X.here hx rfl (pc0 := 161) (pc' := 172) rfl (hb hby d2_161) rfl (tlt hc161_34).1 (by decide) (by decide) kq) ?_
      exact J172  T _ X eT N
    ·
      rw [if_neg hc161_34]
      refine own_st (T' := T) (F' := (mkF m 164 #[.val (.int y)] [])) (fun _ kq => XS.icmpNo X.here hx rfl (hb hby d2_161) rfl (flt hc161_34).1 kq) ?_
      refine own_st (T' := T) (F' := (mkF m 165 #[.val (.int y)] [(.int y)])) (fun _ kq => XS.iloadN X.here hx rfl (hb hby d2_164) rfl kq) ?_
      refine own_st (T' := T) (F' := (mkF m 167 #[.val (.int y)] [(.int (63743 : Int32)), (.int y)])) (fun _ kq => X.ldcInt hx hown (mvT hZ (hw _ (List.mem_of_getElem? (i := 28) rfl))) (g := (mkF m 165 #[.val (.int y)] [(.int y)])) rfl (hb hby d2_165) _ kq) ?_
      by_cases hc167_35 : (63743 : Int32) < y
      ·
        rw [if_pos hc167_35]
        refine own_st (T' := T) (F' := (mkF m 172 #[.val (.int y)] [])) (fun _ kq => XS.icmpYes X.here hx rfl (pc0 := 167) (pc' := 172) rfl (hb hby d2_167) rfl (tlt hc167_35).2.2.1 (by decide) (by decide) kq) ?_
        exact J172  T _ X eT N
      ·
        rw [if_neg hc167_35]
        refine own_st (T' := T) (F' := (mkF m 170 #[.val (.int y)] [])) (fun _ kq => XS.icmpNo X.here hx rfl (hb hby d2_167) rfl (flt hc167_35).2.2.1 kq) ?_
        refine own_st (T' := T) (F' := (mkF m 171 #[.val (.int y)] [(.int (0 : Int32))])) (fun _ kq => XS.iconst X.here hx rfl (hb hby d2_170) kq) ?_
        exact own_retN X hx hlk hret (by simp) (hb hby d2_171) (by decide) (by decide) (own_PQi rfl N eT)
  have J142 : ∀ (T : State) (locs : List Loc) (X : Stand p l e ({ frames := 0, cells := 0, slots := 0, locals := 0 } : Room) s m #[(.int y)] below meth c T locs 0 0) (eT : T.heap = h0) (N : Fr n0 locs), own_Ends p e below s 0 0 (own_PQ (.int (f2_142 y)) h0 n0) T (mkF m 142 #[.val (.int y)] []) := by
    intro T locs X eT N
    unfold f2_142
    refine own_st (T' := T) (F' := (mkF m 143 #[.val (.int y)] [(.int y)])) (fun _ kq => XS.iloadN X.here hx rfl (hb hby d2_142) rfl kq) ?_
    refine own_st (T' := T) (F' := (mkF m 146 #[.val (.int y)] [(.int (12272 : Int32)), (.int y)])) (fun _ kq => XS.sipush X.here hx rfl (hb hby d2_143) kq) ?_
    by_cases hc146_36 : y < (12272 : Int32)
    ·
      rw [if_pos hc146_36]
      refine own_st (T' := T) (F' := (mkF m 158 #[.val (.int y)] [])) (fun _ kq => XS.icmpYes X.here hx rfl (pc0 := 146) (pc' := 158) rfl (hb hby d2_146) rfl (tlt hc146_36).1 (by decide) (by decide) kq) ?_
      exact J158  T _ X eT N
    ·
      rw [if_neg hc146_36]
      refine own_st (T' := T) (F' := (mkF m 149 #[.val (.int y)] [])) (fun _ kq => XS.icmpNo X.here hx rfl (hb hby d2_146) rfl (flt hc146_36).1 kq) ?_
      refine own_st (T' := T) (F' := (mkF m 150 #[.val (.int y)] [(.int y)])) (fun _ kq => XS.iloadN X.here hx rfl (hb hby d2_149) rfl kq) ?_
      refine own_st (T' := T) (F' := (mkF m 153 #[.val (.int y)] [(.int (12288 : Int32)), (.int y)])) (fun _ kq => XS.sipush X.here hx rfl (hb hby d2_150) kq) ?_
      by_cases hc153_37 : (12288 : Int32) < y
      ·
        rw [if_pos hc153_37]
        refine own_st (T' := T) (F' := (mkF m 158 #[.val (.int y)] [])) (fun _ kq => XS.icmpYes X.here hx rfl (pc0 := 153) (pc' := 158) rfl (hb hby d2_153) rfl (tlt hc153_37).2.2.1 (by decide) (by decide) kq) ?_
        exact J158  T _ X eT N
      ·
        rw [if_neg hc153_37]
        refine own_st (T' := T) (F' := (mkF m 156 #[.val (.int y)] [])) (fun _ kq => XS.icmpNo X.here hx rfl (hb hby d2_153) rfl (flt hc153_37).2.2.1 kq) ?_
        refine own_st (T' := T) (F' := (mkF m 157 #[.val (.int y)] [(.int (0 : Int32))])) (fun _ kq => XS.iconst X.here hx rfl (hb hby d2_156) kq) ?_
        exact own_retN X hx hlk hret (by simp) (hb hby d2_157) (by decide) (by decide) (own_PQi rfl N eT)
  have J126 : ∀ (T : State) (locs : List Loc) (X : Stand p l e ({ frames := 0, cells := 0, slots := 0, locals := 0 } : Room) s m #[(.int y)] below meth c T locs 0 0) (eT : T.heap = h0) (N : Fr n0 locs), own_Ends p e below s 0 0 (own_PQ (.int (f2_126 y)) h0 n0) T (mkF m 126 #[.val (.int y)] []) := by
    intro T locs X eT N
    unfold f2_126
    refine own_st (T' := T) (F' := (mkF m 127 #[.val (.int y)] [(.int y)])) (fun _ kq => XS.iloadN X.here hx rfl (hb hby d2_126) rfl kq) ?_
    refine own_st (T' := T) (F' := (mkF m 130 #[.val (.int y)] [(.int (8592 : Int32)), (.int y)])) (fun _ kq => XS.sipush X.here hx rfl (hb hby d2_127) kq) ?_
    by_cases hc130_38 : y < (8592 : Int32)
    ·
      rw [if_pos hc130_38]
      refine own_st (T' := T) (F' := (mkF m 142 #[.val (.int y)] [])) (fun _ kq => XS.icmpYes X.here hx rfl (pc0 := 130) (pc' := 142) rfl (hb hby d2_130) rfl (tlt hc130_38).1 (by decide) (by decide) kq) ?_
      exact J142  T _ X eT N
    ·
      rw [if_neg hc130_38]
      refine own_st (T' := T) (F' := (mkF m 133 #[.val (.int y)] [])) (fun _ kq => XS.icmpNo X.here hx rfl (hb hby d2_130) rfl (flt hc130_38).1 kq) ?_
      refine own_st (T' := T) (F' := (mkF m 134 #[.val (.int y)] [(.int y)])) (fun _ kq => XS.iloadN X.here hx rfl (hb hby d2_133) rfl kq) ?_
      refine own_st (T' := T) (F' := (mkF m 137 #[.val (.int y)] [(.int (11263 : Int32)), (.int y)])) (fun _ kq => XS.sipush X.here hx rfl (hb hby d2_134) kq) ?_
      by_cases hc137_39 : (11263 : Int32) < y
      ·
        rw [if_pos hc137_39]
        refine own_st (T' := T) (F' := (mkF m 142 #[.val (.int y)] [])) (fun _ kq => XS.icmpYes X.here hx rfl (pc0 := 137) (pc' := 142) rfl (hb hby d2_137) rfl (tlt hc137_39).2.2.1 (by decide) (by decide) kq) ?_
        exact J142  T _ X eT N
      ·
        rw [if_neg hc137_39]
        refine own_st (T' := T) (F' := (mkF m 140 #[.val (.int y)] [])) (fun _ kq => XS.icmpNo X.here hx rfl (hb hby d2_137) rfl (flt hc137_39).2.2.1 kq) ?_
        refine own_st (T' := T) (F' := (mkF m 141 #[.val (.int y)] [(.int (0 : Int32))])) (fun _ kq => XS.iconst X.here hx rfl (hb hby d2_140) kq) ?_
        exact own_retN X hx hlk hret (by simp) (hb hby d2_141) (by decide) (by decide) (own_PQi rfl N eT)
  have J110 : ∀ (T : State) (locs : List Loc) (X : Stand p l e ({ frames := 0, cells := 0, slots := 0, locals := 0 } : Room) s m #[(.int y)] below meth c T locs 0 0) (eT : T.heap = h0) (N : Fr n0 locs), own_Ends p e below s 0 0 (own_PQ (.int (f2_110 y)) h0 n0) T (mkF m 110 #[.val (.int y)] []) := by
    intro T locs X eT N
    unfold f2_110
    refine own_st (T' := T) (F' := (mkF m 111 #[.val (.int y)] [(.int y)])) (fun _ kq => XS.iloadN X.here hx rfl (hb hby d2_110) rfl kq) ?_
    refine own_st (T' := T) (F' := (mkF m 114 #[.val (.int y)] [(.int (8206 : Int32)), (.int y)])) (fun _ kq => XS.sipush X.here hx rfl (hb hby d2_111) kq) ?_
    by_cases hc114_40 : y < (8206 : Int32)
    ·
      rw [if_pos hc114_40]
      refine own_st (T' := T) (F' := (mkF m 126 #[.val (.int y)] [])) (fun _ kq => XS.icmpYes X.here hx rfl (pc0 := 114) (pc' := 126) rfl (hb hby d2_114) rfl (tlt hc114_40).1 (by decide) (by decide) kq) ?_
      exact J126  T _ X eT N
    ·
      rw [if_neg hc114_40]
      refine own_st (T' := T) (F' := (mkF m 117 #[.val (.int y)] [])) (fun _ kq => XS.icmpNo X.here hx rfl (hb hby d2_114) rfl (flt hc114_40).1 kq) ?_
      refine own_st (T' := T) (F' := (mkF m 118 #[.val (.int y)] [(.int y)])) (fun _ kq => XS.iloadN X.here hx rfl (hb hby d2_117) rfl kq) ?_
      refine own_st (T' := T) (F' := (mkF m 121 #[.val (.int y)] [(.int (8303 : Int32)), (.int y)])) (fun _ kq => XS.sipush X.here hx rfl (hb hby d2_118) kq) ?_
      by_cases hc121_41 : (8303 : Int32) < y
      ·
        rw [if_pos hc121_41]
        refine own_st (T' := T) (F' := (mkF m 126 #[.val (.int y)] [])) (fun _ kq => XS.icmpYes X.here hx rfl (pc0 := 121) (pc' := 126) rfl (hb hby d2_121) rfl (tlt hc121_41).2.2.1 (by decide) (by decide) kq) ?_
        exact J126  T _ X eT N
      ·
        rw [if_neg hc121_41]
        refine own_st (T' := T) (F' := (mkF m 124 #[.val (.int y)] [])) (fun _ kq => XS.icmpNo X.here hx rfl (hb hby d2_121) rfl (flt hc121_41).2.2.1 kq) ?_
        refine own_st (T' := T) (F' := (mkF m 125 #[.val (.int y)] [(.int (0 : Int32))])) (fun _ kq => XS.iconst X.here hx rfl (hb hby d2_124) kq) ?_
        exact own_retN X hx hlk hret (by simp) (hb hby d2_125) (by decide) (by decide) (own_PQi rfl N eT)
  have J85 : ∀ (T : State) (locs : List Loc) (X : Stand p l e ({ frames := 0, cells := 0, slots := 0, locals := 0 } : Room) s m #[(.int y)] below meth c T locs 0 0) (eT : T.heap = h0) (N : Fr n0 locs), own_Ends p e below s 0 0 (own_PQ (.int (f2_85 y)) h0 n0) T (mkF m 85 #[.val (.int y)] []) := by
    intro T locs X eT N
    unfold f2_85
    refine own_st (T' := T) (F' := (mkF m 86 #[.val (.int y)] [(.int y)])) (fun _ kq => XS.iloadN X.here hx rfl (hb hby d2_85) rfl kq) ?_
    refine own_st (T' := T) (F' := (mkF m 89 #[.val (.int y)] [(.int (894 : Int32)), (.int y)])) (fun _ kq => XS.sipush X.here hx rfl (hb hby d2_86) kq) ?_
    by_cases hc89_42 : y = (894 : Int32)
    ·
      rw [if_pos hc89_42]
      refine own_st (T' := T) (F' := (mkF m 92 #[.val (.int y)] [])) (fun _ kq => XS.icmpNo X.here hx rfl (hb hby d2_89) rfl (teq hc89_42).2 kq) ?_
      refine own_st (T' := T) (F' := (mkF m 93 #[.val (.int y)] [(.int (0 : Int32))])) (fun _ kq => XS.iconst X.here hx rfl (hb hby d2_92) kq) ?_
      exact own_retN X hx hlk hret (by simp) (hb hby d2_93) (by decide) (by decide) (own_PQi rfl N eT)
    ·
      rw [if_neg hc89_42]
      refine own_st (T' := T) (F' := (mkF m 94 #[.val (.int y)] [])) (fun _ kq => XS.icmpYes X.here hx rfl (pc0 := 89) (pc' := 94) rfl (hb hby d2_89) rfl (feq hc89_42).2 (by decide) (by decide) kq) ?_
      refine own_st (T' := T) (F' := (mkF m 95 #[.val (.int y)] [(.int y)])) (fun _ kq => XS.iloadN X.here hx rfl (hb hby d2_94) rfl kq) ?_
      refine own_st (T' := T) (F' := (mkF m 98 #[.val (.int y)] [(.int (8192 : Int32)), (.int y)])) (fun _ kq => XS.sipush X.here hx rfl (hb hby d2_95) kq) ?_
      by_cases hc98_43 : y < (8192 : Int32)
      ·
        rw [if_pos hc98_43]
        refine own_st (T' := T) (F' := (mkF m 110 #[.val (.int y)] [])) (fun _ kq => XS.icmpYes X.here hx rfl (pc0 := 98) (pc' := 110) rfl (hb hby d2_98) rfl (tlt hc98_43).1 (by decide) (by decide) kq) ?_
        exact J110  T _ X eT N
      ·
        rw [if_neg hc98_43]
        refine own_st (T' := T) (F' := (mkF m 101 #[.val (.int y)] [])) (fun _ kq => XS.icmpNo X.here hx rfl (hb hby d2_98) rfl (flt hc98_43).1 kq) ?_
        refine own_st (T' := T) (F' := (mkF m 102 #[.val (.int y)] [(.int y)])) (fun _ kq => XS.iloadN X.here hx rfl (hb hby d2_101) rfl kq) ?_
        refine own_st (T' := T) (F' := (mkF m 105 #[.val (.int y)] [(.int (8203 : Int32)), (.int y)])) (fun _ kq => XS.sipush X.here hx rfl (hb hby d2_102) kq) ?_
        by_cases hc105_44 : (8203 : Int32) < y
        ·
          rw [if_pos hc105_44]
          refine own_st (T' := T) (F' := (mkF m 110 #[.val (.int y)] [])) (fun _ kq => XS.icmpYes X.here hx rfl (pc0 := 105) (pc' := 110) rfl (hb hby d2_105) rfl (tlt hc105_44).2.2.1 (by decide) (by decide) kq) ?_
          exact J110  T _ X eT N
        ·
          rw [if_neg hc105_44]
          refine own_st (T' := T) (F' := (mkF m 108 #[.val (.int y)] [])) (fun _ kq => XS.icmpNo X.here hx rfl (hb hby d2_105) rfl (flt hc105_44).2.2.1 kq) ?_
          refine own_st (T' := T) (F' := (mkF m 109 #[.val (.int y)] [(.int (0 : Int32))])) (fun _ kq => XS.iconst X.here hx rfl (hb hby d2_108) kq) ?_
          exact own_retN X hx hlk hret (by simp) (hb hby d2_109) (by decide) (by decide) (own_PQi rfl N eT)
  have J51 : ∀ (T : State) (locs : List Loc) (X : Stand p l e ({ frames := 0, cells := 0, slots := 0, locals := 0 } : Room) s m #[(.int y)] below meth c T locs 0 0) (eT : T.heap = h0) (N : Fr n0 locs), own_Ends p e below s 0 0 (own_PQ (.int (f2_51 y)) h0 n0) T (mkF m 51 #[.val (.int y)] []) := by
    intro T locs X eT N
    unfold f2_51
    refine own_st (T' := T) (F' := (mkF m 52 #[.val (.int y)] [(.int y)])) (fun _ kq => XS.iloadN X.here hx rfl (hb hby d2_51) rfl kq) ?_
    refine own_st (T' := T) (F' := (mkF m 55 #[.val (.int y)] [(.int (215 : Int32)), (.int y)])) (fun _ kq => XS.sipush X.here hx rfl (hb hby d2_52) kq) ?_
    by_cases hc55_45 : y = (215 : Int32)
    ·
      rw [if_pos hc55_45]
      refine own_st (T' := T) (F' := (mkF m 58 #[.val (.int y)] [])) (fun _ kq => XS.icmpNo X.here hx rfl (hb hby d2_55) rfl (teq hc55_45).2 kq) ?_
      refine own_st (T' := T) (F' := (mkF m 59 #[.val (.int y)] [(.int (0 : Int32))])) (fun _ kq => XS.iconst X.here hx rfl (hb hby d2_58) kq) ?_
      exact own_retN X hx hlk hret (by simp) (hb hby d2_59) (by decide) (by decide) (own_PQi rfl N eT)
    ·
      rw [if_neg hc55_45]
      refine own_st (T' := T) (F' := (mkF m 60 #[.val (.int y)] [])) (fun _ kq => XS.icmpYes X.here hx rfl (pc0 := 55) (pc' := 60) rfl (hb hby d2_55) rfl (feq hc55_45).2 (by decide) (by decide) kq) ?_
      refine own_st (T' := T) (F' := (mkF m 61 #[.val (.int y)] [(.int y)])) (fun _ kq => XS.iloadN X.here hx rfl (hb hby d2_60) rfl kq) ?_
      refine own_st (T' := T) (F' := (mkF m 64 #[.val (.int y)] [(.int (247 : Int32)), (.int y)])) (fun _ kq => XS.sipush X.here hx rfl (hb hby d2_61) kq) ?_
      by_cases hc64_46 : y = (247 : Int32)
      ·
        rw [if_pos hc64_46]
        refine own_st (T' := T) (F' := (mkF m 67 #[.val (.int y)] [])) (fun _ kq => XS.icmpNo X.here hx rfl (hb hby d2_64) rfl (teq hc64_46).2 kq) ?_
        refine own_st (T' := T) (F' := (mkF m 68 #[.val (.int y)] [(.int (0 : Int32))])) (fun _ kq => XS.iconst X.here hx rfl (hb hby d2_67) kq) ?_
        exact own_retN X hx hlk hret (by simp) (hb hby d2_68) (by decide) (by decide) (own_PQi rfl N eT)
      ·
        rw [if_neg hc64_46]
        refine own_st (T' := T) (F' := (mkF m 69 #[.val (.int y)] [])) (fun _ kq => XS.icmpYes X.here hx rfl (pc0 := 64) (pc' := 69) rfl (hb hby d2_64) rfl (feq hc64_46).2 (by decide) (by decide) kq) ?_
        refine own_st (T' := T) (F' := (mkF m 70 #[.val (.int y)] [(.int y)])) (fun _ kq => XS.iloadN X.here hx rfl (hb hby d2_69) rfl kq) ?_
        refine own_st (T' := T) (F' := (mkF m 73 #[.val (.int y)] [(.int (768 : Int32)), (.int y)])) (fun _ kq => XS.sipush X.here hx rfl (hb hby d2_70) kq) ?_
        by_cases hc73_47 : y < (768 : Int32)
        ·
          rw [if_pos hc73_47]
          refine own_st (T' := T) (F' := (mkF m 85 #[.val (.int y)] [])) (fun _ kq => XS.icmpYes X.here hx rfl (pc0 := 73) (pc' := 85) rfl (hb hby d2_73) rfl (tlt hc73_47).1 (by decide) (by decide) kq) ?_
          exact J85  T _ X eT N
        ·
          rw [if_neg hc73_47]
          refine own_st (T' := T) (F' := (mkF m 76 #[.val (.int y)] [])) (fun _ kq => XS.icmpNo X.here hx rfl (hb hby d2_73) rfl (flt hc73_47).1 kq) ?_
          refine own_st (T' := T) (F' := (mkF m 77 #[.val (.int y)] [(.int y)])) (fun _ kq => XS.iloadN X.here hx rfl (hb hby d2_76) rfl kq) ?_
          refine own_st (T' := T) (F' := (mkF m 80 #[.val (.int y)] [(.int (879 : Int32)), (.int y)])) (fun _ kq => XS.sipush X.here hx rfl (hb hby d2_77) kq) ?_
          by_cases hc80_48 : (879 : Int32) < y
          ·
            rw [if_pos hc80_48]
            refine own_st (T' := T) (F' := (mkF m 85 #[.val (.int y)] [])) (fun _ kq => XS.icmpYes X.here hx rfl (pc0 := 80) (pc' := 85) rfl (hb hby d2_80) rfl (tlt hc80_48).2.2.1 (by decide) (by decide) kq) ?_
            exact J85  T _ X eT N
          ·
            rw [if_neg hc80_48]
            refine own_st (T' := T) (F' := (mkF m 83 #[.val (.int y)] [])) (fun _ kq => XS.icmpNo X.here hx rfl (hb hby d2_80) rfl (flt hc80_48).2.2.1 kq) ?_
            refine own_st (T' := T) (F' := (mkF m 84 #[.val (.int y)] [(.int (0 : Int32))])) (fun _ kq => XS.iconst X.here hx rfl (hb hby d2_83) kq) ?_
            exact own_retN X hx hlk hret (by simp) (hb hby d2_84) (by decide) (by decide) (own_PQi rfl N eT)
  have J28 : ∀ (T : State) (locs : List Loc) (X : Stand p l e ({ frames := 0, cells := 0, slots := 0, locals := 0 } : Room) s m #[(.int y)] below meth c T locs 0 0) (eT : T.heap = h0) (N : Fr n0 locs), own_Ends p e below s 0 0 (own_PQ (.int (f2_28 y)) h0 n0) T (mkF m 28 #[.val (.int y)] []) := by
    intro T locs X eT N
    unfold f2_28
    refine own_st (T' := T) (F' := (mkF m 29 #[.val (.int y)] [(.int y)])) (fun _ kq => XS.iloadN X.here hx rfl (hb hby d2_28) rfl kq) ?_
    refine own_st (T' := T) (F' := (mkF m 31 #[.val (.int y)] [(.int (96 : Int32)), (.int y)])) (fun _ kq => XS.bipush X.here hx rfl (hb hby d2_29) kq) ?_
    by_cases hc31_49 : y = (96 : Int32)
    ·
      rw [if_pos hc31_49]
      refine own_st (T' := T) (F' := (mkF m 34 #[.val (.int y)] [])) (fun _ kq => XS.icmpNo X.here hx rfl (hb hby d2_31) rfl (teq hc31_49).2 kq) ?_
      refine own_st (T' := T) (F' := (mkF m 35 #[.val (.int y)] [(.int (0 : Int32))])) (fun _ kq => XS.iconst X.here hx rfl (hb hby d2_34) kq) ?_
      exact own_retN X hx hlk hret (by simp) (hb hby d2_35) (by decide) (by decide) (own_PQi rfl N eT)
    ·
      rw [if_neg hc31_49]
      refine own_st (T' := T) (F' := (mkF m 36 #[.val (.int y)] [])) (fun _ kq => XS.icmpYes X.here hx rfl (pc0 := 31) (pc' := 36) rfl (hb hby d2_31) rfl (feq hc31_49).2 (by decide) (by decide) kq) ?_
      refine own_st (T' := T) (F' := (mkF m 37 #[.val (.int y)] [(.int y)])) (fun _ kq => XS.iloadN X.here hx rfl (hb hby d2_36) rfl kq) ?_
      refine own_st (T' := T) (F' := (mkF m 39 #[.val (.int y)] [(.int (123 : Int32)), (.int y)])) (fun _ kq => XS.bipush X.here hx rfl (hb hby d2_37) kq) ?_
      by_cases hc39_50 : y < (123 : Int32)
      ·
        rw [if_pos hc39_50]
        refine own_st (T' := T) (F' := (mkF m 51 #[.val (.int y)] [])) (fun _ kq => XS.icmpYes X.here hx rfl (pc0 := 39) (pc' := 51) rfl (hb hby d2_39) rfl (tlt hc39_50).1 (by decide) (by decide) kq) ?_
        exact J51  T _ X eT N
      ·
        rw [if_neg hc39_50]
        refine own_st (T' := T) (F' := (mkF m 42 #[.val (.int y)] [])) (fun _ kq => XS.icmpNo X.here hx rfl (hb hby d2_39) rfl (flt hc39_50).1 kq) ?_
        refine own_st (T' := T) (F' := (mkF m 43 #[.val (.int y)] [(.int y)])) (fun _ kq => XS.iloadN X.here hx rfl (hb hby d2_42) rfl kq) ?_
        refine own_st (T' := T) (F' := (mkF m 46 #[.val (.int y)] [(.int (191 : Int32)), (.int y)])) (fun _ kq => XS.sipush X.here hx rfl (hb hby d2_43) kq) ?_
        by_cases hc46_51 : (191 : Int32) < y
        ·
          rw [if_pos hc46_51]
          refine own_st (T' := T) (F' := (mkF m 51 #[.val (.int y)] [])) (fun _ kq => XS.icmpYes X.here hx rfl (pc0 := 46) (pc' := 51) rfl (hb hby d2_46) rfl (tlt hc46_51).2.2.1 (by decide) (by decide) kq) ?_
          exact J51  T _ X eT N
        ·
          rw [if_neg hc46_51]
          refine own_st (T' := T) (F' := (mkF m 49 #[.val (.int y)] [])) (fun _ kq => XS.icmpNo X.here hx rfl (hb hby d2_46) rfl (flt hc46_51).2.2.1 kq) ?_
          refine own_st (T' := T) (F' := (mkF m 50 #[.val (.int y)] [(.int (0 : Int32))])) (fun _ kq => XS.iconst X.here hx rfl (hb hby d2_49) kq) ?_
          exact own_retN X hx hlk hret (by simp) (hb hby d2_50) (by decide) (by decide) (own_PQi rfl N eT)
  have N := Fr.nil n0
  refine own_entry (ef2 m y) ?_
  unfold f2
  refine own_st (T' := T) (F' := (mkF m 1 #[.val (.int y)] [(.int y)])) (fun _ kq => XS.iloadN X.here hx rfl (hb hby d2_0) rfl kq) ?_
  refine own_st (T' := T) (F' := (mkF m 3 #[.val (.int y)] [(.int (65 : Int32)), (.int y)])) (fun _ kq => XS.bipush X.here hx rfl (hb hby d2_1) kq) ?_
  by_cases hc3_52 : y < (65 : Int32)
  ·
    rw [if_pos hc3_52]
    refine own_st (T' := T) (F' := (mkF m 12 #[.val (.int y)] [])) (fun _ kq => XS.icmpYes X.here hx rfl (pc0 := 3) (pc' := 12) rfl (hb hby d2_3) rfl (tlt hc3_52).1 (by decide) (by decide) kq) ?_
    refine own_st (T' := T) (F' := (mkF m 13 #[.val (.int y)] [(.int (0 : Int32))])) (fun _ kq => XS.iconst X.here hx rfl (hb hby d2_12) kq) ?_
    exact own_retN X hx hlk hret (by simp) (hb hby d2_13) (by decide) (by decide) (own_PQi rfl N eT)
  ·
    rw [if_neg hc3_52]
    refine own_st (T' := T) (F' := (mkF m 6 #[.val (.int y)] [])) (fun _ kq => XS.icmpNo X.here hx rfl (hb hby d2_3) rfl (flt hc3_52).1 kq) ?_
    refine own_st (T' := T) (F' := (mkF m 7 #[.val (.int y)] [(.int y)])) (fun _ kq => XS.iloadN X.here hx rfl (hb hby d2_6) rfl kq) ?_
    refine own_st (T' := T) (F' := (mkF m 9 #[.val (.int y)] [(.int (983039 : Int32)), (.int y)])) (fun _ kq => X.ldcInt hx hown (mvT hZ (hw _ (List.mem_of_getElem? (i := 7) rfl))) (g := (mkF m 7 #[.val (.int y)] [(.int y)])) rfl (hb hby d2_7) _ kq) ?_
    by_cases hc9_53 : (983039 : Int32) < y
    ·
      rw [if_pos hc9_53]
      refine own_st (T' := T) (F' := (mkF m 12 #[.val (.int y)] [])) (fun _ kq => XS.icmpNo X.here hx rfl (hb hby d2_9) rfl (tlt hc9_53).2.2.2 kq) ?_
      refine own_st (T' := T) (F' := (mkF m 13 #[.val (.int y)] [(.int (0 : Int32))])) (fun _ kq => XS.iconst X.here hx rfl (hb hby d2_12) kq) ?_
      exact own_retN X hx hlk hret (by simp) (hb hby d2_13) (by decide) (by decide) (own_PQi rfl N eT)
    ·
      rw [if_neg hc9_53]
      refine own_st (T' := T) (F' := (mkF m 14 #[.val (.int y)] [])) (fun _ kq => XS.icmpYes X.here hx rfl (pc0 := 9) (pc' := 14) rfl (hb hby d2_9) rfl (flt hc9_53).2.2.2 (by decide) (by decide) kq) ?_
      refine own_st (T' := T) (F' := (mkF m 15 #[.val (.int y)] [(.int y)])) (fun _ kq => XS.iloadN X.here hx rfl (hb hby d2_14) rfl kq) ?_
      refine own_st (T' := T) (F' := (mkF m 17 #[.val (.int y)] [(.int (91 : Int32)), (.int y)])) (fun _ kq => XS.bipush X.here hx rfl (hb hby d2_15) kq) ?_
      by_cases hc17_54 : y < (91 : Int32)
      ·
        rw [if_pos hc17_54]
        refine own_st (T' := T) (F' := (mkF m 28 #[.val (.int y)] [])) (fun _ kq => XS.icmpYes X.here hx rfl (pc0 := 17) (pc' := 28) rfl (hb hby d2_17) rfl (tlt hc17_54).1 (by decide) (by decide) kq) ?_
        exact J28  T _ X eT N
      ·
        rw [if_neg hc17_54]
        refine own_st (T' := T) (F' := (mkF m 20 #[.val (.int y)] [])) (fun _ kq => XS.icmpNo X.here hx rfl (hb hby d2_17) rfl (flt hc17_54).1 kq) ?_
        refine own_st (T' := T) (F' := (mkF m 21 #[.val (.int y)] [(.int y)])) (fun _ kq => XS.iloadN X.here hx rfl (hb hby d2_20) rfl kq) ?_
        refine own_st (T' := T) (F' := (mkF m 23 #[.val (.int y)] [(.int (94 : Int32)), (.int y)])) (fun _ kq => XS.bipush X.here hx rfl (hb hby d2_21) kq) ?_
        by_cases hc23_55 : (94 : Int32) < y
        ·
          rw [if_pos hc23_55]
          refine own_st (T' := T) (F' := (mkF m 28 #[.val (.int y)] [])) (fun _ kq => XS.icmpYes X.here hx rfl (pc0 := 23) (pc' := 28) rfl (hb hby d2_23) rfl (tlt hc23_55).2.2.1 (by decide) (by decide) kq) ?_
          exact J28  T _ X eT N
        ·
          rw [if_neg hc23_55]
          refine own_st (T' := T) (F' := (mkF m 26 #[.val (.int y)] [])) (fun _ kq => XS.icmpNo X.here hx rfl (hb hby d2_23) rfl (flt hc23_55).2.2.1 kq) ?_
          refine own_st (T' := T) (F' := (mkF m 27 #[.val (.int y)] [(.int (0 : Int32))])) (fun _ kq => XS.iconst X.here hx rfl (hb hby d2_26) kq) ?_
          exact own_retN X hx hlk hret (by simp) (hb hby d2_27) (by decide) (by decide) (own_PQi rfl N eT)
def own_D (v : Int32) (P : Prop) : Prop := (v = 1 ∧ P) ∨ (v = 0 ∧ ¬ P)
theorem own_up {y a b g : Int32} {P : Prop} {A B : Int} (hA : a.toInt = A) (hB : b.toInt = B) (h : own_D g P) : own_D (if y < a then g else (if b < y then g else 1)) ((A ≤ y.toInt ∧ y.toInt ≤ B) ∨ P) := by
  by_cases h1 : y < a
  · rw [if_pos h1]; rw [Int32.lt_iff_toInt_lt, hA] at h1
    rcases h with ⟨e, q⟩ | ⟨e, q⟩
    · exact Or.inl ⟨e, Or.inr q⟩
    · exact Or.inr ⟨e, fun z => z.elim (fun z => by omega) q⟩
  · rw [if_neg h1]
    by_cases h2 : b < y
    · rw [if_pos h2]; rw [Int32.lt_iff_toInt_lt, hB] at h2
      rcases h with ⟨e, q⟩ | ⟨e, q⟩
      · exact Or.inl ⟨e, Or.inr q⟩
      · exact Or.inr ⟨e, fun z => z.elim (fun z => by omega) q⟩
    · rw [if_neg h2]; rw [Int32.lt_iff_toInt_lt] at h1 h2; rw [hA] at h1; rw [hB] at h2
      exact Or.inl ⟨rfl, Or.inl ⟨by omega, by omega⟩⟩
theorem own_dn {y a b g : Int32} {P : Prop} {A B : Int} (hA : a.toInt = A) (hB : b.toInt = B) (h : own_D g P) : own_D (if y < a then g else (if b < y then g else 0)) ((y.toInt < A ∨ B < y.toInt) ∧ P) := by
  by_cases h1 : y < a
  · rw [if_pos h1]; rw [Int32.lt_iff_toInt_lt, hA] at h1
    rcases h with ⟨e, q⟩ | ⟨e, q⟩
    · exact Or.inl ⟨e, Or.inl h1, q⟩
    · exact Or.inr ⟨e, fun z => q z.2⟩
  · rw [if_neg h1]
    by_cases h2 : b < y
    · rw [if_pos h2]; rw [Int32.lt_iff_toInt_lt, hB] at h2
      rcases h with ⟨e, q⟩ | ⟨e, q⟩
      · exact Or.inl ⟨e, Or.inr h2, q⟩
      · exact Or.inr ⟨e, fun z => q z.2⟩
    · rw [if_neg h2]; rw [Int32.lt_iff_toInt_lt] at h1 h2; rw [hA] at h1; rw [hB] at h2
      exact Or.inr ⟨rfl, fun z => z.1.elim (fun u => by omega) (fun u => by omega)⟩
theorem own_up1 {y a g : Int32} {P : Prop} {A : Int} (hA : a.toInt = A) (h : own_D g P) : own_D (if y = a then 1 else g) (y.toInt = A ∨ P) := by
  by_cases h1 : y = a
  · rw [if_pos h1]; subst h1; exact Or.inl ⟨rfl, Or.inl hA⟩
  · rw [if_neg h1]
    rcases h with ⟨e, q⟩ | ⟨e, q⟩
    · exact Or.inl ⟨e, Or.inr q⟩
    · exact Or.inr ⟨e, fun z => z.elim (fun z => h1 (Int32.toInt_inj.mp (z.trans hA.symm))) q⟩
theorem own_dn1 {y a g : Int32} {P : Prop} {A : Int} (hA : a.toInt = A) (h : own_D g P) : own_D (if y = a then 0 else g) (y.toInt ≠ A ∧ P) := by
  by_cases h1 : y = a
  · rw [if_pos h1]; subst h1; exact Or.inr ⟨rfl, fun z => z.1 hA⟩
  · rw [if_neg h1]
    rcases h with ⟨e, q⟩ | ⟨e, q⟩
    · exact Or.inl ⟨e, fun z => h1 (Int32.toInt_inj.mp (z.trans hA.symm)), q⟩
    · exact Or.inr ⟨e, fun z => q z.2⟩
theorem own_lo {y a b g : Int32} {P : Prop} {A B : Int} (hA : a.toInt = A) (hB : b.toInt = B) (h : own_D g P) : own_D (if y < a then 0 else (if b < y then 0 else g)) ((A ≤ y.toInt ∧ y.toInt ≤ B) ∧ P) := by
  by_cases h1 : y < a
  · rw [if_pos h1]; rw [Int32.lt_iff_toInt_lt, hA] at h1
    exact Or.inr ⟨rfl, fun z => by omega⟩
  · rw [if_neg h1]
    by_cases h2 : b < y
    · rw [if_pos h2]; rw [Int32.lt_iff_toInt_lt, hB] at h2
      exact Or.inr ⟨rfl, fun z => by omega⟩
    · rw [if_neg h2]; rw [Int32.lt_iff_toInt_lt] at h1 h2; rw [hA] at h1; rw [hB] at h2
      rcases h with ⟨e, q⟩ | ⟨e, q⟩
      · exact Or.inl ⟨e, ⟨by omega, by omega⟩, q⟩
      · exact Or.inr ⟨e, fun z => q z.2⟩
theorem own_d0 : own_D 0 False := Or.inr ⟨rfl, id⟩
theorem own_d1 : own_D 1 True := Or.inl ⟨rfl, trivial⟩
theorem own_p1 (y : Int32) : own_D (f1 y) ((97 ≤ y.toInt ∧ y.toInt ≤ 122) ∨ (65 ≤ y.toInt ∧ y.toInt ≤ 90) ∨ y.toInt = 95 ∨ (192 ≤ y.toInt ∧ y.toInt ≤ 214) ∨ (216 ≤ y.toInt ∧ y.toInt ≤ 246) ∨ (248 ≤ y.toInt ∧ y.toInt ≤ 767) ∨ (880 ≤ y.toInt ∧ y.toInt ≤ 893) ∨ (895 ≤ y.toInt ∧ y.toInt ≤ 8191) ∨ (8204 ≤ y.toInt ∧ y.toInt ≤ 8205) ∨ (8304 ≤ y.toInt ∧ y.toInt ≤ 8591) ∨ (11264 ≤ y.toInt ∧ y.toInt ≤ 12271) ∨ (12289 ≤ y.toInt ∧ y.toInt ≤ 55295) ∨ (63744 ≤ y.toInt ∧ y.toInt ≤ 64975) ∨ (65008 ≤ y.toInt ∧ y.toInt ≤ 65533) ∨ (65536 ≤ y.toInt ∧ y.toInt ≤ 983039) ∨ False) := by
  unfold f1 f1_12 f1_24 f1_44 f1_58 f1_72 f1_86 f1_100 f1_114 f1_128 f1_142 f1_155 f1_167 f1_179
  exact own_up rfl rfl (own_up rfl rfl (own_up1 rfl (own_up rfl rfl (own_up rfl rfl (own_up rfl rfl (own_up rfl rfl (own_up rfl rfl (own_up rfl rfl (own_up rfl rfl (own_up rfl rfl (own_up rfl rfl (own_up rfl rfl (own_up rfl rfl (own_up rfl rfl own_d0))))))))))))))
theorem own_p2 (y : Int32) : own_D (f2 y) ((65 ≤ y.toInt ∧ y.toInt ≤ 983039) ∧ (y.toInt < 91 ∨ 94 < y.toInt) ∧ y.toInt ≠ 96 ∧ (y.toInt < 123 ∨ 191 < y.toInt) ∧ y.toInt ≠ 215 ∧ y.toInt ≠ 247 ∧ (y.toInt < 768 ∨ 879 < y.toInt) ∧ y.toInt ≠ 894 ∧ (y.toInt < 8192 ∨ 8203 < y.toInt) ∧ (y.toInt < 8206 ∨ 8303 < y.toInt) ∧ (y.toInt < 8592 ∨ 11263 < y.toInt) ∧ (y.toInt < 12272 ∨ 12288 < y.toInt) ∧ (y.toInt < 55296 ∨ 63743 < y.toInt) ∧ (y.toInt < 64976 ∨ 65007 < y.toInt) ∧ (y.toInt < 65534 ∨ 65535 < y.toInt) ∧ True) := by
  unfold f2 f2_28 f2_51 f2_85 f2_110 f2_126 f2_142 f2_158 f2_172 f2_186
  exact own_lo rfl rfl (own_dn rfl rfl (own_dn1 rfl (own_dn rfl rfl (own_dn1 rfl (own_dn1 rfl (own_dn rfl rfl (own_dn1 rfl (own_dn rfl rfl (own_dn rfl rfl (own_dn rfl rfl (own_dn rfl rfl (own_dn rfl rfl (own_dn rfl rfl (own_dn rfl rfl own_d1))))))))))))))
theorem own_eq (y : Int32) : f1 y = f2 y := by
  have h1 := own_p1 y
  have h2 := own_p2 y
  generalize y.toInt = n at h1 h2
  rcases h1 with ⟨e1, q1⟩ | ⟨e1, q1⟩ <;> rcases h2 with ⟨e2, q2⟩ | ⟨e2, q2⟩
  · rw [e1, e2]
  · refine absurd ?_ q2
    rcases q1 with q | q | q | q | q | q | q | q | q | q | q | q | q | q | q | q
    all_goals first | exact q.elim | (refine ⟨?_, ?_, ?_, ?_, ?_, ?_, ?_, ?_, ?_, ?_, ?_, ?_, ?_, ?_, ?_, trivial⟩ <;> omega)
  · exfalso
    obtain ⟨⟨a1, a2⟩, b1, b2, b3, b4, b5, b6, b7, b8, b9, b10, b11, b12, b13, b14, -⟩ := q2
    simp only [not_or] at q1
    obtain ⟨c1, c2, c3, c4, c5, c6, c7, c8, c9, c10, c11, c12, c13, c14, c15, -⟩ := q1
    rcases b1 with b | b
    · omega
    rcases b3 with b | b
    · omega
    rcases b6 with b | b
    · omega
    rcases b8 with b | b
    · omega
    rcases b9 with b | b
    · omega
    rcases b10 with b | b
    · omega
    rcases b11 with b | b
    · omega
    rcases b12 with b | b
    · omega
    rcases b13 with b | b
    · omega
    rcases b14 with b | b
    · omega
    omega
  · rw [e1, e2]
theorem own_i31 (y : Int32) : ¬ (y &&& (31 : Int32)) < 0 ∧ (y &&& (31 : Int32)).toNatClampNeg < 32 := by
  have h := c_mask y 31 5 (by decide) (by decide)
  rw [Int32.lt_iff_toInt_lt]
  have e0 : (0 : Int32).toInt = 0 := rfl
  simp only [Int32.toNatClampNeg]
  omega
theorem ef0 (m : MethodId) (x0 : Int32) (x1 : Int32) (x2 : Int32) : entryFrame m #[(.int x0), (.int x1), (.int x2)] maxLocals = mkF m 0 #[.val (.int x0), .val (.int x1), .val (.int x2), .unset, .unset, .unset, .unset] [] := by first | (simp [entryFrame, mkF, argsToLocals, Value.category, maxLocals]; done) | rfl
theorem pd0 : parseMethodDescriptor "(I)Z" = some ⟨[.int], some .boolean⟩ := by decide +kernel
set_option maxRecDepth 65536 in
set_option maxHeartbeats 80000000 in
theorem rm0 (l : Launch) (Z : State) (a0 : Array Value) (hw : ∀ d ∈ tables_1, d.before a0 Z = true) (ws : List Jvm.Cond) (p0 : Int32) (p1 : Int32) (p2 : Int32) (h0 : Heap) (n0 : Nat) (Z0 : n0 ≤ h0.size) :
    own_Met l Z x code maxLocals ret ws room_1 #[(.int p0), (.int p1), (.int p2)] h0 (fun v h L => v = some (.int 1) ∧ Fr n0 L) := by
  refine own_body (plainFor_of_name pn1) ?_
  intro p e s m below meth c T0 X0 hx hby hml hret hlk hZ hown hnm e0
  replace hml : c.maxLocals = 7 := hml
  have N0 := Fr.nil n0
  refine own_entry (ef0 m p0 p1 p2) ?_
  refine own_st (T' := T0) (F' := (mkF m 2 #[.val (.int p0), .val (.int p1), .val (.int p2), .unset, .unset, .unset, .unset] [(.int (32 : Int32))])) (fun _ kq => XS.bipush X0.here hx rfl (hb hby at_0) kq) ?_
  obtain ⟨T56, h56, b56, X56, e56, E56, g56, gb56, Z56, V56, st56⟩ := own_newI X0 hx hZ (aty := .int) (hw _ (List.mem_of_getElem? (i := 0) rfl)) e0 Z0 (g := (mkF m 2 #[.val (.int p0), .val (.int p1), .val (.int p2), .unset, .unset, .unset, .unset] [(.int (32 : Int32))])) rfl rfl (hb hby at_2) rfl (by decide) 32 32 rfl (by decide) (by decide) (by decide) (by decide)
  refine own_st (T' := T56) (F' := (mkF m 4 #[.val (.int p0), .val (.int p1), .val (.int p2), .unset, .unset, .unset, .unset] [(.ref b56)])) (st56) ?_
  refine own_st (T' := T56) (F' := (mkF m 5 #[.val (.int p0), .val (.int p1), .val (.int p2), .unset, .unset, .unset, .unset] [(.ref b56), (.ref b56)])) (fun _ kq => XS.dup X56.here hx rfl (hb hby at_4) rfl rfl kq) ?_
  refine own_st (T' := T56) (F' := (mkF m 6 #[.val (.int p0), .val (.int p1), .val (.int p2), .unset, .unset, .unset, .unset] [(.int (0 : Int32)), (.ref b56), (.ref b56)])) (fun _ kq => XS.iconst X56.here hx rfl (hb hby at_5) kq) ?_
  refine own_st (T' := T56) (F' := (mkF m 8 #[.val (.int p0), .val (.int p1), .val (.int p2), .unset, .unset, .unset, .unset] [(.int (65 : Int32)), (.int (0 : Int32)), (.ref b56), (.ref b56)])) (fun _ kq => XS.bipush X56.here hx rfl (hb hby at_6) kq) ?_
  obtain ⟨T58, h58, locs58, X58, e58, N58, W58, V58, st58⟩ := own_stI X56 hx hZ e56 N0 (ys := [(65 : Int32), (0 : Int32), (0 : Int32), (0 : Int32), (0 : Int32), (0 : Int32), (0 : Int32), (0 : Int32), (0 : Int32), (0 : Int32), (0 : Int32), (0 : Int32), (0 : Int32), (0 : Int32), (0 : Int32), (0 : Int32), (0 : Int32), (0 : Int32), (0 : Int32), (0 : Int32), (0 : Int32), (0 : Int32), (0 : Int32), (0 : Int32), (0 : Int32), (0 : Int32), (0 : Int32), (0 : Int32), (0 : Int32), (0 : Int32), (0 : Int32), (0 : Int32)]) V56 gb56 (g := (mkF m 8 #[.val (.int p0), .val (.int p1), .val (.int p2), .unset, .unset, .unset, .unset] [(.int (65 : Int32)), (.int (0 : Int32)), (.ref b56), (.ref b56)])) rfl rfl (hb hby at_8) (by decide) (Nat.le_of_ble_eq_true rfl) rfl
  have Z58 : n0 ≤ h58.size := by rw [W58.size]; exact Z56
  refine own_st (T' := T58) (F' := (mkF m 9 #[.val (.int p0), .val (.int p1), .val (.int p2), .unset, .unset, .unset, .unset] [(.ref b56)])) (st58) ?_
  refine own_st (T' := T58) (F' := (mkF m 10 #[.val (.int p0), .val (.int p1), .val (.int p2), .unset, .unset, .unset, .unset] [(.ref b56), (.ref b56)])) (fun _ kq => XS.dup X58.here hx rfl (hb hby at_9) rfl rfl kq) ?_
  refine own_st (T' := T58) (F' := (mkF m 11 #[.val (.int p0), .val (.int p1), .val (.int p2), .unset, .unset, .unset, .unset] [(.int (1 : Int32)), (.ref b56), (.ref b56)])) (fun _ kq => XS.iconst X58.here hx rfl (hb hby at_10) kq) ?_
  refine own_st (T' := T58) (F' := (mkF m 13 #[.val (.int p0), .val (.int p1), .val (.int p2), .unset, .unset, .unset, .unset] [(.int (90 : Int32)), (.int (1 : Int32)), (.ref b56), (.ref b56)])) (fun _ kq => XS.bipush X58.here hx rfl (hb hby at_11) kq) ?_
  obtain ⟨T60, h60, locs60, X60, e60, N60, W60, V60, st60⟩ := own_stI X58 hx hZ e58 N58 (ys := [(65 : Int32), (90 : Int32), (0 : Int32), (0 : Int32), (0 : Int32), (0 : Int32), (0 : Int32), (0 : Int32), (0 : Int32), (0 : Int32), (0 : Int32), (0 : Int32), (0 : Int32), (0 : Int32), (0 : Int32), (0 : Int32), (0 : Int32), (0 : Int32), (0 : Int32), (0 : Int32), (0 : Int32), (0 : Int32), (0 : Int32), (0 : Int32), (0 : Int32), (0 : Int32), (0 : Int32), (0 : Int32), (0 : Int32), (0 : Int32), (0 : Int32), (0 : Int32)]) V58 gb56 (g := (mkF m 13 #[.val (.int p0), .val (.int p1), .val (.int p2), .unset, .unset, .unset, .unset] [(.int (90 : Int32)), (.int (1 : Int32)), (.ref b56), (.ref b56)])) rfl rfl (hb hby at_13) (by decide) (Nat.le_of_ble_eq_true rfl) rfl
  have Z60 : n0 ≤ h60.size := by rw [W60.size]; exact Z58
  refine own_st (T' := T60) (F' := (mkF m 14 #[.val (.int p0), .val (.int p1), .val (.int p2), .unset, .unset, .unset, .unset] [(.ref b56)])) (st60) ?_
  refine own_st (T' := T60) (F' := (mkF m 15 #[.val (.int p0), .val (.int p1), .val (.int p2), .unset, .unset, .unset, .unset] [(.ref b56), (.ref b56)])) (fun _ kq => XS.dup X60.here hx rfl (hb hby at_14) rfl rfl kq) ?_
  refine own_st (T' := T60) (F' := (mkF m 16 #[.val (.int p0), .val (.int p1), .val (.int p2), .unset, .unset, .unset, .unset] [(.int (2 : Int32)), (.ref b56), (.ref b56)])) (fun _ kq => XS.iconst X60.here hx rfl (hb hby at_15) kq) ?_
  refine own_st (T' := T60) (F' := (mkF m 18 #[.val (.int p0), .val (.int p1), .val (.int p2), .unset, .unset, .unset, .unset] [(.int (95 : Int32)), (.int (2 : Int32)), (.ref b56), (.ref b56)])) (fun _ kq => XS.bipush X60.here hx rfl (hb hby at_16) kq) ?_
  obtain ⟨T62, h62, locs62, X62, e62, N62, W62, V62, st62⟩ := own_stI X60 hx hZ e60 N60 (ys := [(65 : Int32), (90 : Int32), (95 : Int32), (0 : Int32), (0 : Int32), (0 : Int32), (0 : Int32), (0 : Int32), (0 : Int32), (0 : Int32), (0 : Int32), (0 : Int32), (0 : Int32), (0 : Int32), (0 : Int32), (0 : Int32), (0 : Int32), (0 : Int32), (0 : Int32), (0 : Int32), (0 : Int32), (0 : Int32), (0 : Int32), (0 : Int32), (0 : Int32), (0 : Int32), (0 : Int32), (0 : Int32), (0 : Int32), (0 : Int32), (0 : Int32), (0 : Int32)]) V60 gb56 (g := (mkF m 18 #[.val (.int p0), .val (.int p1), .val (.int p2), .unset, .unset, .unset, .unset] [(.int (95 : Int32)), (.int (2 : Int32)), (.ref b56), (.ref b56)])) rfl rfl (hb hby at_18) (by decide) (Nat.le_of_ble_eq_true rfl) rfl
  have Z62 : n0 ≤ h62.size := by rw [W62.size]; exact Z60
  refine own_st (T' := T62) (F' := (mkF m 19 #[.val (.int p0), .val (.int p1), .val (.int p2), .unset, .unset, .unset, .unset] [(.ref b56)])) (st62) ?_
  refine own_st (T' := T62) (F' := (mkF m 20 #[.val (.int p0), .val (.int p1), .val (.int p2), .unset, .unset, .unset, .unset] [(.ref b56), (.ref b56)])) (fun _ kq => XS.dup X62.here hx rfl (hb hby at_19) rfl rfl kq) ?_
  refine own_st (T' := T62) (F' := (mkF m 21 #[.val (.int p0), .val (.int p1), .val (.int p2), .unset, .unset, .unset, .unset] [(.int (3 : Int32)), (.ref b56), (.ref b56)])) (fun _ kq => XS.iconst X62.here hx rfl (hb hby at_20) kq) ?_
  refine own_st (T' := T62) (F' := (mkF m 23 #[.val (.int p0), .val (.int p1), .val (.int p2), .unset, .unset, .unset, .unset] [(.int (97 : Int32)), (.int (3 : Int32)), (.ref b56), (.ref b56)])) (fun _ kq => XS.bipush X62.here hx rfl (hb hby at_21) kq) ?_
  obtain ⟨T64, h64, locs64, X64, e64, N64, W64, V64, st64⟩ := own_stI X62 hx hZ e62 N62 (ys := [(65 : Int32), (90 : Int32), (95 : Int32), (97 : Int32), (0 : Int32), (0 : Int32), (0 : Int32), (0 : Int32), (0 : Int32), (0 : Int32), (0 : Int32), (0 : Int32), (0 : Int32), (0 : Int32), (0 : Int32), (0 : Int32), (0 : Int32), (0 : Int32), (0 : Int32), (0 : Int32), (0 : Int32), (0 : Int32), (0 : Int32), (0 : Int32), (0 : Int32), (0 : Int32), (0 : Int32), (0 : Int32), (0 : Int32), (0 : Int32), (0 : Int32), (0 : Int32)]) V62 gb56 (g := (mkF m 23 #[.val (.int p0), .val (.int p1), .val (.int p2), .unset, .unset, .unset, .unset] [(.int (97 : Int32)), (.int (3 : Int32)), (.ref b56), (.ref b56)])) rfl rfl (hb hby at_23) (by decide) (Nat.le_of_ble_eq_true rfl) rfl
  have Z64 : n0 ≤ h64.size := by rw [W64.size]; exact Z62
  refine own_st (T' := T64) (F' := (mkF m 24 #[.val (.int p0), .val (.int p1), .val (.int p2), .unset, .unset, .unset, .unset] [(.ref b56)])) (st64) ?_
  refine own_st (T' := T64) (F' := (mkF m 25 #[.val (.int p0), .val (.int p1), .val (.int p2), .unset, .unset, .unset, .unset] [(.ref b56), (.ref b56)])) (fun _ kq => XS.dup X64.here hx rfl (hb hby at_24) rfl rfl kq) ?_
  refine own_st (T' := T64) (F' := (mkF m 26 #[.val (.int p0), .val (.int p1), .val (.int p2), .unset, .unset, .unset, .unset] [(.int (4 : Int32)), (.ref b56), (.ref b56)])) (fun _ kq => XS.iconst X64.here hx rfl (hb hby at_25) kq) ?_
  refine own_st (T' := T64) (F' := (mkF m 28 #[.val (.int p0), .val (.int p1), .val (.int p2), .unset, .unset, .unset, .unset] [(.int (122 : Int32)), (.int (4 : Int32)), (.ref b56), (.ref b56)])) (fun _ kq => XS.bipush X64.here hx rfl (hb hby at_26) kq) ?_
  obtain ⟨T66, h66, locs66, X66, e66, N66, W66, V66, st66⟩ := own_stI X64 hx hZ e64 N64 (ys := [(65 : Int32), (90 : Int32), (95 : Int32), (97 : Int32), (122 : Int32), (0 : Int32), (0 : Int32), (0 : Int32), (0 : Int32), (0 : Int32), (0 : Int32), (0 : Int32), (0 : Int32), (0 : Int32), (0 : Int32), (0 : Int32), (0 : Int32), (0 : Int32), (0 : Int32), (0 : Int32), (0 : Int32), (0 : Int32), (0 : Int32), (0 : Int32), (0 : Int32), (0 : Int32), (0 : Int32), (0 : Int32), (0 : Int32), (0 : Int32), (0 : Int32), (0 : Int32)]) V64 gb56 (g := (mkF m 28 #[.val (.int p0), .val (.int p1), .val (.int p2), .unset, .unset, .unset, .unset] [(.int (122 : Int32)), (.int (4 : Int32)), (.ref b56), (.ref b56)])) rfl rfl (hb hby at_28) (by decide) (Nat.le_of_ble_eq_true rfl) rfl
  have Z66 : n0 ≤ h66.size := by rw [W66.size]; exact Z64
  refine own_st (T' := T66) (F' := (mkF m 29 #[.val (.int p0), .val (.int p1), .val (.int p2), .unset, .unset, .unset, .unset] [(.ref b56)])) (st66) ?_
  refine own_st (T' := T66) (F' := (mkF m 30 #[.val (.int p0), .val (.int p1), .val (.int p2), .unset, .unset, .unset, .unset] [(.ref b56), (.ref b56)])) (fun _ kq => XS.dup X66.here hx rfl (hb hby at_29) rfl rfl kq) ?_
  refine own_st (T' := T66) (F' := (mkF m 31 #[.val (.int p0), .val (.int p1), .val (.int p2), .unset, .unset, .unset, .unset] [(.int (5 : Int32)), (.ref b56), (.ref b56)])) (fun _ kq => XS.iconst X66.here hx rfl (hb hby at_30) kq) ?_
  refine own_st (T' := T66) (F' := (mkF m 34 #[.val (.int p0), .val (.int p1), .val (.int p2), .unset, .unset, .unset, .unset] [(.int (192 : Int32)), (.int (5 : Int32)), (.ref b56), (.ref b56)])) (fun _ kq => XS.sipush X66.here hx rfl (hb hby at_31) kq) ?_
  obtain ⟨T68, h68, locs68, X68, e68, N68, W68, V68, st68⟩ := own_stI X66 hx hZ e66 N66 (ys := [(65 : Int32), (90 : Int32), (95 : Int32), (97 : Int32), (122 : Int32), (192 : Int32), (0 : Int32), (0 : Int32), (0 : Int32), (0 : Int32), (0 : Int32), (0 : Int32), (0 : Int32), (0 : Int32), (0 : Int32), (0 : Int32), (0 : Int32), (0 : Int32), (0 : Int32), (0 : Int32), (0 : Int32), (0 : Int32), (0 : Int32), (0 : Int32), (0 : Int32), (0 : Int32), (0 : Int32), (0 : Int32), (0 : Int32), (0 : Int32), (0 : Int32), (0 : Int32)]) V66 gb56 (g := (mkF m 34 #[.val (.int p0), .val (.int p1), .val (.int p2), .unset, .unset, .unset, .unset] [(.int (192 : Int32)), (.int (5 : Int32)), (.ref b56), (.ref b56)])) rfl rfl (hb hby at_34) (by decide) (Nat.le_of_ble_eq_true rfl) rfl
  have Z68 : n0 ≤ h68.size := by rw [W68.size]; exact Z66
  refine own_st (T' := T68) (F' := (mkF m 35 #[.val (.int p0), .val (.int p1), .val (.int p2), .unset, .unset, .unset, .unset] [(.ref b56)])) (st68) ?_
  refine own_st (T' := T68) (F' := (mkF m 36 #[.val (.int p0), .val (.int p1), .val (.int p2), .unset, .unset, .unset, .unset] [(.ref b56), (.ref b56)])) (fun _ kq => XS.dup X68.here hx rfl (hb hby at_35) rfl rfl kq) ?_
  refine own_st (T' := T68) (F' := (mkF m 38 #[.val (.int p0), .val (.int p1), .val (.int p2), .unset, .unset, .unset, .unset] [(.int (6 : Int32)), (.ref b56), (.ref b56)])) (fun _ kq => XS.bipush X68.here hx rfl (hb hby at_36) kq) ?_
  refine own_st (T' := T68) (F' := (mkF m 41 #[.val (.int p0), .val (.int p1), .val (.int p2), .unset, .unset, .unset, .unset] [(.int (214 : Int32)), (.int (6 : Int32)), (.ref b56), (.ref b56)])) (fun _ kq => XS.sipush X68.here hx rfl (hb hby at_38) kq) ?_
  obtain ⟨T70, h70, locs70, X70, e70, N70, W70, V70, st70⟩ := own_stI X68 hx hZ e68 N68 (ys := [(65 : Int32), (90 : Int32), (95 : Int32), (97 : Int32), (122 : Int32), (192 : Int32), (214 : Int32), (0 : Int32), (0 : Int32), (0 : Int32), (0 : Int32), (0 : Int32), (0 : Int32), (0 : Int32), (0 : Int32), (0 : Int32), (0 : Int32), (0 : Int32), (0 : Int32), (0 : Int32), (0 : Int32), (0 : Int32), (0 : Int32), (0 : Int32), (0 : Int32), (0 : Int32), (0 : Int32), (0 : Int32), (0 : Int32), (0 : Int32), (0 : Int32), (0 : Int32)]) V68 gb56 (g := (mkF m 41 #[.val (.int p0), .val (.int p1), .val (.int p2), .unset, .unset, .unset, .unset] [(.int (214 : Int32)), (.int (6 : Int32)), (.ref b56), (.ref b56)])) rfl rfl (hb hby at_41) (by decide) (Nat.le_of_ble_eq_true rfl) rfl
  have Z70 : n0 ≤ h70.size := by rw [W70.size]; exact Z68
  refine own_st (T' := T70) (F' := (mkF m 42 #[.val (.int p0), .val (.int p1), .val (.int p2), .unset, .unset, .unset, .unset] [(.ref b56)])) (st70) ?_
  refine own_st (T' := T70) (F' := (mkF m 43 #[.val (.int p0), .val (.int p1), .val (.int p2), .unset, .unset, .unset, .unset] [(.ref b56), (.ref b56)])) (fun _ kq => XS.dup X70.here hx rfl (hb hby at_42) rfl rfl kq) ?_
  refine own_st (T' := T70) (F' := (mkF m 45 #[.val (.int p0), .val (.int p1), .val (.int p2), .unset, .unset, .unset, .unset] [(.int (7 : Int32)), (.ref b56), (.ref b56)])) (fun _ kq => XS.bipush X70.here hx rfl (hb hby at_43) kq) ?_
  refine own_st (T' := T70) (F' := (mkF m 48 #[.val (.int p0), .val (.int p1), .val (.int p2), .unset, .unset, .unset, .unset] [(.int (216 : Int32)), (.int (7 : Int32)), (.ref b56), (.ref b56)])) (fun _ kq => XS.sipush X70.here hx rfl (hb hby at_45) kq) ?_
  obtain ⟨T72, h72, locs72, X72, e72, N72, W72, V72, st72⟩ := own_stI X70 hx hZ e70 N70 (ys := [(65 : Int32), (90 : Int32), (95 : Int32), (97 : Int32), (122 : Int32), (192 : Int32), (214 : Int32), (216 : Int32), (0 : Int32), (0 : Int32), (0 : Int32), (0 : Int32), (0 : Int32), (0 : Int32), (0 : Int32), (0 : Int32), (0 : Int32), (0 : Int32), (0 : Int32), (0 : Int32), (0 : Int32), (0 : Int32), (0 : Int32), (0 : Int32), (0 : Int32), (0 : Int32), (0 : Int32), (0 : Int32), (0 : Int32), (0 : Int32), (0 : Int32), (0 : Int32)]) V70 gb56 (g := (mkF m 48 #[.val (.int p0), .val (.int p1), .val (.int p2), .unset, .unset, .unset, .unset] [(.int (216 : Int32)), (.int (7 : Int32)), (.ref b56), (.ref b56)])) rfl rfl (hb hby at_48) (by decide) (Nat.le_of_ble_eq_true rfl) rfl
  have Z72 : n0 ≤ h72.size := by rw [W72.size]; exact Z70
  refine own_st (T' := T72) (F' := (mkF m 49 #[.val (.int p0), .val (.int p1), .val (.int p2), .unset, .unset, .unset, .unset] [(.ref b56)])) (st72) ?_
  refine own_st (T' := T72) (F' := (mkF m 50 #[.val (.int p0), .val (.int p1), .val (.int p2), .unset, .unset, .unset, .unset] [(.ref b56), (.ref b56)])) (fun _ kq => XS.dup X72.here hx rfl (hb hby at_49) rfl rfl kq) ?_
  refine own_st (T' := T72) (F' := (mkF m 52 #[.val (.int p0), .val (.int p1), .val (.int p2), .unset, .unset, .unset, .unset] [(.int (8 : Int32)), (.ref b56), (.ref b56)])) (fun _ kq => XS.bipush X72.here hx rfl (hb hby at_50) kq) ?_
  refine own_st (T' := T72) (F' := (mkF m 55 #[.val (.int p0), .val (.int p1), .val (.int p2), .unset, .unset, .unset, .unset] [(.int (246 : Int32)), (.int (8 : Int32)), (.ref b56), (.ref b56)])) (fun _ kq => XS.sipush X72.here hx rfl (hb hby at_52) kq) ?_
  obtain ⟨T74, h74, locs74, X74, e74, N74, W74, V74, st74⟩ := own_stI X72 hx hZ e72 N72 (ys := [(65 : Int32), (90 : Int32), (95 : Int32), (97 : Int32), (122 : Int32), (192 : Int32), (214 : Int32), (216 : Int32), (246 : Int32), (0 : Int32), (0 : Int32), (0 : Int32), (0 : Int32), (0 : Int32), (0 : Int32), (0 : Int32), (0 : Int32), (0 : Int32), (0 : Int32), (0 : Int32), (0 : Int32), (0 : Int32), (0 : Int32), (0 : Int32), (0 : Int32), (0 : Int32), (0 : Int32), (0 : Int32), (0 : Int32), (0 : Int32), (0 : Int32), (0 : Int32)]) V72 gb56 (g := (mkF m 55 #[.val (.int p0), .val (.int p1), .val (.int p2), .unset, .unset, .unset, .unset] [(.int (246 : Int32)), (.int (8 : Int32)), (.ref b56), (.ref b56)])) rfl rfl (hb hby at_55) (by decide) (Nat.le_of_ble_eq_true rfl) rfl
  have Z74 : n0 ≤ h74.size := by rw [W74.size]; exact Z72
  refine own_st (T' := T74) (F' := (mkF m 56 #[.val (.int p0), .val (.int p1), .val (.int p2), .unset, .unset, .unset, .unset] [(.ref b56)])) (st74) ?_
  refine own_st (T' := T74) (F' := (mkF m 57 #[.val (.int p0), .val (.int p1), .val (.int p2), .unset, .unset, .unset, .unset] [(.ref b56), (.ref b56)])) (fun _ kq => XS.dup X74.here hx rfl (hb hby at_56) rfl rfl kq) ?_
  refine own_st (T' := T74) (F' := (mkF m 59 #[.val (.int p0), .val (.int p1), .val (.int p2), .unset, .unset, .unset, .unset] [(.int (9 : Int32)), (.ref b56), (.ref b56)])) (fun _ kq => XS.bipush X74.here hx rfl (hb hby at_57) kq) ?_
  refine own_st (T' := T74) (F' := (mkF m 62 #[.val (.int p0), .val (.int p1), .val (.int p2), .unset, .unset, .unset, .unset] [(.int (248 : Int32)), (.int (9 : Int32)), (.ref b56), (.ref b56)])) (fun _ kq => XS.sipush X74.here hx rfl (hb hby at_59) kq) ?_
  obtain ⟨T76, h76, locs76, X76, e76, N76, W76, V76, st76⟩ := own_stI X74 hx hZ e74 N74 (ys := [(65 : Int32), (90 : Int32), (95 : Int32), (97 : Int32), (122 : Int32), (192 : Int32), (214 : Int32), (216 : Int32), (246 : Int32), (248 : Int32), (0 : Int32), (0 : Int32), (0 : Int32), (0 : Int32), (0 : Int32), (0 : Int32), (0 : Int32), (0 : Int32), (0 : Int32), (0 : Int32), (0 : Int32), (0 : Int32), (0 : Int32), (0 : Int32), (0 : Int32), (0 : Int32), (0 : Int32), (0 : Int32), (0 : Int32), (0 : Int32), (0 : Int32), (0 : Int32)]) V74 gb56 (g := (mkF m 62 #[.val (.int p0), .val (.int p1), .val (.int p2), .unset, .unset, .unset, .unset] [(.int (248 : Int32)), (.int (9 : Int32)), (.ref b56), (.ref b56)])) rfl rfl (hb hby at_62) (by decide) (Nat.le_of_ble_eq_true rfl) rfl
  have Z76 : n0 ≤ h76.size := by rw [W76.size]; exact Z74
  refine own_st (T' := T76) (F' := (mkF m 63 #[.val (.int p0), .val (.int p1), .val (.int p2), .unset, .unset, .unset, .unset] [(.ref b56)])) (st76) ?_
  refine own_st (T' := T76) (F' := (mkF m 64 #[.val (.int p0), .val (.int p1), .val (.int p2), .unset, .unset, .unset, .unset] [(.ref b56), (.ref b56)])) (fun _ kq => XS.dup X76.here hx rfl (hb hby at_63) rfl rfl kq) ?_
  refine own_st (T' := T76) (F' := (mkF m 66 #[.val (.int p0), .val (.int p1), .val (.int p2), .unset, .unset, .unset, .unset] [(.int (10 : Int32)), (.ref b56), (.ref b56)])) (fun _ kq => XS.bipush X76.here hx rfl (hb hby at_64) kq) ?_
  refine own_st (T' := T76) (F' := (mkF m 69 #[.val (.int p0), .val (.int p1), .val (.int p2), .unset, .unset, .unset, .unset] [(.int (767 : Int32)), (.int (10 : Int32)), (.ref b56), (.ref b56)])) (fun _ kq => XS.sipush X76.here hx rfl (hb hby at_66) kq) ?_
  obtain ⟨T78, h78, locs78, X78, e78, N78, W78, V78, st78⟩ := own_stI X76 hx hZ e76 N76 (ys := [(65 : Int32), (90 : Int32), (95 : Int32), (97 : Int32), (122 : Int32), (192 : Int32), (214 : Int32), (216 : Int32), (246 : Int32), (248 : Int32), (767 : Int32), (0 : Int32), (0 : Int32), (0 : Int32), (0 : Int32), (0 : Int32), (0 : Int32), (0 : Int32), (0 : Int32), (0 : Int32), (0 : Int32), (0 : Int32), (0 : Int32), (0 : Int32), (0 : Int32), (0 : Int32), (0 : Int32), (0 : Int32), (0 : Int32), (0 : Int32), (0 : Int32), (0 : Int32)]) V76 gb56 (g := (mkF m 69 #[.val (.int p0), .val (.int p1), .val (.int p2), .unset, .unset, .unset, .unset] [(.int (767 : Int32)), (.int (10 : Int32)), (.ref b56), (.ref b56)])) rfl rfl (hb hby at_69) (by decide) (Nat.le_of_ble_eq_true rfl) rfl
  have Z78 : n0 ≤ h78.size := by rw [W78.size]; exact Z76
  refine own_st (T' := T78) (F' := (mkF m 70 #[.val (.int p0), .val (.int p1), .val (.int p2), .unset, .unset, .unset, .unset] [(.ref b56)])) (st78) ?_
  refine own_st (T' := T78) (F' := (mkF m 71 #[.val (.int p0), .val (.int p1), .val (.int p2), .unset, .unset, .unset, .unset] [(.ref b56), (.ref b56)])) (fun _ kq => XS.dup X78.here hx rfl (hb hby at_70) rfl rfl kq) ?_
  refine own_st (T' := T78) (F' := (mkF m 73 #[.val (.int p0), .val (.int p1), .val (.int p2), .unset, .unset, .unset, .unset] [(.int (11 : Int32)), (.ref b56), (.ref b56)])) (fun _ kq => XS.bipush X78.here hx rfl (hb hby at_71) kq) ?_
  refine own_st (T' := T78) (F' := (mkF m 76 #[.val (.int p0), .val (.int p1), .val (.int p2), .unset, .unset, .unset, .unset] [(.int (880 : Int32)), (.int (11 : Int32)), (.ref b56), (.ref b56)])) (fun _ kq => XS.sipush X78.here hx rfl (hb hby at_73) kq) ?_
  obtain ⟨T80, h80, locs80, X80, e80, N80, W80, V80, st80⟩ := own_stI X78 hx hZ e78 N78 (ys := [(65 : Int32), (90 : Int32), (95 : Int32), (97 : Int32), (122 : Int32), (192 : Int32), (214 : Int32), (216 : Int32), (246 : Int32), (248 : Int32), (767 : Int32), (880 : Int32), (0 : Int32), (0 : Int32), (0 : Int32), (0 : Int32), (0 : Int32), (0 : Int32), (0 : Int32), (0 : Int32), (0 : Int32), (0 : Int32), (0 : Int32), (0 : Int32), (0 : Int32), (0 : Int32), (0 : Int32), (0 : Int32), (0 : Int32), (0 : Int32), (0 : Int32), (0 : Int32)]) V78 gb56 (g := (mkF m 76 #[.val (.int p0), .val (.int p1), .val (.int p2), .unset, .unset, .unset, .unset] [(.int (880 : Int32)), (.int (11 : Int32)), (.ref b56), (.ref b56)])) rfl rfl (hb hby at_76) (by decide) (Nat.le_of_ble_eq_true rfl) rfl
  have Z80 : n0 ≤ h80.size := by rw [W80.size]; exact Z78
  refine own_st (T' := T80) (F' := (mkF m 77 #[.val (.int p0), .val (.int p1), .val (.int p2), .unset, .unset, .unset, .unset] [(.ref b56)])) (st80) ?_
  refine own_st (T' := T80) (F' := (mkF m 78 #[.val (.int p0), .val (.int p1), .val (.int p2), .unset, .unset, .unset, .unset] [(.ref b56), (.ref b56)])) (fun _ kq => XS.dup X80.here hx rfl (hb hby at_77) rfl rfl kq) ?_
  refine own_st (T' := T80) (F' := (mkF m 80 #[.val (.int p0), .val (.int p1), .val (.int p2), .unset, .unset, .unset, .unset] [(.int (12 : Int32)), (.ref b56), (.ref b56)])) (fun _ kq => XS.bipush X80.here hx rfl (hb hby at_78) kq) ?_
  refine own_st (T' := T80) (F' := (mkF m 83 #[.val (.int p0), .val (.int p1), .val (.int p2), .unset, .unset, .unset, .unset] [(.int (893 : Int32)), (.int (12 : Int32)), (.ref b56), (.ref b56)])) (fun _ kq => XS.sipush X80.here hx rfl (hb hby at_80) kq) ?_
  obtain ⟨T82, h82, locs82, X82, e82, N82, W82, V82, st82⟩ := own_stI X80 hx hZ e80 N80 (ys := [(65 : Int32), (90 : Int32), (95 : Int32), (97 : Int32), (122 : Int32), (192 : Int32), (214 : Int32), (216 : Int32), (246 : Int32), (248 : Int32), (767 : Int32), (880 : Int32), (893 : Int32), (0 : Int32), (0 : Int32), (0 : Int32), (0 : Int32), (0 : Int32), (0 : Int32), (0 : Int32), (0 : Int32), (0 : Int32), (0 : Int32), (0 : Int32), (0 : Int32), (0 : Int32), (0 : Int32), (0 : Int32), (0 : Int32), (0 : Int32), (0 : Int32), (0 : Int32)]) V80 gb56 (g := (mkF m 83 #[.val (.int p0), .val (.int p1), .val (.int p2), .unset, .unset, .unset, .unset] [(.int (893 : Int32)), (.int (12 : Int32)), (.ref b56), (.ref b56)])) rfl rfl (hb hby at_83) (by decide) (Nat.le_of_ble_eq_true rfl) rfl
  have Z82 : n0 ≤ h82.size := by rw [W82.size]; exact Z80
  refine own_st (T' := T82) (F' := (mkF m 84 #[.val (.int p0), .val (.int p1), .val (.int p2), .unset, .unset, .unset, .unset] [(.ref b56)])) (st82) ?_
  refine own_st (T' := T82) (F' := (mkF m 85 #[.val (.int p0), .val (.int p1), .val (.int p2), .unset, .unset, .unset, .unset] [(.ref b56), (.ref b56)])) (fun _ kq => XS.dup X82.here hx rfl (hb hby at_84) rfl rfl kq) ?_
  refine own_st (T' := T82) (F' := (mkF m 87 #[.val (.int p0), .val (.int p1), .val (.int p2), .unset, .unset, .unset, .unset] [(.int (13 : Int32)), (.ref b56), (.ref b56)])) (fun _ kq => XS.bipush X82.here hx rfl (hb hby at_85) kq) ?_
  refine own_st (T' := T82) (F' := (mkF m 90 #[.val (.int p0), .val (.int p1), .val (.int p2), .unset, .unset, .unset, .unset] [(.int (895 : Int32)), (.int (13 : Int32)), (.ref b56), (.ref b56)])) (fun _ kq => XS.sipush X82.here hx rfl (hb hby at_87) kq) ?_
  obtain ⟨T84, h84, locs84, X84, e84, N84, W84, V84, st84⟩ := own_stI X82 hx hZ e82 N82 (ys := [(65 : Int32), (90 : Int32), (95 : Int32), (97 : Int32), (122 : Int32), (192 : Int32), (214 : Int32), (216 : Int32), (246 : Int32), (248 : Int32), (767 : Int32), (880 : Int32), (893 : Int32), (895 : Int32), (0 : Int32), (0 : Int32), (0 : Int32), (0 : Int32), (0 : Int32), (0 : Int32), (0 : Int32), (0 : Int32), (0 : Int32), (0 : Int32), (0 : Int32), (0 : Int32), (0 : Int32), (0 : Int32), (0 : Int32), (0 : Int32), (0 : Int32), (0 : Int32)]) V82 gb56 (g := (mkF m 90 #[.val (.int p0), .val (.int p1), .val (.int p2), .unset, .unset, .unset, .unset] [(.int (895 : Int32)), (.int (13 : Int32)), (.ref b56), (.ref b56)])) rfl rfl (hb hby at_90) (by decide) (Nat.le_of_ble_eq_true rfl) rfl
  have Z84 : n0 ≤ h84.size := by rw [W84.size]; exact Z82
  refine own_st (T' := T84) (F' := (mkF m 91 #[.val (.int p0), .val (.int p1), .val (.int p2), .unset, .unset, .unset, .unset] [(.ref b56)])) (st84) ?_
  refine own_st (T' := T84) (F' := (mkF m 92 #[.val (.int p0), .val (.int p1), .val (.int p2), .unset, .unset, .unset, .unset] [(.ref b56), (.ref b56)])) (fun _ kq => XS.dup X84.here hx rfl (hb hby at_91) rfl rfl kq) ?_
  refine own_st (T' := T84) (F' := (mkF m 94 #[.val (.int p0), .val (.int p1), .val (.int p2), .unset, .unset, .unset, .unset] [(.int (14 : Int32)), (.ref b56), (.ref b56)])) (fun _ kq => XS.bipush X84.here hx rfl (hb hby at_92) kq) ?_
  refine own_st (T' := T84) (F' := (mkF m 97 #[.val (.int p0), .val (.int p1), .val (.int p2), .unset, .unset, .unset, .unset] [(.int (8191 : Int32)), (.int (14 : Int32)), (.ref b56), (.ref b56)])) (fun _ kq => XS.sipush X84.here hx rfl (hb hby at_94) kq) ?_
  obtain ⟨T86, h86, locs86, X86, e86, N86, W86, V86, st86⟩ := own_stI X84 hx hZ e84 N84 (ys := [(65 : Int32), (90 : Int32), (95 : Int32), (97 : Int32), (122 : Int32), (192 : Int32), (214 : Int32), (216 : Int32), (246 : Int32), (248 : Int32), (767 : Int32), (880 : Int32), (893 : Int32), (895 : Int32), (8191 : Int32), (0 : Int32), (0 : Int32), (0 : Int32), (0 : Int32), (0 : Int32), (0 : Int32), (0 : Int32), (0 : Int32), (0 : Int32), (0 : Int32), (0 : Int32), (0 : Int32), (0 : Int32), (0 : Int32), (0 : Int32), (0 : Int32), (0 : Int32)]) V84 gb56 (g := (mkF m 97 #[.val (.int p0), .val (.int p1), .val (.int p2), .unset, .unset, .unset, .unset] [(.int (8191 : Int32)), (.int (14 : Int32)), (.ref b56), (.ref b56)])) rfl rfl (hb hby at_97) (by decide) (Nat.le_of_ble_eq_true rfl) rfl
  have Z86 : n0 ≤ h86.size := by rw [W86.size]; exact Z84
  refine own_st (T' := T86) (F' := (mkF m 98 #[.val (.int p0), .val (.int p1), .val (.int p2), .unset, .unset, .unset, .unset] [(.ref b56)])) (st86) ?_
  refine own_st (T' := T86) (F' := (mkF m 99 #[.val (.int p0), .val (.int p1), .val (.int p2), .unset, .unset, .unset, .unset] [(.ref b56), (.ref b56)])) (fun _ kq => XS.dup X86.here hx rfl (hb hby at_98) rfl rfl kq) ?_
  refine own_st (T' := T86) (F' := (mkF m 101 #[.val (.int p0), .val (.int p1), .val (.int p2), .unset, .unset, .unset, .unset] [(.int (15 : Int32)), (.ref b56), (.ref b56)])) (fun _ kq => XS.bipush X86.here hx rfl (hb hby at_99) kq) ?_
  refine own_st (T' := T86) (F' := (mkF m 104 #[.val (.int p0), .val (.int p1), .val (.int p2), .unset, .unset, .unset, .unset] [(.int (8204 : Int32)), (.int (15 : Int32)), (.ref b56), (.ref b56)])) (fun _ kq => XS.sipush X86.here hx rfl (hb hby at_101) kq) ?_
  obtain ⟨T88, h88, locs88, X88, e88, N88, W88, V88, st88⟩ := own_stI X86 hx hZ e86 N86 (ys := [(65 : Int32), (90 : Int32), (95 : Int32), (97 : Int32), (122 : Int32), (192 : Int32), (214 : Int32), (216 : Int32), (246 : Int32), (248 : Int32), (767 : Int32), (880 : Int32), (893 : Int32), (895 : Int32), (8191 : Int32), (8204 : Int32), (0 : Int32), (0 : Int32), (0 : Int32), (0 : Int32), (0 : Int32), (0 : Int32), (0 : Int32), (0 : Int32), (0 : Int32), (0 : Int32), (0 : Int32), (0 : Int32), (0 : Int32), (0 : Int32), (0 : Int32), (0 : Int32)]) V86 gb56 (g := (mkF m 104 #[.val (.int p0), .val (.int p1), .val (.int p2), .unset, .unset, .unset, .unset] [(.int (8204 : Int32)), (.int (15 : Int32)), (.ref b56), (.ref b56)])) rfl rfl (hb hby at_104) (by decide) (Nat.le_of_ble_eq_true rfl) rfl
  have Z88 : n0 ≤ h88.size := by rw [W88.size]; exact Z86
  refine own_st (T' := T88) (F' := (mkF m 105 #[.val (.int p0), .val (.int p1), .val (.int p2), .unset, .unset, .unset, .unset] [(.ref b56)])) (st88) ?_
  refine own_st (T' := T88) (F' := (mkF m 106 #[.val (.int p0), .val (.int p1), .val (.int p2), .unset, .unset, .unset, .unset] [(.ref b56), (.ref b56)])) (fun _ kq => XS.dup X88.here hx rfl (hb hby at_105) rfl rfl kq) ?_
  refine own_st (T' := T88) (F' := (mkF m 108 #[.val (.int p0), .val (.int p1), .val (.int p2), .unset, .unset, .unset, .unset] [(.int (16 : Int32)), (.ref b56), (.ref b56)])) (fun _ kq => XS.bipush X88.here hx rfl (hb hby at_106) kq) ?_
  refine own_st (T' := T88) (F' := (mkF m 111 #[.val (.int p0), .val (.int p1), .val (.int p2), .unset, .unset, .unset, .unset] [(.int (8205 : Int32)), (.int (16 : Int32)), (.ref b56), (.ref b56)])) (fun _ kq => XS.sipush X88.here hx rfl (hb hby at_108) kq) ?_
  obtain ⟨T90, h90, locs90, X90, e90, N90, W90, V90, st90⟩ := own_stI X88 hx hZ e88 N88 (ys := [(65 : Int32), (90 : Int32), (95 : Int32), (97 : Int32), (122 : Int32), (192 : Int32), (214 : Int32), (216 : Int32), (246 : Int32), (248 : Int32), (767 : Int32), (880 : Int32), (893 : Int32), (895 : Int32), (8191 : Int32), (8204 : Int32), (8205 : Int32), (0 : Int32), (0 : Int32), (0 : Int32), (0 : Int32), (0 : Int32), (0 : Int32), (0 : Int32), (0 : Int32), (0 : Int32), (0 : Int32), (0 : Int32), (0 : Int32), (0 : Int32), (0 : Int32), (0 : Int32)]) V88 gb56 (g := (mkF m 111 #[.val (.int p0), .val (.int p1), .val (.int p2), .unset, .unset, .unset, .unset] [(.int (8205 : Int32)), (.int (16 : Int32)), (.ref b56), (.ref b56)])) rfl rfl (hb hby at_111) (by decide) (Nat.le_of_ble_eq_true rfl) rfl
  have Z90 : n0 ≤ h90.size := by rw [W90.size]; exact Z88
  refine own_st (T' := T90) (F' := (mkF m 112 #[.val (.int p0), .val (.int p1), .val (.int p2), .unset, .unset, .unset, .unset] [(.ref b56)])) (st90) ?_
  refine own_st (T' := T90) (F' := (mkF m 113 #[.val (.int p0), .val (.int p1), .val (.int p2), .unset, .unset, .unset, .unset] [(.ref b56), (.ref b56)])) (fun _ kq => XS.dup X90.here hx rfl (hb hby at_112) rfl rfl kq) ?_
  refine own_st (T' := T90) (F' := (mkF m 115 #[.val (.int p0), .val (.int p1), .val (.int p2), .unset, .unset, .unset, .unset] [(.int (17 : Int32)), (.ref b56), (.ref b56)])) (fun _ kq => XS.bipush X90.here hx rfl (hb hby at_113) kq) ?_
  refine own_st (T' := T90) (F' := (mkF m 118 #[.val (.int p0), .val (.int p1), .val (.int p2), .unset, .unset, .unset, .unset] [(.int (8304 : Int32)), (.int (17 : Int32)), (.ref b56), (.ref b56)])) (fun _ kq => XS.sipush X90.here hx rfl (hb hby at_115) kq) ?_
  obtain ⟨T92, h92, locs92, X92, e92, N92, W92, V92, st92⟩ := own_stI X90 hx hZ e90 N90 (ys := [(65 : Int32), (90 : Int32), (95 : Int32), (97 : Int32), (122 : Int32), (192 : Int32), (214 : Int32), (216 : Int32), (246 : Int32), (248 : Int32), (767 : Int32), (880 : Int32), (893 : Int32), (895 : Int32), (8191 : Int32), (8204 : Int32), (8205 : Int32), (8304 : Int32), (0 : Int32), (0 : Int32), (0 : Int32), (0 : Int32), (0 : Int32), (0 : Int32), (0 : Int32), (0 : Int32), (0 : Int32), (0 : Int32), (0 : Int32), (0 : Int32), (0 : Int32), (0 : Int32)]) V90 gb56 (g := (mkF m 118 #[.val (.int p0), .val (.int p1), .val (.int p2), .unset, .unset, .unset, .unset] [(.int (8304 : Int32)), (.int (17 : Int32)), (.ref b56), (.ref b56)])) rfl rfl (hb hby at_118) (by decide) (Nat.le_of_ble_eq_true rfl) rfl
  have Z92 : n0 ≤ h92.size := by rw [W92.size]; exact Z90
  refine own_st (T' := T92) (F' := (mkF m 119 #[.val (.int p0), .val (.int p1), .val (.int p2), .unset, .unset, .unset, .unset] [(.ref b56)])) (st92) ?_
  refine own_st (T' := T92) (F' := (mkF m 120 #[.val (.int p0), .val (.int p1), .val (.int p2), .unset, .unset, .unset, .unset] [(.ref b56), (.ref b56)])) (fun _ kq => XS.dup X92.here hx rfl (hb hby at_119) rfl rfl kq) ?_
  refine own_st (T' := T92) (F' := (mkF m 122 #[.val (.int p0), .val (.int p1), .val (.int p2), .unset, .unset, .unset, .unset] [(.int (18 : Int32)), (.ref b56), (.ref b56)])) (fun _ kq => XS.bipush X92.here hx rfl (hb hby at_120) kq) ?_
  refine own_st (T' := T92) (F' := (mkF m 125 #[.val (.int p0), .val (.int p1), .val (.int p2), .unset, .unset, .unset, .unset] [(.int (8591 : Int32)), (.int (18 : Int32)), (.ref b56), (.ref b56)])) (fun _ kq => XS.sipush X92.here hx rfl (hb hby at_122) kq) ?_
  obtain ⟨T94, h94, locs94, X94, e94, N94, W94, V94, st94⟩ := own_stI X92 hx hZ e92 N92 (ys := [(65 : Int32), (90 : Int32), (95 : Int32), (97 : Int32), (122 : Int32), (192 : Int32), (214 : Int32), (216 : Int32), (246 : Int32), (248 : Int32), (767 : Int32), (880 : Int32), (893 : Int32), (895 : Int32), (8191 : Int32), (8204 : Int32), (8205 : Int32), (8304 : Int32), (8591 : Int32), (0 : Int32), (0 : Int32), (0 : Int32), (0 : Int32), (0 : Int32), (0 : Int32), (0 : Int32), (0 : Int32), (0 : Int32), (0 : Int32), (0 : Int32), (0 : Int32), (0 : Int32)]) V92 gb56 (g := (mkF m 125 #[.val (.int p0), .val (.int p1), .val (.int p2), .unset, .unset, .unset, .unset] [(.int (8591 : Int32)), (.int (18 : Int32)), (.ref b56), (.ref b56)])) rfl rfl (hb hby at_125) (by decide) (Nat.le_of_ble_eq_true rfl) rfl
  have Z94 : n0 ≤ h94.size := by rw [W94.size]; exact Z92
  refine own_st (T' := T94) (F' := (mkF m 126 #[.val (.int p0), .val (.int p1), .val (.int p2), .unset, .unset, .unset, .unset] [(.ref b56)])) (st94) ?_
  refine own_st (T' := T94) (F' := (mkF m 127 #[.val (.int p0), .val (.int p1), .val (.int p2), .unset, .unset, .unset, .unset] [(.ref b56), (.ref b56)])) (fun _ kq => XS.dup X94.here hx rfl (hb hby at_126) rfl rfl kq) ?_
  refine own_st (T' := T94) (F' := (mkF m 129 #[.val (.int p0), .val (.int p1), .val (.int p2), .unset, .unset, .unset, .unset] [(.int (19 : Int32)), (.ref b56), (.ref b56)])) (fun _ kq => XS.bipush X94.here hx rfl (hb hby at_127) kq) ?_
  refine own_st (T' := T94) (F' := (mkF m 132 #[.val (.int p0), .val (.int p1), .val (.int p2), .unset, .unset, .unset, .unset] [(.int (11264 : Int32)), (.int (19 : Int32)), (.ref b56), (.ref b56)])) (fun _ kq => XS.sipush X94.here hx rfl (hb hby at_129) kq) ?_
  obtain ⟨T96, h96, locs96, X96, e96, N96, W96, V96, st96⟩ := own_stI X94 hx hZ e94 N94 (ys := [(65 : Int32), (90 : Int32), (95 : Int32), (97 : Int32), (122 : Int32), (192 : Int32), (214 : Int32), (216 : Int32), (246 : Int32), (248 : Int32), (767 : Int32), (880 : Int32), (893 : Int32), (895 : Int32), (8191 : Int32), (8204 : Int32), (8205 : Int32), (8304 : Int32), (8591 : Int32), (11264 : Int32), (0 : Int32), (0 : Int32), (0 : Int32), (0 : Int32), (0 : Int32), (0 : Int32), (0 : Int32), (0 : Int32), (0 : Int32), (0 : Int32), (0 : Int32), (0 : Int32)]) V94 gb56 (g := (mkF m 132 #[.val (.int p0), .val (.int p1), .val (.int p2), .unset, .unset, .unset, .unset] [(.int (11264 : Int32)), (.int (19 : Int32)), (.ref b56), (.ref b56)])) rfl rfl (hb hby at_132) (by decide) (Nat.le_of_ble_eq_true rfl) rfl
  have Z96 : n0 ≤ h96.size := by rw [W96.size]; exact Z94
  refine own_st (T' := T96) (F' := (mkF m 133 #[.val (.int p0), .val (.int p1), .val (.int p2), .unset, .unset, .unset, .unset] [(.ref b56)])) (st96) ?_
  refine own_st (T' := T96) (F' := (mkF m 134 #[.val (.int p0), .val (.int p1), .val (.int p2), .unset, .unset, .unset, .unset] [(.ref b56), (.ref b56)])) (fun _ kq => XS.dup X96.here hx rfl (hb hby at_133) rfl rfl kq) ?_
  refine own_st (T' := T96) (F' := (mkF m 136 #[.val (.int p0), .val (.int p1), .val (.int p2), .unset, .unset, .unset, .unset] [(.int (20 : Int32)), (.ref b56), (.ref b56)])) (fun _ kq => XS.bipush X96.here hx rfl (hb hby at_134) kq) ?_
  refine own_st (T' := T96) (F' := (mkF m 139 #[.val (.int p0), .val (.int p1), .val (.int p2), .unset, .unset, .unset, .unset] [(.int (12271 : Int32)), (.int (20 : Int32)), (.ref b56), (.ref b56)])) (fun _ kq => XS.sipush X96.here hx rfl (hb hby at_136) kq) ?_
  obtain ⟨T98, h98, locs98, X98, e98, N98, W98, V98, st98⟩ := own_stI X96 hx hZ e96 N96 (ys := [(65 : Int32), (90 : Int32), (95 : Int32), (97 : Int32), (122 : Int32), (192 : Int32), (214 : Int32), (216 : Int32), (246 : Int32), (248 : Int32), (767 : Int32), (880 : Int32), (893 : Int32), (895 : Int32), (8191 : Int32), (8204 : Int32), (8205 : Int32), (8304 : Int32), (8591 : Int32), (11264 : Int32), (12271 : Int32), (0 : Int32), (0 : Int32), (0 : Int32), (0 : Int32), (0 : Int32), (0 : Int32), (0 : Int32), (0 : Int32), (0 : Int32), (0 : Int32), (0 : Int32)]) V96 gb56 (g := (mkF m 139 #[.val (.int p0), .val (.int p1), .val (.int p2), .unset, .unset, .unset, .unset] [(.int (12271 : Int32)), (.int (20 : Int32)), (.ref b56), (.ref b56)])) rfl rfl (hb hby at_139) (by decide) (Nat.le_of_ble_eq_true rfl) rfl
  have Z98 : n0 ≤ h98.size := by rw [W98.size]; exact Z96
  refine own_st (T' := T98) (F' := (mkF m 140 #[.val (.int p0), .val (.int p1), .val (.int p2), .unset, .unset, .unset, .unset] [(.ref b56)])) (st98) ?_
  refine own_st (T' := T98) (F' := (mkF m 141 #[.val (.int p0), .val (.int p1), .val (.int p2), .unset, .unset, .unset, .unset] [(.ref b56), (.ref b56)])) (fun _ kq => XS.dup X98.here hx rfl (hb hby at_140) rfl rfl kq) ?_
  refine own_st (T' := T98) (F' := (mkF m 143 #[.val (.int p0), .val (.int p1), .val (.int p2), .unset, .unset, .unset, .unset] [(.int (21 : Int32)), (.ref b56), (.ref b56)])) (fun _ kq => XS.bipush X98.here hx rfl (hb hby at_141) kq) ?_
  refine own_st (T' := T98) (F' := (mkF m 146 #[.val (.int p0), .val (.int p1), .val (.int p2), .unset, .unset, .unset, .unset] [(.int (12289 : Int32)), (.int (21 : Int32)), (.ref b56), (.ref b56)])) (fun _ kq => XS.sipush X98.here hx rfl (hb hby at_143) kq) ?_
  obtain ⟨T100, h100, locs100, X100, e100, N100, W100, V100, st100⟩ := own_stI X98 hx hZ e98 N98 (ys := [(65 : Int32), (90 : Int32), (95 : Int32), (97 : Int32), (122 : Int32), (192 : Int32), (214 : Int32), (216 : Int32), (246 : Int32), (248 : Int32), (767 : Int32), (880 : Int32), (893 : Int32), (895 : Int32), (8191 : Int32), (8204 : Int32), (8205 : Int32), (8304 : Int32), (8591 : Int32), (11264 : Int32), (12271 : Int32), (12289 : Int32), (0 : Int32), (0 : Int32), (0 : Int32), (0 : Int32), (0 : Int32), (0 : Int32), (0 : Int32), (0 : Int32), (0 : Int32), (0 : Int32)]) V98 gb56 (g := (mkF m 146 #[.val (.int p0), .val (.int p1), .val (.int p2), .unset, .unset, .unset, .unset] [(.int (12289 : Int32)), (.int (21 : Int32)), (.ref b56), (.ref b56)])) rfl rfl (hb hby at_146) (by decide) (Nat.le_of_ble_eq_true rfl) rfl
  have Z100 : n0 ≤ h100.size := by rw [W100.size]; exact Z98
  refine own_st (T' := T100) (F' := (mkF m 147 #[.val (.int p0), .val (.int p1), .val (.int p2), .unset, .unset, .unset, .unset] [(.ref b56)])) (st100) ?_
  refine own_st (T' := T100) (F' := (mkF m 148 #[.val (.int p0), .val (.int p1), .val (.int p2), .unset, .unset, .unset, .unset] [(.ref b56), (.ref b56)])) (fun _ kq => XS.dup X100.here hx rfl (hb hby at_147) rfl rfl kq) ?_
  refine own_st (T' := T100) (F' := (mkF m 150 #[.val (.int p0), .val (.int p1), .val (.int p2), .unset, .unset, .unset, .unset] [(.int (22 : Int32)), (.ref b56), (.ref b56)])) (fun _ kq => XS.bipush X100.here hx rfl (hb hby at_148) kq) ?_
  refine own_st (T' := T100) (F' := (mkF m 152 #[.val (.int p0), .val (.int p1), .val (.int p2), .unset, .unset, .unset, .unset] [(.int (55295 : Int32)), (.int (22 : Int32)), (.ref b56), (.ref b56)])) (fun _ kq => X100.ldcInt hx hown (mvT hZ (hw _ (List.mem_of_getElem? (i := 1) rfl))) (g := (mkF m 150 #[.val (.int p0), .val (.int p1), .val (.int p2), .unset, .unset, .unset, .unset] [(.int (22 : Int32)), (.ref b56), (.ref b56)])) rfl (hb hby at_150) _ kq) ?_
  obtain ⟨T102, h102, locs102, X102, e102, N102, W102, V102, st102⟩ := own_stI X100 hx hZ e100 N100 (ys := [(65 : Int32), (90 : Int32), (95 : Int32), (97 : Int32), (122 : Int32), (192 : Int32), (214 : Int32), (216 : Int32), (246 : Int32), (248 : Int32), (767 : Int32), (880 : Int32), (893 : Int32), (895 : Int32), (8191 : Int32), (8204 : Int32), (8205 : Int32), (8304 : Int32), (8591 : Int32), (11264 : Int32), (12271 : Int32), (12289 : Int32), (55295 : Int32), (0 : Int32), (0 : Int32), (0 : Int32), (0 : Int32), (0 : Int32), (0 : Int32), (0 : Int32), (0 : Int32), (0 : Int32)]) V100 gb56 (g := (mkF m 152 #[.val (.int p0), .val (.int p1), .val (.int p2), .unset, .unset, .unset, .unset] [(.int (55295 : Int32)), (.int (22 : Int32)), (.ref b56), (.ref b56)])) rfl rfl (hb hby at_152) (by decide) (Nat.le_of_ble_eq_true rfl) rfl
  have Z102 : n0 ≤ h102.size := by rw [W102.size]; exact Z100
  refine own_st (T' := T102) (F' := (mkF m 153 #[.val (.int p0), .val (.int p1), .val (.int p2), .unset, .unset, .unset, .unset] [(.ref b56)])) (st102) ?_
  refine own_st (T' := T102) (F' := (mkF m 154 #[.val (.int p0), .val (.int p1), .val (.int p2), .unset, .unset, .unset, .unset] [(.ref b56), (.ref b56)])) (fun _ kq => XS.dup X102.here hx rfl (hb hby at_153) rfl rfl kq) ?_
  refine own_st (T' := T102) (F' := (mkF m 156 #[.val (.int p0), .val (.int p1), .val (.int p2), .unset, .unset, .unset, .unset] [(.int (23 : Int32)), (.ref b56), (.ref b56)])) (fun _ kq => XS.bipush X102.here hx rfl (hb hby at_154) kq) ?_
  refine own_st (T' := T102) (F' := (mkF m 158 #[.val (.int p0), .val (.int p1), .val (.int p2), .unset, .unset, .unset, .unset] [(.int (63744 : Int32)), (.int (23 : Int32)), (.ref b56), (.ref b56)])) (fun _ kq => X102.ldcInt hx hown (mvT hZ (hw _ (List.mem_of_getElem? (i := 2) rfl))) (g := (mkF m 156 #[.val (.int p0), .val (.int p1), .val (.int p2), .unset, .unset, .unset, .unset] [(.int (23 : Int32)), (.ref b56), (.ref b56)])) rfl (hb hby at_156) _ kq) ?_
  obtain ⟨T104, h104, locs104, X104, e104, N104, W104, V104, st104⟩ := own_stI X102 hx hZ e102 N102 (ys := [(65 : Int32), (90 : Int32), (95 : Int32), (97 : Int32), (122 : Int32), (192 : Int32), (214 : Int32), (216 : Int32), (246 : Int32), (248 : Int32), (767 : Int32), (880 : Int32), (893 : Int32), (895 : Int32), (8191 : Int32), (8204 : Int32), (8205 : Int32), (8304 : Int32), (8591 : Int32), (11264 : Int32), (12271 : Int32), (12289 : Int32), (55295 : Int32), (63744 : Int32), (0 : Int32), (0 : Int32), (0 : Int32), (0 : Int32), (0 : Int32), (0 : Int32), (0 : Int32), (0 : Int32)]) V102 gb56 (g := (mkF m 158 #[.val (.int p0), .val (.int p1), .val (.int p2), .unset, .unset, .unset, .unset] [(.int (63744 : Int32)), (.int (23 : Int32)), (.ref b56), (.ref b56)])) rfl rfl (hb hby at_158) (by decide) (Nat.le_of_ble_eq_true rfl) rfl
  have Z104 : n0 ≤ h104.size := by rw [W104.size]; exact Z102
  refine own_st (T' := T104) (F' := (mkF m 159 #[.val (.int p0), .val (.int p1), .val (.int p2), .unset, .unset, .unset, .unset] [(.ref b56)])) (st104) ?_
  refine own_st (T' := T104) (F' := (mkF m 160 #[.val (.int p0), .val (.int p1), .val (.int p2), .unset, .unset, .unset, .unset] [(.ref b56), (.ref b56)])) (fun _ kq => XS.dup X104.here hx rfl (hb hby at_159) rfl rfl kq) ?_
  refine own_st (T' := T104) (F' := (mkF m 162 #[.val (.int p0), .val (.int p1), .val (.int p2), .unset, .unset, .unset, .unset] [(.int (24 : Int32)), (.ref b56), (.ref b56)])) (fun _ kq => XS.bipush X104.here hx rfl (hb hby at_160) kq) ?_
  refine own_st (T' := T104) (F' := (mkF m 164 #[.val (.int p0), .val (.int p1), .val (.int p2), .unset, .unset, .unset, .unset] [(.int (64975 : Int32)), (.int (24 : Int32)), (.ref b56), (.ref b56)])) (fun _ kq => X104.ldcInt hx hown (mvT hZ (hw _ (List.mem_of_getElem? (i := 3) rfl))) (g := (mkF m 162 #[.val (.int p0), .val (.int p1), .val (.int p2), .unset, .unset, .unset, .unset] [(.int (24 : Int32)), (.ref b56), (.ref b56)])) rfl (hb hby at_162) _ kq) ?_
  obtain ⟨T106, h106, locs106, X106, e106, N106, W106, V106, st106⟩ := own_stI X104 hx hZ e104 N104 (ys := [(65 : Int32), (90 : Int32), (95 : Int32), (97 : Int32), (122 : Int32), (192 : Int32), (214 : Int32), (216 : Int32), (246 : Int32), (248 : Int32), (767 : Int32), (880 : Int32), (893 : Int32), (895 : Int32), (8191 : Int32), (8204 : Int32), (8205 : Int32), (8304 : Int32), (8591 : Int32), (11264 : Int32), (12271 : Int32), (12289 : Int32), (55295 : Int32), (63744 : Int32), (64975 : Int32), (0 : Int32), (0 : Int32), (0 : Int32), (0 : Int32), (0 : Int32), (0 : Int32), (0 : Int32)]) V104 gb56 (g := (mkF m 164 #[.val (.int p0), .val (.int p1), .val (.int p2), .unset, .unset, .unset, .unset] [(.int (64975 : Int32)), (.int (24 : Int32)), (.ref b56), (.ref b56)])) rfl rfl (hb hby at_164) (by decide) (Nat.le_of_ble_eq_true rfl) rfl
  have Z106 : n0 ≤ h106.size := by rw [W106.size]; exact Z104
  refine own_st (T' := T106) (F' := (mkF m 165 #[.val (.int p0), .val (.int p1), .val (.int p2), .unset, .unset, .unset, .unset] [(.ref b56)])) (st106) ?_
  refine own_st (T' := T106) (F' := (mkF m 166 #[.val (.int p0), .val (.int p1), .val (.int p2), .unset, .unset, .unset, .unset] [(.ref b56), (.ref b56)])) (fun _ kq => XS.dup X106.here hx rfl (hb hby at_165) rfl rfl kq) ?_
  refine own_st (T' := T106) (F' := (mkF m 168 #[.val (.int p0), .val (.int p1), .val (.int p2), .unset, .unset, .unset, .unset] [(.int (25 : Int32)), (.ref b56), (.ref b56)])) (fun _ kq => XS.bipush X106.here hx rfl (hb hby at_166) kq) ?_
  refine own_st (T' := T106) (F' := (mkF m 170 #[.val (.int p0), .val (.int p1), .val (.int p2), .unset, .unset, .unset, .unset] [(.int (65008 : Int32)), (.int (25 : Int32)), (.ref b56), (.ref b56)])) (fun _ kq => X106.ldcInt hx hown (mvT hZ (hw _ (List.mem_of_getElem? (i := 4) rfl))) (g := (mkF m 168 #[.val (.int p0), .val (.int p1), .val (.int p2), .unset, .unset, .unset, .unset] [(.int (25 : Int32)), (.ref b56), (.ref b56)])) rfl (hb hby at_168) _ kq) ?_
  obtain ⟨T108, h108, locs108, X108, e108, N108, W108, V108, st108⟩ := own_stI X106 hx hZ e106 N106 (ys := [(65 : Int32), (90 : Int32), (95 : Int32), (97 : Int32), (122 : Int32), (192 : Int32), (214 : Int32), (216 : Int32), (246 : Int32), (248 : Int32), (767 : Int32), (880 : Int32), (893 : Int32), (895 : Int32), (8191 : Int32), (8204 : Int32), (8205 : Int32), (8304 : Int32), (8591 : Int32), (11264 : Int32), (12271 : Int32), (12289 : Int32), (55295 : Int32), (63744 : Int32), (64975 : Int32), (65008 : Int32), (0 : Int32), (0 : Int32), (0 : Int32), (0 : Int32), (0 : Int32), (0 : Int32)]) V106 gb56 (g := (mkF m 170 #[.val (.int p0), .val (.int p1), .val (.int p2), .unset, .unset, .unset, .unset] [(.int (65008 : Int32)), (.int (25 : Int32)), (.ref b56), (.ref b56)])) rfl rfl (hb hby at_170) (by decide) (Nat.le_of_ble_eq_true rfl) rfl
  have Z108 : n0 ≤ h108.size := by rw [W108.size]; exact Z106
  refine own_st (T' := T108) (F' := (mkF m 171 #[.val (.int p0), .val (.int p1), .val (.int p2), .unset, .unset, .unset, .unset] [(.ref b56)])) (st108) ?_
  refine own_st (T' := T108) (F' := (mkF m 172 #[.val (.int p0), .val (.int p1), .val (.int p2), .unset, .unset, .unset, .unset] [(.ref b56), (.ref b56)])) (fun _ kq => XS.dup X108.here hx rfl (hb hby at_171) rfl rfl kq) ?_
  refine own_st (T' := T108) (F' := (mkF m 174 #[.val (.int p0), .val (.int p1), .val (.int p2), .unset, .unset, .unset, .unset] [(.int (26 : Int32)), (.ref b56), (.ref b56)])) (fun _ kq => XS.bipush X108.here hx rfl (hb hby at_172) kq) ?_
  refine own_st (T' := T108) (F' := (mkF m 176 #[.val (.int p0), .val (.int p1), .val (.int p2), .unset, .unset, .unset, .unset] [(.int (65533 : Int32)), (.int (26 : Int32)), (.ref b56), (.ref b56)])) (fun _ kq => X108.ldcInt hx hown (mvT hZ (hw _ (List.mem_of_getElem? (i := 5) rfl))) (g := (mkF m 174 #[.val (.int p0), .val (.int p1), .val (.int p2), .unset, .unset, .unset, .unset] [(.int (26 : Int32)), (.ref b56), (.ref b56)])) rfl (hb hby at_174) _ kq) ?_
  obtain ⟨T110, h110, locs110, X110, e110, N110, W110, V110, st110⟩ := own_stI X108 hx hZ e108 N108 (ys := [(65 : Int32), (90 : Int32), (95 : Int32), (97 : Int32), (122 : Int32), (192 : Int32), (214 : Int32), (216 : Int32), (246 : Int32), (248 : Int32), (767 : Int32), (880 : Int32), (893 : Int32), (895 : Int32), (8191 : Int32), (8204 : Int32), (8205 : Int32), (8304 : Int32), (8591 : Int32), (11264 : Int32), (12271 : Int32), (12289 : Int32), (55295 : Int32), (63744 : Int32), (64975 : Int32), (65008 : Int32), (65533 : Int32), (0 : Int32), (0 : Int32), (0 : Int32), (0 : Int32), (0 : Int32)]) V108 gb56 (g := (mkF m 176 #[.val (.int p0), .val (.int p1), .val (.int p2), .unset, .unset, .unset, .unset] [(.int (65533 : Int32)), (.int (26 : Int32)), (.ref b56), (.ref b56)])) rfl rfl (hb hby at_176) (by decide) (Nat.le_of_ble_eq_true rfl) rfl
  have Z110 : n0 ≤ h110.size := by rw [W110.size]; exact Z108
  refine own_st (T' := T110) (F' := (mkF m 177 #[.val (.int p0), .val (.int p1), .val (.int p2), .unset, .unset, .unset, .unset] [(.ref b56)])) (st110) ?_
  refine own_st (T' := T110) (F' := (mkF m 178 #[.val (.int p0), .val (.int p1), .val (.int p2), .unset, .unset, .unset, .unset] [(.ref b56), (.ref b56)])) (fun _ kq => XS.dup X110.here hx rfl (hb hby at_177) rfl rfl kq) ?_
  refine own_st (T' := T110) (F' := (mkF m 180 #[.val (.int p0), .val (.int p1), .val (.int p2), .unset, .unset, .unset, .unset] [(.int (27 : Int32)), (.ref b56), (.ref b56)])) (fun _ kq => XS.bipush X110.here hx rfl (hb hby at_178) kq) ?_
  refine own_st (T' := T110) (F' := (mkF m 182 #[.val (.int p0), .val (.int p1), .val (.int p2), .unset, .unset, .unset, .unset] [(.int (65536 : Int32)), (.int (27 : Int32)), (.ref b56), (.ref b56)])) (fun _ kq => X110.ldcInt hx hown (mvT hZ (hw _ (List.mem_of_getElem? (i := 6) rfl))) (g := (mkF m 180 #[.val (.int p0), .val (.int p1), .val (.int p2), .unset, .unset, .unset, .unset] [(.int (27 : Int32)), (.ref b56), (.ref b56)])) rfl (hb hby at_180) _ kq) ?_
  obtain ⟨T112, h112, locs112, X112, e112, N112, W112, V112, st112⟩ := own_stI X110 hx hZ e110 N110 (ys := [(65 : Int32), (90 : Int32), (95 : Int32), (97 : Int32), (122 : Int32), (192 : Int32), (214 : Int32), (216 : Int32), (246 : Int32), (248 : Int32), (767 : Int32), (880 : Int32), (893 : Int32), (895 : Int32), (8191 : Int32), (8204 : Int32), (8205 : Int32), (8304 : Int32), (8591 : Int32), (11264 : Int32), (12271 : Int32), (12289 : Int32), (55295 : Int32), (63744 : Int32), (64975 : Int32), (65008 : Int32), (65533 : Int32), (65536 : Int32), (0 : Int32), (0 : Int32), (0 : Int32), (0 : Int32)]) V110 gb56 (g := (mkF m 182 #[.val (.int p0), .val (.int p1), .val (.int p2), .unset, .unset, .unset, .unset] [(.int (65536 : Int32)), (.int (27 : Int32)), (.ref b56), (.ref b56)])) rfl rfl (hb hby at_182) (by decide) (Nat.le_of_ble_eq_true rfl) rfl
  have Z112 : n0 ≤ h112.size := by rw [W112.size]; exact Z110
  refine own_st (T' := T112) (F' := (mkF m 183 #[.val (.int p0), .val (.int p1), .val (.int p2), .unset, .unset, .unset, .unset] [(.ref b56)])) (st112) ?_
  refine own_st (T' := T112) (F' := (mkF m 184 #[.val (.int p0), .val (.int p1), .val (.int p2), .unset, .unset, .unset, .unset] [(.ref b56), (.ref b56)])) (fun _ kq => XS.dup X112.here hx rfl (hb hby at_183) rfl rfl kq) ?_
  refine own_st (T' := T112) (F' := (mkF m 186 #[.val (.int p0), .val (.int p1), .val (.int p2), .unset, .unset, .unset, .unset] [(.int (28 : Int32)), (.ref b56), (.ref b56)])) (fun _ kq => XS.bipush X112.here hx rfl (hb hby at_184) kq) ?_
  refine own_st (T' := T112) (F' := (mkF m 188 #[.val (.int p0), .val (.int p1), .val (.int p2), .unset, .unset, .unset, .unset] [(.int (983039 : Int32)), (.int (28 : Int32)), (.ref b56), (.ref b56)])) (fun _ kq => X112.ldcInt hx hown (mvT hZ (hw _ (List.mem_of_getElem? (i := 7) rfl))) (g := (mkF m 186 #[.val (.int p0), .val (.int p1), .val (.int p2), .unset, .unset, .unset, .unset] [(.int (28 : Int32)), (.ref b56), (.ref b56)])) rfl (hb hby at_186) _ kq) ?_
  obtain ⟨T114, h114, locs114, X114, e114, N114, W114, V114, st114⟩ := own_stI X112 hx hZ e112 N112 (ys := [(65 : Int32), (90 : Int32), (95 : Int32), (97 : Int32), (122 : Int32), (192 : Int32), (214 : Int32), (216 : Int32), (246 : Int32), (248 : Int32), (767 : Int32), (880 : Int32), (893 : Int32), (895 : Int32), (8191 : Int32), (8204 : Int32), (8205 : Int32), (8304 : Int32), (8591 : Int32), (11264 : Int32), (12271 : Int32), (12289 : Int32), (55295 : Int32), (63744 : Int32), (64975 : Int32), (65008 : Int32), (65533 : Int32), (65536 : Int32), (983039 : Int32), (0 : Int32), (0 : Int32), (0 : Int32)]) V112 gb56 (g := (mkF m 188 #[.val (.int p0), .val (.int p1), .val (.int p2), .unset, .unset, .unset, .unset] [(.int (983039 : Int32)), (.int (28 : Int32)), (.ref b56), (.ref b56)])) rfl rfl (hb hby at_188) (by decide) (Nat.le_of_ble_eq_true rfl) rfl
  have Z114 : n0 ≤ h114.size := by rw [W114.size]; exact Z112
  refine own_st (T' := T114) (F' := (mkF m 189 #[.val (.int p0), .val (.int p1), .val (.int p2), .unset, .unset, .unset, .unset] [(.ref b56)])) (st114) ?_
  refine own_st (T' := T114) (F' := (mkF m 190 #[.val (.int p0), .val (.int p1), .val (.int p2), .unset, .unset, .unset, .unset] [(.ref b56), (.ref b56)])) (fun _ kq => XS.dup X114.here hx rfl (hb hby at_189) rfl rfl kq) ?_
  refine own_st (T' := T114) (F' := (mkF m 192 #[.val (.int p0), .val (.int p1), .val (.int p2), .unset, .unset, .unset, .unset] [(.int (29 : Int32)), (.ref b56), (.ref b56)])) (fun _ kq => XS.bipush X114.here hx rfl (hb hby at_190) kq) ?_
  refine own_st (T' := T114) (F' := (mkF m 193 #[.val (.int p0), .val (.int p1), .val (.int p2), .unset, .unset, .unset, .unset] [(.int (0 : Int32)), (.int (29 : Int32)), (.ref b56), (.ref b56)])) (fun _ kq => XS.iconst X114.here hx rfl (hb hby at_192) kq) ?_
  obtain ⟨T116, h116, locs116, X116, e116, N116, W116, V116, st116⟩ := own_stI X114 hx hZ e114 N114 (ys := [(65 : Int32), (90 : Int32), (95 : Int32), (97 : Int32), (122 : Int32), (192 : Int32), (214 : Int32), (216 : Int32), (246 : Int32), (248 : Int32), (767 : Int32), (880 : Int32), (893 : Int32), (895 : Int32), (8191 : Int32), (8204 : Int32), (8205 : Int32), (8304 : Int32), (8591 : Int32), (11264 : Int32), (12271 : Int32), (12289 : Int32), (55295 : Int32), (63744 : Int32), (64975 : Int32), (65008 : Int32), (65533 : Int32), (65536 : Int32), (983039 : Int32), (0 : Int32), (0 : Int32), (0 : Int32)]) V114 gb56 (g := (mkF m 193 #[.val (.int p0), .val (.int p1), .val (.int p2), .unset, .unset, .unset, .unset] [(.int (0 : Int32)), (.int (29 : Int32)), (.ref b56), (.ref b56)])) rfl rfl (hb hby at_193) (by decide) (Nat.le_of_ble_eq_true rfl) rfl
  have Z116 : n0 ≤ h116.size := by rw [W116.size]; exact Z114
  refine own_st (T' := T116) (F' := (mkF m 194 #[.val (.int p0), .val (.int p1), .val (.int p2), .unset, .unset, .unset, .unset] [(.ref b56)])) (st116) ?_
  refine own_st (T' := T116) (F' := (mkF m 195 #[.val (.int p0), .val (.int p1), .val (.int p2), .unset, .unset, .unset, .unset] [(.ref b56), (.ref b56)])) (fun _ kq => XS.dup X116.here hx rfl (hb hby at_194) rfl rfl kq) ?_
  refine own_st (T' := T116) (F' := (mkF m 197 #[.val (.int p0), .val (.int p1), .val (.int p2), .unset, .unset, .unset, .unset] [(.int (30 : Int32)), (.ref b56), (.ref b56)])) (fun _ kq => XS.bipush X116.here hx rfl (hb hby at_195) kq) ?_
  refine own_st (T' := T116) (F' := (mkF m 199 #[.val (.int p0), .val (.int p1), .val (.int p2), .unset, .unset, .unset, .unset] [(.int (1114111 : Int32)), (.int (30 : Int32)), (.ref b56), (.ref b56)])) (fun _ kq => X116.ldcInt hx hown (mvT hZ (hw _ (List.mem_of_getElem? (i := 8) rfl))) (g := (mkF m 197 #[.val (.int p0), .val (.int p1), .val (.int p2), .unset, .unset, .unset, .unset] [(.int (30 : Int32)), (.ref b56), (.ref b56)])) rfl (hb hby at_197) _ kq) ?_
  obtain ⟨T118, h118, locs118, X118, e118, N118, W118, V118, st118⟩ := own_stI X116 hx hZ e116 N116 (ys := [(65 : Int32), (90 : Int32), (95 : Int32), (97 : Int32), (122 : Int32), (192 : Int32), (214 : Int32), (216 : Int32), (246 : Int32), (248 : Int32), (767 : Int32), (880 : Int32), (893 : Int32), (895 : Int32), (8191 : Int32), (8204 : Int32), (8205 : Int32), (8304 : Int32), (8591 : Int32), (11264 : Int32), (12271 : Int32), (12289 : Int32), (55295 : Int32), (63744 : Int32), (64975 : Int32), (65008 : Int32), (65533 : Int32), (65536 : Int32), (983039 : Int32), (0 : Int32), (1114111 : Int32), (0 : Int32)]) V116 gb56 (g := (mkF m 199 #[.val (.int p0), .val (.int p1), .val (.int p2), .unset, .unset, .unset, .unset] [(.int (1114111 : Int32)), (.int (30 : Int32)), (.ref b56), (.ref b56)])) rfl rfl (hb hby at_199) (by decide) (Nat.le_of_ble_eq_true rfl) rfl
  have Z118 : n0 ≤ h118.size := by rw [W118.size]; exact Z116
  refine own_st (T' := T118) (F' := (mkF m 200 #[.val (.int p0), .val (.int p1), .val (.int p2), .unset, .unset, .unset, .unset] [(.ref b56)])) (st118) ?_
  refine own_st (T' := T118) (F' := (mkF m 201 #[.val (.int p0), .val (.int p1), .val (.int p2), .unset, .unset, .unset, .unset] [(.ref b56), (.ref b56)])) (fun _ kq => XS.dup X118.here hx rfl (hb hby at_200) rfl rfl kq) ?_
  refine own_st (T' := T118) (F' := (mkF m 203 #[.val (.int p0), .val (.int p1), .val (.int p2), .unset, .unset, .unset, .unset] [(.int (31 : Int32)), (.ref b56), (.ref b56)])) (fun _ kq => XS.bipush X118.here hx rfl (hb hby at_201) kq) ?_
  refine own_st (T' := T118) (F' := (mkF m 205 #[.val (.int p0), .val (.int p1), .val (.int p2), .unset, .unset, .unset, .unset] [(.int (58 : Int32)), (.int (31 : Int32)), (.ref b56), (.ref b56)])) (fun _ kq => XS.bipush X118.here hx rfl (hb hby at_203) kq) ?_
  obtain ⟨T120, h120, locs120, X120, e120, N120, W120, V120, st120⟩ := own_stI X118 hx hZ e118 N118 (ys := [(65 : Int32), (90 : Int32), (95 : Int32), (97 : Int32), (122 : Int32), (192 : Int32), (214 : Int32), (216 : Int32), (246 : Int32), (248 : Int32), (767 : Int32), (880 : Int32), (893 : Int32), (895 : Int32), (8191 : Int32), (8204 : Int32), (8205 : Int32), (8304 : Int32), (8591 : Int32), (11264 : Int32), (12271 : Int32), (12289 : Int32), (55295 : Int32), (63744 : Int32), (64975 : Int32), (65008 : Int32), (65533 : Int32), (65536 : Int32), (983039 : Int32), (0 : Int32), (1114111 : Int32), (58 : Int32)]) V118 gb56 (g := (mkF m 205 #[.val (.int p0), .val (.int p1), .val (.int p2), .unset, .unset, .unset, .unset] [(.int (58 : Int32)), (.int (31 : Int32)), (.ref b56), (.ref b56)])) rfl rfl (hb hby at_205) (by decide) (Nat.le_of_ble_eq_true rfl) rfl
  have Z120 : n0 ≤ h120.size := by rw [W120.size]; exact Z118
  refine own_st (T' := T120) (F' := (mkF m 206 #[.val (.int p0), .val (.int p1), .val (.int p2), .unset, .unset, .unset, .unset] [(.ref b56)])) (st120) ?_
  refine own_st (T' := T120) (F' := (mkF m 207 #[.val (.int p0), .val (.int p1), .val (.int p2), .val (.ref b56), .unset, .unset, .unset] [])) (fun _ kq => XS.astoreN X120.here hx rfl (hb hby at_206) rfl rfl (l' := #[.val (.int p0), .val (.int p1), .val (.int p2), .val (.ref b56), .unset, .unset, .unset]) rfl kq) ?_
  refine own_st (T' := T120) (F' := (mkF m 208 #[.val (.int p0), .val (.int p1), .val (.int p2), .val (.ref b56), .unset, .unset, .unset] [(.ref b56)])) (fun _ kq => XS.aloadN X120.here hx rfl (hb hby at_207) rfl rfl kq) ?_
  refine own_st (T' := T120) (F' := (mkF m 209 #[.val (.int p0), .val (.int p1), .val (.int p2), .val (.ref b56), .unset, .unset, .unset] [(.int p1), (.ref b56)])) (fun _ kq => XS.iloadN X120.here hx rfl (hb hby at_208) rfl kq) ?_
  refine own_st (T' := T120) (F' := (mkF m 211 #[.val (.int p0), .val (.int p1), .val (.int p2), .val (.ref b56), .unset, .unset, .unset] [(.int (31 : Int32)), (.int p1), (.ref b56)])) (fun _ kq => XS.bipush X120.here hx rfl (hb hby at_209) kq) ?_
  refine own_st (T' := T120) (F' := (mkF m 212 #[.val (.int p0), .val (.int p1), .val (.int p2), .val (.ref b56), .unset, .unset, .unset] [(.int (p1 &&& (31 : Int32))), (.ref b56)])) (fun _ kq => XS.iand X120.here hx rfl (hb hby at_211) rfl kq) ?_
  refine own_st (T' := T120) (F' := (mkF m 213 #[.val (.int p0), .val (.int p1), .val (.int p2), .val (.ref b56), .unset, .unset, .unset] [(.int (List.getD [(65 : Int32), (90 : Int32), (95 : Int32), (97 : Int32), (122 : Int32), (192 : Int32), (214 : Int32), (216 : Int32), (246 : Int32), (248 : Int32), (767 : Int32), (880 : Int32), (893 : Int32), (895 : Int32), (8191 : Int32), (8204 : Int32), (8205 : Int32), (8304 : Int32), (8591 : Int32), (11264 : Int32), (12271 : Int32), (12289 : Int32), (55295 : Int32), (63744 : Int32), (64975 : Int32), (65008 : Int32), (65533 : Int32), (65536 : Int32), (983039 : Int32), (0 : Int32), (1114111 : Int32), (58 : Int32)] (p1 &&& (31 : Int32)).toNatClampNeg 0))])) (own_iaload X120 hx hZ e120 V120 (g := (mkF m 212 #[.val (.int p0), .val (.int p1), .val (.int p2), .val (.ref b56), .unset, .unset, .unset] [(.int (p1 &&& (31 : Int32))), (.ref b56)])) rfl rfl (hb hby at_212) (own_i31 p1).1 (own_i31 p1).2 (w := (List.getD [(65 : Int32), (90 : Int32), (95 : Int32), (97 : Int32), (122 : Int32), (192 : Int32), (214 : Int32), (216 : Int32), (246 : Int32), (248 : Int32), (767 : Int32), (880 : Int32), (893 : Int32), (895 : Int32), (8191 : Int32), (8204 : Int32), (8205 : Int32), (8304 : Int32), (8591 : Int32), (11264 : Int32), (12271 : Int32), (12289 : Int32), (55295 : Int32), (63744 : Int32), (64975 : Int32), (65008 : Int32), (65533 : Int32), (65536 : Int32), (983039 : Int32), (0 : Int32), (1114111 : Int32), (58 : Int32)] (p1 &&& (31 : Int32)).toNatClampNeg 0)) rfl) ?_
  refine own_st (T' := T120) (F' := (mkF m 214 #[.val (.int p0), .val (.int p1), .val (.int p2), .val (.ref b56), .unset, .unset, .unset] [(.int p2), (.int (List.getD [(65 : Int32), (90 : Int32), (95 : Int32), (97 : Int32), (122 : Int32), (192 : Int32), (214 : Int32), (216 : Int32), (246 : Int32), (248 : Int32), (767 : Int32), (880 : Int32), (893 : Int32), (895 : Int32), (8191 : Int32), (8204 : Int32), (8205 : Int32), (8304 : Int32), (8591 : Int32), (11264 : Int32), (12271 : Int32), (12289 : Int32), (55295 : Int32), (63744 : Int32), (64975 : Int32), (65008 : Int32), (65533 : Int32), (65536 : Int32), (983039 : Int32), (0 : Int32), (1114111 : Int32), (58 : Int32)] (p1 &&& (31 : Int32)).toNatClampNeg 0))])) (fun _ kq => XS.iloadN X120.here hx rfl (hb hby at_213) rfl kq) ?_
  refine own_st (T' := T120) (F' := (mkF m 216 #[.val (.int p0), .val (.int p1), .val (.int p2), .val (.ref b56), .unset, .unset, .unset] [(.int (2147483647 : Int32)), (.int p2), (.int (List.getD [(65 : Int32), (90 : Int32), (95 : Int32), (97 : Int32), (122 : Int32), (192 : Int32), (214 : Int32), (216 : Int32), (246 : Int32), (248 : Int32), (767 : Int32), (880 : Int32), (893 : Int32), (895 : Int32), (8191 : Int32), (8204 : Int32), (8205 : Int32), (8304 : Int32), (8591 : Int32), (11264 : Int32), (12271 : Int32), (12289 : Int32), (55295 : Int32), (63744 : Int32), (64975 : Int32), (65008 : Int32), (65533 : Int32), (65536 : Int32), (983039 : Int32), (0 : Int32), (1114111 : Int32), (58 : Int32)] (p1 &&& (31 : Int32)).toNatClampNeg 0))])) (fun _ kq => X120.ldcInt hx hown (mvT hZ (hw _ (List.mem_of_getElem? (i := 9) rfl))) (g := (mkF m 214 #[.val (.int p0), .val (.int p1), .val (.int p2), .val (.ref b56), .unset, .unset, .unset] [(.int p2), (.int (List.getD [(65 : Int32), (90 : Int32), (95 : Int32), (97 : Int32), (122 : Int32), (192 : Int32), (214 : Int32), (216 : Int32), (246 : Int32), (248 : Int32), (767 : Int32), (880 : Int32), (893 : Int32), (895 : Int32), (8191 : Int32), (8204 : Int32), (8205 : Int32), (8304 : Int32), (8591 : Int32), (11264 : Int32), (12271 : Int32), (12289 : Int32), (55295 : Int32), (63744 : Int32), (64975 : Int32), (65008 : Int32), (65533 : Int32), (65536 : Int32), (983039 : Int32), (0 : Int32), (1114111 : Int32), (58 : Int32)] (p1 &&& (31 : Int32)).toNatClampNeg 0))])) rfl (hb hby at_214) _ kq) ?_
  refine own_st (T' := T120) (F' := (mkF m 217 #[.val (.int p0), .val (.int p1), .val (.int p2), .val (.ref b56), .unset, .unset, .unset] [(.int (p2 &&& (2147483647 : Int32))), (.int (List.getD [(65 : Int32), (90 : Int32), (95 : Int32), (97 : Int32), (122 : Int32), (192 : Int32), (214 : Int32), (216 : Int32), (246 : Int32), (248 : Int32), (767 : Int32), (880 : Int32), (893 : Int32), (895 : Int32), (8191 : Int32), (8204 : Int32), (8205 : Int32), (8304 : Int32), (8591 : Int32), (11264 : Int32), (12271 : Int32), (12289 : Int32), (55295 : Int32), (63744 : Int32), (64975 : Int32), (65008 : Int32), (65533 : Int32), (65536 : Int32), (983039 : Int32), (0 : Int32), (1114111 : Int32), (58 : Int32)] (p1 &&& (31 : Int32)).toNatClampNeg 0))])) (fun _ kq => XS.iand X120.here hx rfl (hb hby at_216) rfl kq) ?_
  refine own_st (T' := T120) (F' := (mkF m 218 #[.val (.int p0), .val (.int p1), .val (.int p2), .val (.ref b56), .unset, .unset, .unset] [(.int (3 : Int32)), (.int (p2 &&& (2147483647 : Int32))), (.int (List.getD [(65 : Int32), (90 : Int32), (95 : Int32), (97 : Int32), (122 : Int32), (192 : Int32), (214 : Int32), (216 : Int32), (246 : Int32), (248 : Int32), (767 : Int32), (880 : Int32), (893 : Int32), (895 : Int32), (8191 : Int32), (8204 : Int32), (8205 : Int32), (8304 : Int32), (8591 : Int32), (11264 : Int32), (12271 : Int32), (12289 : Int32), (55295 : Int32), (63744 : Int32), (64975 : Int32), (65008 : Int32), (65533 : Int32), (65536 : Int32), (983039 : Int32), (0 : Int32), (1114111 : Int32), (58 : Int32)] (p1 &&& (31 : Int32)).toNatClampNeg 0))])) (fun _ kq => XS.iconst X120.here hx rfl (hb hby at_217) kq) ?_
  refine own_st (T' := T120) (F' := (mkF m 219 #[.val (.int p0), .val (.int p1), .val (.int p2), .val (.ref b56), .unset, .unset, .unset] [(.int ((p2 &&& (2147483647 : Int32)) % (3 : Int32))), (.int (List.getD [(65 : Int32), (90 : Int32), (95 : Int32), (97 : Int32), (122 : Int32), (192 : Int32), (214 : Int32), (216 : Int32), (246 : Int32), (248 : Int32), (767 : Int32), (880 : Int32), (893 : Int32), (895 : Int32), (8191 : Int32), (8204 : Int32), (8205 : Int32), (8304 : Int32), (8591 : Int32), (11264 : Int32), (12271 : Int32), (12289 : Int32), (55295 : Int32), (63744 : Int32), (64975 : Int32), (65008 : Int32), (65533 : Int32), (65536 : Int32), (983039 : Int32), (0 : Int32), (1114111 : Int32), (58 : Int32)] (p1 &&& (31 : Int32)).toNatClampNeg 0))])) (fun _ kq => iremM X120 hx rfl (hb hby at_218) rfl (by decide) kq) ?_
  refine own_st (T' := T120) (F' := (mkF m 220 #[.val (.int p0), .val (.int p1), .val (.int p2), .val (.ref b56), .unset, .unset, .unset] [(.int (1 : Int32)), (.int ((p2 &&& (2147483647 : Int32)) % (3 : Int32))), (.int (List.getD [(65 : Int32), (90 : Int32), (95 : Int32), (97 : Int32), (122 : Int32), (192 : Int32), (214 : Int32), (216 : Int32), (246 : Int32), (248 : Int32), (767 : Int32), (880 : Int32), (893 : Int32), (895 : Int32), (8191 : Int32), (8204 : Int32), (8205 : Int32), (8304 : Int32), (8591 : Int32), (11264 : Int32), (12271 : Int32), (12289 : Int32), (55295 : Int32), (63744 : Int32), (64975 : Int32), (65008 : Int32), (65533 : Int32), (65536 : Int32), (983039 : Int32), (0 : Int32), (1114111 : Int32), (58 : Int32)] (p1 &&& (31 : Int32)).toNatClampNeg 0))])) (fun _ kq => XS.iconst X120.here hx rfl (hb hby at_219) kq) ?_
  refine own_st (T' := T120) (F' := (mkF m 221 #[.val (.int p0), .val (.int p1), .val (.int p2), .val (.ref b56), .unset, .unset, .unset] [(.int (((p2 &&& (2147483647 : Int32)) % (3 : Int32)) - (1 : Int32))), (.int (List.getD [(65 : Int32), (90 : Int32), (95 : Int32), (97 : Int32), (122 : Int32), (192 : Int32), (214 : Int32), (216 : Int32), (246 : Int32), (248 : Int32), (767 : Int32), (880 : Int32), (893 : Int32), (895 : Int32), (8191 : Int32), (8204 : Int32), (8205 : Int32), (8304 : Int32), (8591 : Int32), (11264 : Int32), (12271 : Int32), (12289 : Int32), (55295 : Int32), (63744 : Int32), (64975 : Int32), (65008 : Int32), (65533 : Int32), (65536 : Int32), (983039 : Int32), (0 : Int32), (1114111 : Int32), (58 : Int32)] (p1 &&& (31 : Int32)).toNatClampNeg 0))])) (fun _ kq => XS.isub X120.here hx rfl (hb hby at_220) rfl kq) ?_
  refine own_st (T' := T120) (F' := (mkF m 222 #[.val (.int p0), .val (.int p1), .val (.int p2), .val (.ref b56), .unset, .unset, .unset] [(.int ((List.getD [(65 : Int32), (90 : Int32), (95 : Int32), (97 : Int32), (122 : Int32), (192 : Int32), (214 : Int32), (216 : Int32), (246 : Int32), (248 : Int32), (767 : Int32), (880 : Int32), (893 : Int32), (895 : Int32), (8191 : Int32), (8204 : Int32), (8205 : Int32), (8304 : Int32), (8591 : Int32), (11264 : Int32), (12271 : Int32), (12289 : Int32), (55295 : Int32), (63744 : Int32), (64975 : Int32), (65008 : Int32), (65533 : Int32), (65536 : Int32), (983039 : Int32), (0 : Int32), (1114111 : Int32), (58 : Int32)] (p1 &&& (31 : Int32)).toNatClampNeg 0) + (((p2 &&& (2147483647 : Int32)) % (3 : Int32)) - (1 : Int32))))])) (fun _ kq => XS.iadd X120.here hx rfl (hb hby at_221) rfl kq) ?_
  generalize hv122 : ((List.getD [(65 : Int32), (90 : Int32), (95 : Int32), (97 : Int32), (122 : Int32), (192 : Int32), (214 : Int32), (216 : Int32), (246 : Int32), (248 : Int32), (767 : Int32), (880 : Int32), (893 : Int32), (895 : Int32), (8191 : Int32), (8204 : Int32), (8205 : Int32), (8304 : Int32), (8591 : Int32), (11264 : Int32), (12271 : Int32), (12289 : Int32), (55295 : Int32), (63744 : Int32), (64975 : Int32), (65008 : Int32), (65533 : Int32), (65536 : Int32), (983039 : Int32), (0 : Int32), (1114111 : Int32), (58 : Int32)] (p1 &&& (31 : Int32)).toNatClampNeg 0) + (((p2 &&& (2147483647 : Int32)) % (3 : Int32)) - (1 : Int32))) = v122
  refine own_st (T' := T120) (F' := (mkF m 224 #[.val (.int p0), .val (.int p1), .val (.int p2), .val (.ref b56), .val (.int v122), .unset, .unset] [])) (fun _ kq => XS.istore X120.here hx rfl (hb hby at_222) rfl (l' := #[.val (.int p0), .val (.int p1), .val (.int p2), .val (.ref b56), .val (.int v122), .unset, .unset]) rfl kq) ?_
  refine own_st (T' := T120) (F' := (mkF m 225 #[.val (.int p0), .val (.int p1), .val (.int p2), .val (.ref b56), .val (.int v122), .unset, .unset] [(.int p0)])) (fun _ kq => XS.iloadN X120.here hx rfl (hb hby at_224) rfl kq) ?_
  obtain ⟨T123, locs123, X123, e123, N123, st123⟩ := own_callP X120 hx hZ 0 hown (hw _ (List.mem_of_getElem? (i := 10) rfl)) (hw _ (List.mem_of_getElem? (i := 11) rfl)) (hw _ (List.mem_of_getElem? (i := 12) rfl)) (hw _ (List.mem_of_getElem? (i := 13) rfl)) (by decide) (rm1 l Z a0 hw [] p0 h120 n0) (by decide) (by decide) rfl rfl e120 N120 (by decide) (by decide) (g := (mkF m 225 #[.val (.int p0), .val (.int p1), .val (.int p2), .val (.ref b56), .val (.int v122), .unset, .unset] [(.int p0)])) rfl (by rw [hml]; rfl) (argsL := [(.int p0)]) (rest := []) (lenOf pd0 rfl) rfl rfl (by show 2 * 0 + _ ≤ _; exact Nat.le_of_eq rfl) (hb hby at_225)
  refine own_st (T' := T123) (F' := (mkF m 228 #[.val (.int p0), .val (.int p1), .val (.int p2), .val (.ref b56), .val (.int v122), .unset, .unset] [(.int (f1 p0))])) (st123) ?_
  refine own_st (T' := T123) (F' := (mkF m 229 #[.val (.int p0), .val (.int p1), .val (.int p2), .val (.ref b56), .val (.int v122), .unset, .unset] [(.int p0), (.int (f1 p0))])) (fun _ kq => XS.iloadN X123.here hx rfl (hb hby at_228) rfl kq) ?_
  obtain ⟨T124, locs124, X124, e124, N124, st124⟩ := own_callP X123 hx hZ 1 hown (hw _ (List.mem_of_getElem? (i := 17) rfl)) (hw _ (List.mem_of_getElem? (i := 18) rfl)) (hw _ (List.mem_of_getElem? (i := 19) rfl)) (hw _ (List.mem_of_getElem? (i := 20) rfl)) (by decide) (rm2 l Z a0 hw [] p0 h120 n0) (by decide) (by decide) rfl rfl e123 N123 (by decide) (by decide) (g := (mkF m 229 #[.val (.int p0), .val (.int p1), .val (.int p2), .val (.ref b56), .val (.int v122), .unset, .unset] [(.int p0), (.int (f1 p0))])) rfl (by rw [hml]; rfl) (argsL := [(.int p0)]) (rest := [(.int (f1 p0))]) (lenOf pd0 rfl) rfl rfl (by show 2 * 0 + _ ≤ _; exact Nat.le_of_eq rfl) (hb hby at_229)
  refine own_st (T' := T124) (F' := (mkF m 232 #[.val (.int p0), .val (.int p1), .val (.int p2), .val (.ref b56), .val (.int v122), .unset, .unset] [(.int (f2 p0)), (.int (f1 p0))])) (st124) ?_
  refine own_st (T' := T124) (F' := (mkF m 235 #[.val (.int p0), .val (.int p1), .val (.int p2), .val (.ref b56), .val (.int v122), .unset, .unset] [])) (fun _ kq => XS.icmpNo X124.here hx rfl (hb hby at_232) rfl (teq (own_eq p0)).2 kq) ?_
  refine own_st (T' := T124) (F' := (mkF m 236 #[.val (.int p0), .val (.int p1), .val (.int p2), .val (.ref b56), .val (.int v122), .unset, .unset] [(.int (1 : Int32))])) (fun _ kq => XS.iconst X124.here hx rfl (hb hby at_235) kq) ?_
  refine own_st (T' := T124) (F' := (mkF m 240 #[.val (.int p0), .val (.int p1), .val (.int p2), .val (.ref b56), .val (.int v122), .unset, .unset] [(.int (1 : Int32))])) (fun _ kq => XS.goto X124.here hx rfl (pc0 := 236) (pc' := 240) rfl (hb hby at_236) (by decide) (by decide) kq) ?_
  refine own_st (T' := T124) (F' := (mkF m 242 #[.val (.int p0), .val (.int p1), .val (.int p2), .val (.ref b56), .val (.int v122), .val (.int (1 : Int32)), .unset] [])) (fun _ kq => XS.istore X124.here hx rfl (hb hby at_240) rfl (l' := #[.val (.int p0), .val (.int p1), .val (.int p2), .val (.ref b56), .val (.int v122), .val (.int (1 : Int32)), .unset]) rfl kq) ?_
  refine own_st (T' := T124) (F' := (mkF m 244 #[.val (.int p0), .val (.int p1), .val (.int p2), .val (.ref b56), .val (.int v122), .val (.int (1 : Int32)), .unset] [(.int v122)])) (fun _ kq => XS.iload X124.here hx rfl (hb hby at_242) rfl kq) ?_
  obtain ⟨T125, locs125, X125, e125, N125, st125⟩ := own_callP X124 hx hZ 0 hown (hw _ (List.mem_of_getElem? (i := 10) rfl)) (hw _ (List.mem_of_getElem? (i := 11) rfl)) (hw _ (List.mem_of_getElem? (i := 12) rfl)) (hw _ (List.mem_of_getElem? (i := 13) rfl)) (by decide) (rm1 l Z a0 hw [] v122 h120 n0) (by decide) (by decide) rfl rfl e124 N124 (by decide) (by decide) (g := (mkF m 244 #[.val (.int p0), .val (.int p1), .val (.int p2), .val (.ref b56), .val (.int v122), .val (.int (1 : Int32)), .unset] [(.int v122)])) rfl (by rw [hml]; rfl) (argsL := [(.int v122)]) (rest := []) (lenOf pd0 rfl) rfl rfl (by show 2 * 0 + _ ≤ _; exact Nat.le_of_eq rfl) (hb hby at_244)
  refine own_st (T' := T125) (F' := (mkF m 247 #[.val (.int p0), .val (.int p1), .val (.int p2), .val (.ref b56), .val (.int v122), .val (.int (1 : Int32)), .unset] [(.int (f1 v122))])) (st125) ?_
  refine own_st (T' := T125) (F' := (mkF m 249 #[.val (.int p0), .val (.int p1), .val (.int p2), .val (.ref b56), .val (.int v122), .val (.int (1 : Int32)), .unset] [(.int v122), (.int (f1 v122))])) (fun _ kq => XS.iload X125.here hx rfl (hb hby at_247) rfl kq) ?_
  obtain ⟨T126, locs126, X126, e126, N126, st126⟩ := own_callP X125 hx hZ 1 hown (hw _ (List.mem_of_getElem? (i := 17) rfl)) (hw _ (List.mem_of_getElem? (i := 18) rfl)) (hw _ (List.mem_of_getElem? (i := 19) rfl)) (hw _ (List.mem_of_getElem? (i := 20) rfl)) (by decide) (rm2 l Z a0 hw [] v122 h120 n0) (by decide) (by decide) rfl rfl e125 N125 (by decide) (by decide) (g := (mkF m 249 #[.val (.int p0), .val (.int p1), .val (.int p2), .val (.ref b56), .val (.int v122), .val (.int (1 : Int32)), .unset] [(.int v122), (.int (f1 v122))])) rfl (by rw [hml]; rfl) (argsL := [(.int v122)]) (rest := [(.int (f1 v122))]) (lenOf pd0 rfl) rfl rfl (by show 2 * 0 + _ ≤ _; exact Nat.le_of_eq rfl) (hb hby at_249)
  refine own_st (T' := T126) (F' := (mkF m 252 #[.val (.int p0), .val (.int p1), .val (.int p2), .val (.ref b56), .val (.int v122), .val (.int (1 : Int32)), .unset] [(.int (f2 v122)), (.int (f1 v122))])) (st126) ?_
  refine own_st (T' := T126) (F' := (mkF m 255 #[.val (.int p0), .val (.int p1), .val (.int p2), .val (.ref b56), .val (.int v122), .val (.int (1 : Int32)), .unset] [])) (fun _ kq => XS.icmpNo X126.here hx rfl (hb hby at_252) rfl (teq (own_eq v122)).2 kq) ?_
  refine own_st (T' := T126) (F' := (mkF m 256 #[.val (.int p0), .val (.int p1), .val (.int p2), .val (.ref b56), .val (.int v122), .val (.int (1 : Int32)), .unset] [(.int (1 : Int32))])) (fun _ kq => XS.iconst X126.here hx rfl (hb hby at_255) kq) ?_
  refine own_st (T' := T126) (F' := (mkF m 260 #[.val (.int p0), .val (.int p1), .val (.int p2), .val (.ref b56), .val (.int v122), .val (.int (1 : Int32)), .unset] [(.int (1 : Int32))])) (fun _ kq => XS.goto X126.here hx rfl (pc0 := 256) (pc' := 260) rfl (hb hby at_256) (by decide) (by decide) kq) ?_
  refine own_st (T' := T126) (F' := (mkF m 262 #[.val (.int p0), .val (.int p1), .val (.int p2), .val (.ref b56), .val (.int v122), .val (.int (1 : Int32)), .val (.int (1 : Int32))] [])) (fun _ kq => XS.istore X126.here hx rfl (hb hby at_260) rfl (l' := #[.val (.int p0), .val (.int p1), .val (.int p2), .val (.ref b56), .val (.int v122), .val (.int (1 : Int32)), .val (.int (1 : Int32))]) rfl kq) ?_
  refine own_st (T' := T126) (F' := (mkF m 264 #[.val (.int p0), .val (.int p1), .val (.int p2), .val (.ref b56), .val (.int v122), .val (.int (1 : Int32)), .val (.int (1 : Int32))] [(.int (1 : Int32))])) (fun _ kq => XS.iload X126.here hx rfl (hb hby at_262) rfl kq) ?_
  refine own_st (T' := T126) (F' := (mkF m 267 #[.val (.int p0), .val (.int p1), .val (.int p2), .val (.ref b56), .val (.int v122), .val (.int (1 : Int32)), .val (.int (1 : Int32))] [])) (fun _ kq => XS.ifNo X126.here hx rfl (hb hby at_264) rfl ((if0 _ _).trans (feq (by decide : ¬ ((1 : Int32) = (0 : Int32)))).1) kq) ?_
  refine own_st (T' := T126) (F' := (mkF m 269 #[.val (.int p0), .val (.int p1), .val (.int p2), .val (.ref b56), .val (.int v122), .val (.int (1 : Int32)), .val (.int (1 : Int32))] [(.int (1 : Int32))])) (fun _ kq => XS.iload X126.here hx rfl (hb hby at_267) rfl kq) ?_
  refine own_st (T' := T126) (F' := (mkF m 272 #[.val (.int p0), .val (.int p1), .val (.int p2), .val (.ref b56), .val (.int v122), .val (.int (1 : Int32)), .val (.int (1 : Int32))] [])) (fun _ kq => XS.ifNo X126.here hx rfl (hb hby at_269) rfl ((if0 _ _).trans (feq (by decide : ¬ ((1 : Int32) = (0 : Int32)))).1) kq) ?_
  refine own_st (T' := T126) (F' := (mkF m 273 #[.val (.int p0), .val (.int p1), .val (.int p2), .val (.ref b56), .val (.int v122), .val (.int (1 : Int32)), .val (.int (1 : Int32))] [(.int (1 : Int32))])) (fun _ kq => XS.iconst X126.here hx rfl (hb hby at_272) kq) ?_
  refine own_st (T' := T126) (F' := (mkF m 277 #[.val (.int p0), .val (.int p1), .val (.int p2), .val (.ref b56), .val (.int v122), .val (.int (1 : Int32)), .val (.int (1 : Int32))] [(.int (1 : Int32))])) (fun _ kq => XS.goto X126.here hx rfl (pc0 := 273) (pc' := 277) rfl (hb hby at_273) (by decide) (by decide) kq) ?_
  exact own_retN X126 hx hlk hret (by simp) (hb hby at_277) (by decide) (by decide) ⟨rfl, N126⟩
set_option maxRecDepth 65536 in
theorem comes_1 {Post : Tables → Env → Array Value → State → Outcome → State → Prop} (hpost : ∀ tb e args s v u, (limb_1_1.after args s (.returned v) u = true ∧ limb_1_2.after args s (.returned v) u = true ∧ True) → FrameEnd s (.returned v) u (Jvm.fieldLocs frame_1_writes args s ++ Jvm.arrayLocs frame_1_arrays args s ++ Jvm.staticLocs frame_1_statics s) 16 128 → Post tb e args s (.returned v) u) :
    ArmFor flags0 classFile x code maxLocals ret World_1 tables_1 room_1 Calls_1 rest_1 Pre_1 Post := by
  intro l hfl _ _ p e ha hc hk s m args below hf hA hF happ hP
  obtain ⟨hcalls, hrest, hpre⟩ := hP
  obtain ⟨-, -, -, hnamed, -, -, -, hat⟩ := (Spec.applies_iff hf).mp happ
  obtain ⟨hg, hn⟩ := and_e (Cond.before_iff.mp (show (Jvm.Cond.and given_1 narrow_1).before args s = true from hpre))
  obtain ⟨g0, r0⟩ := and_e hg
  obtain ⟨g1, r1⟩ := and_e r0
  obtain ⟨g2, r2⟩ := and_e r1
  obtain ⟨w0, w1, w2, rfl⟩ : ∃ w0 w1 w2 : Value, args = #[w0, w1, w2] := by
    have hs : args.size = 3 := by simpa [Cond.value, given_1] using g0
    obtain ⟨L⟩ := args
    match L, hs with
    | [w0, w1, w2], _ => exact ⟨w0, w1, w2, rfl⟩
  have hw := fun d (hd : d ∈ tables_1) => atoms_spec (ws := Jvm.Cond.code x code maxLocals ret :: tables_1) hat d (List.mem_cons_of_mem _ hd)
  obtain ⟨i0, ei0⟩ := is_v g1
  obtain rfl : w0 = (.int i0) := Option.some.inj ei0
  obtain ⟨i1, ei1⟩ := is_v g2
  obtain rfl : w1 = (.int i1) := Option.some.inj ei1
  obtain ⟨i2, ei2⟩ := is_v r2
  obtain rfl : w2 = (.int i2) := Option.some.inj ei2
  obtain ⟨n, o, h1, h2, h3, _, L, rfl, ⟨rfl, N⟩, hq⟩ := rm0 l s _ hw tables_1 i0 i1 i2 s.heap s.heap.size (Nat.le_refl _) p e ha hc hk s m _ below hf ((Spec.applies_iff_loose hf).mp happ).1 ⟨rfl, State.Warmed39.refl s, rfl⟩ trivial
  refine ⟨n, _, h1, h2, h3, hpost _ _ _ _ _ _ ⟨Cond.after_iff.mpr rfl, Cond.after_iff.mpr (eq_i res_at (Term.int_eval (1)) rfl), trivial⟩ ⟨hq.1, hq.2.1, (hq.2.2.sift fun y hy => Or.inr (N y hy)).mono (by decide) (by decide)⟩⟩
theorem main_1_1 : Claimed_1_1 := comes_1 fun _ _ _ _ _ _ h hF => ⟨h.1, hF⟩
theorem main_1_2 : Claimed_1_2 := comes_1 fun _ _ _ _ _ _ h hF => ⟨h.2.1, hF⟩
end Jvm.Pilot.@@N@@
namespace Jvm.Pilot.@@N@@
open Jvm Jvm.ClassFile Sem Op Lib Jvm.Free Jvm.Stand Jvm.Pilot.@@N@@.Jvm.D
/-! MADE BY PROGRAM (witnessworld.py) out of the Statement's table words and the real class files: 9 classes; the members and pool entries that the words name. The judged class is class 1, her method 2. -/
namespace start1
open Jvm.ClassFile
def u (s : String) : CpInfo := .utf8 (stringToUtf16 s)
/-- a pool by its gaps: so many unusable entries, then the entry; so many at the end -/
def gap : Nat → List CpInfo → List CpInfo
  | 0, r => r
  | n + 1, r => .unusable :: gap n r
def poolList (es : List (Nat × CpInfo)) (last : Nat) : List CpInfo := es.foldr (fun e r => gap e.1 (e.2 :: r)) (gap last [])
def pool (es : List (Nat × CpInfo)) (last : Nat) : Array CpInfo := ⟨poolList es last⟩
def fileOf (pool : Array CpInfo) (this : Nat) (attrs : Array Attribute := #[]) (ms : Array MethodInfo := #[]) (fl : Nat := 33) (sup : Nat := 0) (ifs : Array Nat := #[]) (fds : Array FieldInfo := #[]) : ClassFile where
  minorVersion := 0
  majorVersion := 65
  constantPool := pool
  accessFlags := fl
  thisClass := this
  superClass := sup
  interfaces := ifs
  fields := fds
  methods := ms
  attributes := attrs
def plain (name : String) (sup : Option ClassId) : Class where
  name := name
  kind := .ordinary
  loader := none
  accessFlags := 33
  super := sup
  interfaces := #[]
  cf := none
  fields := #[]
  methods := #[]
  instanceTypes := #[]
  staticTypes := #[]
  resolved := #[]
  callSites := []
  init := .initialized
  statics := none
  mirror := none

def pool0 : Array CpInfo := pool [(5, u "<init>"), (0, u "()V"), (1, .class_ 10), (1, u "java/lang/Object")] 113

def k0m0 : Method := { name := "<init>", desc := "()V", sig := { parameters := [], returnType := none }, accessFlags := 1, code := none }
/-- java/lang/Object -/
def k0 : Class := { plain "java/lang/Object" none with
  accessFlags := 33
  interfaces := #[]
  cf := some (fileOf pool0 8 #[] #[{ accessFlags := 1, nameIndex := 5, descriptorIndex := 6, attributes := #[] }] 33 0 #[] #[])
  fields := #[]
  methods := #[k0m0]
  instanceTypes := #[]
  staticTypes := #[]
  resolved := Array.replicate 124 none
  statics := none }

def pool1 : Array CpInfo := pool [(2, .class_ 4), (1, u "java/lang/Object"), (0, u "<init>"), (0, u "()V"), (0, .integer 983039), (0, .integer 55296), (0, .integer 63743), (0, .integer 64976), (0, .integer 65007), (0, .integer 65534), (0, .integer 65535), (0, .integer 55295), (0, .integer 63744), (0, .integer 64975), (0, .integer 65008), (0, .integer 65533), (0, .integer 65536), (0, .integer 1114111), (0, .integer 2147483647), (0, .methodref 23 24), (0, .class_ 25), (0, .nameAndType 26 27), (0, u "com/example/node_sieve/nodesieve/xml/XmlChars"), (0, u "isNameStart"), (0, u "(I)Z"), (0, .methodref 29 30), (0, .class_ 31), (0, .nameAndType 32 27), (0, u "com/example/node_sieve/nodesieve/xml/XmlCharsIsNameStartPinLaw"), (0, u "ref"), (3, u "law"), (0, u "(III)Z")] 4

def k1m0 : Method := { name := "<init>", desc := "()V", sig := { parameters := [], returnType := none }, accessFlags := 2, code := none }
def k1c1 : Code := { maxStack := 2, maxLocals := 1, code := method_2_code, exceptionTable := #[], attributes := #[] }
def k1m1 : Method := { name := "ref", desc := "(I)Z", sig := { parameters := [.int], returnType := some .boolean }, accessFlags := 10, code := some k1c1 }
def k1c2 : Code := { maxStack := 4, maxLocals := 7, code := code, exceptionTable := #[], attributes := #[] }
def k1m2 : Method := { name := "law", desc := "(III)Z", sig := { parameters := [.int, .int, .int], returnType := some .boolean }, accessFlags := 9, code := some k1c2 }
/-- com/example/node_sieve/nodesieve/xml/XmlCharsIsNameStartPinLaw -/
def k1 : Class := { plain "com/example/node_sieve/nodesieve/xml/XmlCharsIsNameStartPinLaw" (some 0) with
  accessFlags := 49
  interfaces := #[]
  cf := some (fileOf pool1 29 #[] #[{ accessFlags := 2, nameIndex := 5, descriptorIndex := 6, attributes := #[] }, { accessFlags := 10, nameIndex := 32, descriptorIndex := 27, attributes := #[] }, { accessFlags := 9, nameIndex := 36, descriptorIndex := 37, attributes := #[] }] 49 2 #[] #[])
  fields := #[]
  methods := #[k1m0, k1m1, k1m2]
  instanceTypes := #[]
  staticTypes := #[]
  resolved := Array.replicate 42 none
  statics := none }

def pool2 : Array CpInfo := pool [(2, .class_ 4), (1, u "java/lang/Object"), (0, u "<init>"), (0, u "()V"), (0, .integer 55295), (1, .integer 65533), (0, .integer 65536), (1, .integer 63744), (0, .integer 64975), (0, .integer 65008), (0, .integer 983039), (11, .class_ 29), (1, u "com/example/node_sieve/nodesieve/xml/XmlChars"), (7, u "isNameStart"), (0, u "(I)Z")] 17

def k2m0 : Method := { name := "<init>", desc := "()V", sig := { parameters := [], returnType := none }, accessFlags := 2, code := none }
def k2c1 : Code := { maxStack := 2, maxLocals := 1, code := prog_121_method_4_code, exceptionTable := #[], attributes := #[] }
def k2m1 : Method := { name := "isNameStart", desc := "(I)Z", sig := { parameters := [.int], returnType := some .boolean }, accessFlags := 9, code := some k2c1 }
/-- com/example/node_sieve/nodesieve/xml/XmlChars -/
def k2 : Class := { plain "com/example/node_sieve/nodesieve/xml/XmlChars" (some 0) with
  accessFlags := 49
  interfaces := #[]
  cf := some (fileOf pool2 27 #[] #[{ accessFlags := 2, nameIndex := 5, descriptorIndex := 6, attributes := #[] }, { accessFlags := 9, nameIndex := 37, descriptorIndex := 38, attributes := #[] }] 49 2 #[] #[])
  fields := #[]
  methods := #[k2m0, k2m1]
  instanceTypes := #[]
  staticTypes := #[]
  resolved := Array.replicate 56 none
  statics := none }

def pool3 : Array CpInfo := pool [(1, u "java/lang/Cloneable"), (0, .class_ 1), (0, u "java/lang/Object"), (0, .class_ 3)] 3

/-- java/lang/Cloneable -/
def k3 : Class := { plain "java/lang/Cloneable" (some 0) with
  accessFlags := 1537
  interfaces := #[]
  cf := some (fileOf pool3 2 #[] #[] 1537 4 #[] #[])
  fields := #[]
  methods := #[]
  instanceTypes := #[]
  staticTypes := #[]
  resolved := Array.replicate 8 none
  statics := none }

def pool4 : Array CpInfo := pool [(1, u "java/io/Serializable"), (0, .class_ 1), (0, u "java/lang/Object"), (0, .class_ 3)] 3

/-- java/io/Serializable -/
def k4 : Class := { plain "java/io/Serializable" (some 0) with
  accessFlags := 1537
  interfaces := #[]
  cf := some (fileOf pool4 2 #[] #[] 1537 4 #[] #[])
  fields := #[]
  methods := #[]
  instanceTypes := #[]
  staticTypes := #[]
  resolved := Array.replicate 8 none
  statics := none }

/-- the primitive byte -/
def k5 : Class := { plain "byte" none with kind := .primitive 'B', accessFlags := 0x411 }
/-- [B -/
def k6 : Class := { plain "[B" (some 0) with kind := .array 5 .byte, interfaces := #[3, 4], accessFlags := 1041 }

/-- the primitive int -/
def k7 : Class := { plain "int" none with kind := .primitive 'I', accessFlags := 0x411 }
/-- [I -/
def k8 : Class := { plain "[I" (some 0) with kind := .array 7 .int, interfaces := #[3, 4], accessFlags := 1041 }

def heap : Heap := #[]
def classes : Array Class := #[k0, k1, k2, k3, k4, k5, k6, k7, k8]
def interned : List (Array UInt16 × Addr) := []
def slotsUsed : Nat := 0
def theMethod : MethodId := ⟨1, 2⟩
def args0 : Array Value := #[.int 5, .int 5, .int 5]
def aboutOver (below : List Frame) : State where
  vm := { classes := classes, interned := interned.toArray }
  heap := heap
  slotsUsed := slotsUsed
  threads := #[{ frames := .invoking theMethod args0 :: below }]
def below0 : List Frame := [.native { method := ⟨0, 0⟩, args := #[] }]
def about1 : State := aboutOver below0
def p0 : Program := .bare "" "" ""
def e0 : Env := launch0.env 0 0 0
theorem w_frames : about1.frames = Frame.invoking theMethod args0 :: below0 := rfl
set_option maxRecDepth 65536 in
theorem w_args : argsFit about1.vm theMethod args0 = true := by decide +kernel
set_option maxRecDepth 65536 in
theorem w_heap : heapFits about1 = true := by decide +kernel
set_option maxRecDepth 65536 in
theorem w_runnable : about1.curStatus? = some .runnable := by decide +kernel
set_option maxRecDepth 65536 in
theorem w_alone : about1.alone = true := by decide +kernel
set_option maxRecDepth 65536 in
theorem w_named : about1.methodNamed? x = some theMethod := by decide +kernel
set_option maxRecDepth 65536 in
theorem w_hears : about1.hears theMethod below0 = true := by decide +kernel
set_option maxRecDepth 65536 in
theorem w_ripe : about1.ripe theMethod args0 below0 = true := by decide +kernel
theorem w_running : about1.status = .running := rfl
set_option maxRecDepth 65536 in
theorem w_room : about1.hasRoom e0.platform room_1 = true :=
  launch0.hasRoom_least _ room_1 (by decide +kernel) (by decide +kernel) (by decide +kernel) (by decide +kernel) (by decide +kernel) (by decide +kernel)
theorem allAtoms_all (ts : List Jvm.Cond) (a : Array Jvm.Value) (st : Jvm.State) : (allAtoms ts).before a st = ts.all (fun c => c.before a st) := by
  induction ts with
  | nil => rfl
  | cons c t ih =>
    show (Jvm.Cond.and c (allAtoms t)).before a st = _
    rw [Jvm.Cond.before_and, ih, List.all_cons]
def words1 : List Jvm.Cond := Jvm.Cond.code x code maxLocals ret :: tables_1
/-- a 'code' word, met by the world's own term for the bytes: nothing is compared byte by byte -/
theorem code_word {y : MethodName} {bytes : ByteArray} {mx : Nat} {rt : Option FieldType} {a : Array Value} {s : State} {m : MethodId} {meth : Method} {c : Code} (h1 : s.methodNamed? y = some m) (h2 : s.vm.method? m = some meth) (h3 : meth.code = some c) (h4 : c.code = bytes)
    (h5 : (c.maxLocals == mx && c.exceptionTable.isEmpty && decide (c.maxStack ≤ mostOperands) && decide (meth.sig.returnType = rt) && !meth.locks && decide (parseMethodDescriptor y.desc = some meth.sig)) = true) : (Jvm.Cond.code y bytes mx rt).before a s = true := by
  simp only [Bool.and_eq_true, beq_iff_eq, Bool.not_eq_true', decide_eq_true_eq] at h5
  obtain ⟨⟨⟨⟨⟨g1, g2⟩, g3⟩, g4⟩, g5⟩, g6⟩ := h5
  simp [Cond.before, Cond.holds, Cond.value, h1, h2, h3, h4, g1, g2, g3, g4, g5, g6]
def isCode : Jvm.Cond → Bool
  | .code _ _ _ _ => true
  | _ => false
theorem all_split {L : List Jvm.Cond} {P : Jvm.Cond → Bool} (h1 : L.all (fun c => isCode c || P c) = true) (h2 : ∀ c ∈ L.filter isCode, P c = true) : L.all P = true := by
  refine List.all_eq_true.mpr fun c hc => ?_
  have h := List.all_eq_true.mp h1 c hc
  rcases Bool.eq_false_or_eq_true (isCode c) with hi | hi
  · exact h2 c (List.mem_filter.mpr ⟨hc, hi⟩)
  · simpa [hi] using h
set_option maxRecDepth 65536 in
theorem w_c0 : (Jvm.Cond.code x code maxLocals ret).before args0 about1 = true := code_word (m := ⟨1, 2⟩) (meth := k1m2) (c := k1c2) (by decide +kernel) rfl rfl rfl (by decide +kernel)
set_option maxRecDepth 65536 in
theorem w_c1 : (Jvm.Cond.code ({ cls := "com/example/node_sieve/nodesieve/xml/XmlChars", name := "isNameStart", desc := "(I)Z" } : Jvm.MethodName) prog_121_method_4_code (1 : Nat) (Option.some Jvm.ClassFile.FieldType.boolean)).before args0 about1 = true := code_word (m := ⟨2, 1⟩) (meth := k2m1) (c := k2c1) (by decide +kernel) rfl rfl rfl (by decide +kernel)
set_option maxRecDepth 65536 in
theorem w_c2 : (Jvm.Cond.code ({ cls := "com/example/node_sieve/nodesieve/xml/XmlCharsIsNameStartPinLaw", name := "ref", desc := "(I)Z" } : Jvm.MethodName) method_2_code (1 : Nat) (Option.some Jvm.ClassFile.FieldType.boolean)).before args0 about1 = true := code_word (m := ⟨1, 1⟩) (meth := k1m1) (c := k1c1) (by decide +kernel) rfl rfl rfl (by decide +kernel)
def codes1 : List Jvm.Cond := [Jvm.Cond.code x code maxLocals ret, Jvm.Cond.code ({ cls := "com/example/node_sieve/nodesieve/xml/XmlChars", name := "isNameStart", desc := "(I)Z" } : Jvm.MethodName) prog_121_method_4_code (1 : Nat) (Option.some Jvm.ClassFile.FieldType.boolean), Jvm.Cond.code ({ cls := "com/example/node_sieve/nodesieve/xml/XmlCharsIsNameStartPinLaw", name := "ref", desc := "(I)Z" } : Jvm.MethodName) method_2_code (1 : Nat) (Option.some Jvm.ClassFile.FieldType.boolean)]
set_option maxRecDepth 65536 in
theorem codes_eq : words1.filter isCode = codes1 := rfl
theorem w_codes : ∀ c ∈ words1.filter isCode, c.before args0 about1 = true := by
  rw [codes_eq]
  intro c hc
  simp only [codes1, List.mem_cons, List.not_mem_nil, or_false] at hc
  rcases hc with rfl | rfl | rfl
  · exact w_c0
  · exact w_c1
  · exact w_c2
set_option maxRecDepth 65536 in
theorem w_t1 : (words1.take 24).all (fun c => isCode c || c.before args0 about1) = true := by decide +kernel
set_option maxRecDepth 65536 in
theorem w_t2 : (words1.drop 24).all (fun c => isCode c || c.before args0 about1) = true := by decide +kernel
theorem w_tables : (allAtoms (Jvm.Cond.code x code maxLocals ret :: tables_1)).before args0 about1 = true := by
  rw [allAtoms_all]
  show words1.all (fun c => c.before args0 about1) = true
  refine all_split ?_ w_codes
  rw [← List.take_append_drop 24 words1, List.all_append, w_t1, w_t2]
  rfl
set_option maxRecDepth 65536 in
theorem w_case : (Jvm.Cond.and given_1 narrow_1).before args0 about1 = true := by decide +kernel
theorem w_applies : (headSpec (Jvm.Cond.code x code maxLocals ret :: tables_1) room_1).applies x e0.platform about1 = true :=
  (Spec.applies_iff w_frames).mpr ⟨w_running, w_runnable, w_alone, w_named, w_hears, w_ripe, w_room, w_tables⟩
theorem atStart : AtStart classFile x code maxLocals ret World_1 tables_1 room_1 Calls_1 rest_1 Pre_1 launch0 p0 e0 about1 theMethod args0 below0 :=
  ⟨lists_1, trivial, launch0.admits_env _ _ _, launch0.least_env, fairChoices_fair.cas, fairChoices_fair.clock, w_frames, w_args, w_heap, w_applies, trivial, trivial, w_case⟩
end start1
theorem witness_1 : WitnessClaimed_1 := ⟨start1.p0, start1.e0, start1.about1, start1.theMethod, start1.args0, start1.below0, start1.atStart⟩
end Jvm.Pilot.@@N@@
