import JvmDerived
import JvmDerived.Pilot.@@N@@Statement
import JvmDerived.Pilot.@@N@@Code
set_option linter.unusedVariables false
set_option linter.unusedSimpArgs false
namespace Jvm.RoadKit
open Sem ClassFile Op Lib Jvm.Stand Jvm.Free Jvm.LawKit
section New
variable {p : Program} {l : Launch} {e : Env} {R : Room} {s : State} {m : MethodId} {args : Array Value} {below : List Frame} {meth : Method} {c : Code} {T : State} {locs : List Loc} {cells slots : Nat}
theorem retI (X : Stand p l e R s m args below meth c T locs cells slots) (hx : p.tables.exec = Jvm.exec) {pc : Nat} {Ls : Array Slot} {z : Int32} {rest : List Value} (hret : meth.sig.returnType = some .int) (hd : decode c.code pc = .ok (.ireturn, 1)) {fs : List Frame}
    (hl : ∀ (f : JFrame) (acts : List Action), f.method = m → f.locked = none → f.entered = [] → (doReturn e (T.setTop f) acts (some (.int z))).1 = T.setFrames fs) : Steps p.tables e below (T.setTop (mkF m pc Ls (.int z :: rest))) (T.setFrames fs) := by
  have hm' : T.vm.method? m = some meth := X.method'
  have hn : narrow .int (.int z) = .int z := rfl
  show Steps p.tables e below (T.setTop { method := m, pc := pc, locals := Ls, stack := _ :: rest, locked := none }) _
  jvm_step X.here [X.here.top, hx, hd, hm', hret, hn]
  first | (intro acts; rw [hl _ acts rfl rfl rfl]) | rw [hl _ _ rfl rfl rfl]
  exact Steps.refl _
end New
end Jvm.RoadKit
namespace Jvm.Pilot.@@N@@
open Jvm Jvm.ClassFile Sem Op Lib Jvm.Free Jvm.Stand Jvm.LawKit Jvm.RoadKit Bundle Jvm.Pilot.@@N@@.Jvm.D
section OwnKit
variable {p : Program} {l : Launch} {e : Env} {R : Room} {s : State} {m : MethodId} {args : Array Value} {below : List Frame} {meth : Method} {c : Code} {T T' : State} {locs : List Loc} {cells slots : Nat} {Z : State} {a0 : Array Value} {h h' : Heap} {n0 : Nat} {a : Addr}
/-- from this frame the walk ends by a return, and leaves what Q says -/
def own_Ends (p : Program) (e : Env) (below : List Frame) (s : State) (k n : Nat) (Q : Option Value → Heap → List Loc → Prop) (T : State) (F : JFrame) : Prop :=
  ∃ s₂ o, Steps p.tables e below (T.setTop F) s₂ ∧ s₂.status = .running ∧ Ended s₂ below o ∧ ∃ v L, o = .returned v ∧ Q v s₂.heap L ∧ FrameEnd s o s₂ L k n
theorem own_st {F F' : JFrame} {k n : Nat} {Q : Option Value → Heap → List Loc → Prop} (q : ∀ t, Steps p.tables e below (T'.setTop F') t → Steps p.tables e below (T.setTop F) t) (r : own_Ends p e below s k n Q T' F') : own_Ends p e below s k n Q T F := by
  obtain ⟨s₂, o, h1, h2⟩ := r
  exact ⟨s₂, o, q _ h1, h2⟩
theorem own_retN (X : Stand p l e R s m args below meth c T locs cells slots) (hx : p.tables.exec = Jvm.exec) (hlk : meth.locks = false) {t : FieldType} (hret : meth.sig.returnType = some t) (ht : t = .boolean ∨ t = .byte ∨ t = .char ∨ t = .short) {pc : Nat} {Ls : Array Slot} {z : Int32} {rest : List Value}
    (hd : decode c.code pc = .ok (.ireturn, 1)) {k n : Nat} {Q : Option Value → Heap → List Loc → Prop} (hk : cells ≤ k) (hn : slots ≤ n) (q : Q (some (.int (nar t z))) T.heap locs) : own_Ends p e below s k n Q T (mkF m pc Ls (.int z :: rest)) := by
  obtain ⟨fs, hr, hrun, hended, hW, hsame⟩ := X.leave (v := some (.int (nar t z))) (fun h => by rw [hret] at h; cases h) hlk
  exact ⟨_, _, retN X hx hret ht hd hr, hrun, hended, _, _, rfl, q, ⟨_, rfl⟩, hW, hsame.mono hk hn⟩
theorem own_retI (X : Stand p l e R s m args below meth c T locs cells slots) (hx : p.tables.exec = Jvm.exec) (hlk : meth.locks = false) (hret : meth.sig.returnType = some .int) {pc : Nat} {Ls : Array Slot} {z : Int32} {rest : List Value}
    (hd : decode c.code pc = .ok (.ireturn, 1)) {k n : Nat} {Q : Option Value → Heap → List Loc → Prop} (hk : cells ≤ k) (hn : slots ≤ n) (q : Q (some (.int z)) T.heap locs) : own_Ends p e below s k n Q T (mkF m pc Ls (.int z :: rest)) := by
  obtain ⟨fs, hr, hrun, hended, hW, hsame⟩ := X.leave (v := some (.int z)) (fun h => by rw [hret] at h; cases h) hlk
  exact ⟨_, _, retI X hx hret hd hr, hrun, hended, _, _, rfl, q, ⟨_, rfl⟩, hW, hsame.mono hk hn⟩
theorem own_retL (X : Stand p l e R s m args below meth c T locs cells slots) (hx : p.tables.exec = Jvm.exec) (hlk : meth.locks = false) (hret : meth.sig.returnType = some .long) {pc : Nat} {Ls : Array Slot} {z : Int64}
    (hd : decode c.code pc = .ok (.lreturn, 1)) {k n : Nat} {Q : Option Value → Heap → List Loc → Prop} (hk : cells ≤ k) (hn : slots ≤ n) (q : Q (some (.long z)) T.heap locs) : own_Ends p e below s k n Q T (mkF m pc Ls [.long z]) := by
  obtain ⟨fs, hr, hrun, hended, hW, hsame⟩ := X.leave (v := some (.long z)) (fun h => by rw [hret] at h; cases h) hlk
  exact ⟨_, _, X.lreturnOut hx hret hd hr, hrun, hended, _, _, rfl, q, ⟨_, rfl⟩, hW, hsame.mono hk hn⟩
theorem own_retV (X : Stand p l e R s m args below meth c T locs cells slots) (hx : p.tables.exec = Jvm.exec) (hlk : meth.locks = false) (hret : meth.sig.returnType = none) {pc : Nat} {Ls : Array Slot}
    (hd : decode c.code pc = .ok (.return_, 1)) {k n : Nat} {Q : Option Value → Heap → List Loc → Prop} (hk : cells ≤ k) (hn : slots ≤ n) (q : Q none T.heap locs) : own_Ends p e below s k n Q T (mkF m pc Ls []) := by
  obtain ⟨fs, hr, hrun, hended, hW, hsame⟩ := X.leave (v := none) (fun _ => rfl) hlk
  exact ⟨_, _, X.returnOut hx hret hd hr, hrun, hended, _, _, rfl, q, ⟨_, rfl⟩, hW, hsame.mono hk hn⟩
/-- a body's contract: called with these values in heap h it returns, and Q holds of what it returns, of the heap and of the places written -/
abbrev own_Met (l : Launch) (Z : State) (y : MethodName) (bytes : ByteArray) (maxL : Nat) (ret : Option FieldType) (ws : List Jvm.Cond) (rm : Room) (as' : Array Value) (h : Heap) (Q : Option Value → Heap → List Loc → Prop) : Prop :=
  MetFree l y (head1 (Jvm.Cond.code y bytes maxL ret :: ws) rm) (fun a U => a = as' ∧ Z.Warmed39 U.vm ∧ U.heap = h) (fun _ _ _ _ _ => True) (fun _ U o U' => ∃ v L, o = .returned v ∧ Q v U'.heap L ∧ FrameEnd U o U' L rm.cells rm.slots)
theorem own_body {y : MethodName} {bytes : ByteArray} {maxL : Nat} {ret : Option FieldType} {ws : List Jvm.Cond} {rm : Room} {as' : Array Value} {Q : Option Value → Heap → List Loc → Prop} (hpf : plainFor y = true)
    (body : ∀ (p : Program) (e : Env) (s : State) (m : MethodId) (below : List Frame) (meth : Method) (c : Code) (T : State), Stand p l e rm s m as' below meth c T [] 0 0 → p.tables.exec = Jvm.exec → c.code = bytes → c.maxLocals = maxL → meth.sig.returnType = ret → meth.locks = false → Z.Warmed39 s.vm → s.vm.findClass y.cls = some m.cls → meth.name = y.name → T.heap = h →
      own_Ends p e below s rm.cells rm.slots Q T (entryFrame m as' maxL)) : own_Met l Z y bytes maxL ret ws rm as' h Q := by
  refine MetFree.of_bodySF hpf hisR ?_
  intro p e s m args below meth c s₁ Bd hml0 hP hK
  obtain ⟨rfl, hZ, hh⟩ := hP
  exact body p e s m below meth c s₁ (Stand.of_body Bd) Bd.exec Bd.bytes hml0 Bd.returns Bd.notSynchronized hZ (findClass_of_methodNamed Bd.named) (name_of_methodNamed Bd.named Bd.method).1 (by rw [← hh, Bd.state]; rfl)
theorem own_entry {F F' : JFrame} {k n : Nat} {Q : Option Value → Heap → List Loc → Prop} (q : F = F') (r : own_Ends p e below s k n Q T F') : own_Ends p e below s k n Q T F := q ▸ r
/-- what a body without effect leaves -/
abbrev own_PQ (w : Value) (h0 : Heap) (n0 : Nat) : Option Value → Heap → List Loc → Prop := fun v h L => v = some w ∧ Fr n0 L ∧ h = h0
theorem own_PQi {w w' : Value} {h0 : Heap} {L : List Loc} (hv : w = w') (N : Fr n0 L) (hh : h = h0) : own_PQ w' h0 n0 (some w) h L := ⟨congrArg some hv, N, hh⟩
/-- a static call by the callee's contract -/
theorem own_callS (X : Stand p l e R s m args below meth c T locs cells slots) (hx : p.tables.exec = Jvm.exec) (hZ : Z.Warmed39 s.vm) {own : String} {index : Nat} {y : MethodName} {bytes : ByteArray} {maxL : Nat} {ret : Option FieldType} {rm : Room} (W : Nat) {as' : Array Value} {Q : Option Value → Heap → List Loc → Prop}
    (hown : s.vm.findClass own = some m.cls) (w1 : (Jvm.Cond.methodLink own index y).before a0 Z = true) (w2 : (Jvm.Cond.static y).before a0 Z = true) (w3 : (Jvm.Cond.initialized y.cls).before a0 Z = true) (w4 : (Jvm.Cond.code y bytes maxL ret).before a0 Z = true)
    (hy : y.cls ≠ "java/lang/invoke/MethodHandle" ∧ y.cls ≠ "java/lang/invoke/VarHandle") (hM : own_Met l Z y bytes maxL ret [] rm as' h Q) (hf : rm.frames + 1 ≤ R.frames) (hl : W + (maxL + 11) + rm.locals ≤ R.locals) (eT : T.heap = h) (hc : cells + rm.cells ≤ R.cells) (hs : slots + rm.slots ≤ R.slots)
    {g : JFrame} (hg : g.method = m) (hsize : g.locals.size = c.maxLocals) {argsL rest : List Value} (hlen : ∀ sig, parseMethodDescriptor y.desc = some sig → argsL.length = sig.parameters.length) (has : argsL.toArray = as') (hst : g.stack = argsL.reverse ++ rest)
    (hW : 2 * g.monitorRoom + (rest.map fun v => v.category).sum ≤ W) (hd : decode c.code g.pc = .ok (.invokestatic index, 3)) :
    ∃ (v : Option Value) (T' : State) (L : List Loc), Stand p l e R s m args below meth c T' (locs ++ L) (cells + rm.cells) (slots + rm.slots) ∧ Q v T'.heap L ∧
      ∀ t, Steps p.tables e below (T'.setTop { g with pc := g.pc + 3, stack := v.toList ++ rest }) t → Steps p.tables e below (T.setTop g) t := by
  obtain ⟨v, _, ⟨T6, L6, k6, n6⟩, -, X6, ⟨Lc6, hQ6, l6, y6, z6⟩, st6⟩ := Jvm.LawKit.callS X hx hown (mvT hZ w1) (mvT hZ w2) (mvT hZ w3) (mvT hZ w4) hy (backOf (W := W) hM hZ w4 w3 hf hl) hg hsize (argsL := argsL) (rest := rest) hlen hst hW hd (fun _ _ => ⟨has, eT, hc, hs⟩)
  dsimp only [Pt.U, Pt.locs, Pt.cells, Pt.slots] at X6 l6 y6 z6 st6 hQ6
  subst l6 y6 z6
  exact ⟨v, T6, Lc6, X6, hQ6, st6⟩
/-- a static call without effect -/
theorem own_callP (X : Stand p l e R s m args below meth c T locs cells slots) (hx : p.tables.exec = Jvm.exec) (hZ : Z.Warmed39 s.vm) {own : String} {index : Nat} {y : MethodName} {bytes : ByteArray} {maxL : Nat} {ret : Option FieldType} {rm : Room} (W : Nat) {as' : Array Value} {w : Value}
    (hown : s.vm.findClass own = some m.cls) (w1 : (Jvm.Cond.methodLink own index y).before a0 Z = true) (w2 : (Jvm.Cond.static y).before a0 Z = true) (w3 : (Jvm.Cond.initialized y.cls).before a0 Z = true) (w4 : (Jvm.Cond.code y bytes maxL ret).before a0 Z = true)
    (hy : y.cls ≠ "java/lang/invoke/MethodHandle" ∧ y.cls ≠ "java/lang/invoke/VarHandle") (hM : own_Met l Z y bytes maxL ret [] rm as' h (own_PQ w h n0)) (hf : rm.frames + 1 ≤ R.frames) (hl : W + (maxL + 11) + rm.locals ≤ R.locals) (rc : rm.cells = 0) (rs : rm.slots = 0) (eT : T.heap = h) (N : Fr n0 locs) (hc : cells ≤ R.cells) (hs : slots ≤ R.slots)
    {g : JFrame} (hg : g.method = m) (hsize : g.locals.size = c.maxLocals) {argsL rest : List Value} (hlen : ∀ sig, parseMethodDescriptor y.desc = some sig → argsL.length = sig.parameters.length) (has : argsL.toArray = as') (hst : g.stack = argsL.reverse ++ rest)
    (hW : 2 * g.monitorRoom + (rest.map fun v => v.category).sum ≤ W) (hd : decode c.code g.pc = .ok (.invokestatic index, 3)) :
    ∃ (T' : State) (locs' : List Loc), Stand p l e R s m args below meth c T' locs' cells slots ∧ T'.heap = h ∧ Fr n0 locs' ∧
      ∀ t, Steps p.tables e below (T'.setTop { g with pc := g.pc + 3, stack := w :: rest }) t → Steps p.tables e below (T.setTop g) t := by
  obtain ⟨v, T', L, X', ⟨rfl, NL, hh⟩, st⟩ := own_callS X hx hZ W hown w1 w2 w3 w4 hy hM hf hl eT (by rw [rc]; exact hc) (by rw [rs]; exact hs) hg hsize hlen has hst hW hd
  rw [rc, rs] at X'
  exact ⟨T', _, X', hh, Fr.app N NL, st⟩
/-- an array of ints, bytes, ..: its length and all its elements -/
def own_AI (Z : State) (h : Heap) (a : Addr) (ty : FieldType) (n : Int32) (xs : List Int32) : Prop := ∃ k, Arv Z h a k ty n (xs.map Value.int) (.int 0) ∧ xs.length = n.toNatClampNeg
def own_AJ (Z : State) (h : Heap) (a : Addr) (n : Int32) (xs : List Int64) : Prop := ∃ k, Arv Z h a k .long n (xs.map Value.long) (.long 0) ∧ xs.length = n.toNatClampNeg
theorem own_AI.ext {ty : FieldType} {n : Int32} {xs : List Int32} (V : own_AI Z h a ty n xs) (E : Ext h h') : own_AI Z h' a ty n xs := by
  obtain ⟨k, V, q⟩ := V; exact ⟨k, V.ext E, q⟩
theorem own_AJ.ext {n : Int32} {xs : List Int64} (V : own_AJ Z h a n xs) (E : Ext h h') : own_AJ Z h' a n xs := by
  obtain ⟨k, V, q⟩ := V; exact ⟨k, V.ext E, q⟩
theorem own_AI.other {ty : FieldType} {n : Int32} {xs : List Int32} {b : Addr} {sl : Nat} {v : Value} (V : own_AI Z h a ty n xs) (W : Wr h h' b sl v) (q : a ≠ b) : own_AI Z h' a ty n xs := by
  obtain ⟨k, V, r⟩ := V; exact ⟨k, V.other W q, r⟩
theorem own_AJ.other {n : Int32} {xs : List Int64} {b : Addr} {sl : Nat} {v : Value} (V : own_AJ Z h a n xs) (W : Wr h h' b sl v) (q : a ≠ b) : own_AJ Z h' a n xs := by
  obtain ⟨k, V, r⟩ := V; exact ⟨k, V.other W q, r⟩
theorem own_AI.keep {ty : FieldType} {n : Int32} {xs : List Int32} {ws : List Addr} (V : own_AI Z h a ty n xs) (K : Keep h h' ws) (q : a ∉ ws) : own_AI Z h' a ty n xs := by
  obtain ⟨k, V, r⟩ := V; exact ⟨k, V.keep K q, r⟩
theorem own_AJ.keep {n : Int32} {xs : List Int64} {ws : List Addr} (V : own_AJ Z h a n xs) (K : Keep h h' ws) (q : a ∉ ws) : own_AJ Z h' a n xs := by
  obtain ⟨k, V, r⟩ := V; exact ⟨k, V.keep K q, r⟩
theorem own_AI.lt {ty : FieldType} {n : Int32} {xs : List Int32} (V : own_AI Z h a ty n xs) : a < h.size := by
  obtain ⟨k, V, q⟩ := V; exact V.lt
theorem own_AJ.lt {n : Int32} {xs : List Int64} (V : own_AJ Z h a n xs) : a < h.size := by
  obtain ⟨k, V, q⟩ := V; exact V.lt
theorem own_AI.len {ty : FieldType} {n : Int32} {xs : List Int32} (V : own_AI Z h a ty n xs) : xs.length = n.toNatClampNeg := by
  obtain ⟨k, V, q⟩ := V; exact q
theorem own_AJ.len {n : Int32} {xs : List Int64} (V : own_AJ Z h a n xs) : xs.length = n.toNatClampNeg := by
  obtain ⟨k, V, q⟩ := V; exact q
theorem own_map_getD {α : Type} (f : α → Value) (d : α) (xs : List α) (i : Nat) : (xs.map f).getD i (f d) = f (xs.getD i d) := by
  simp only [List.getD_eq_getElem?_getD, List.getElem?_map]
  cases xs[i]? <;> rfl
theorem own_bound {j n : Int32} {N : Nat} (hN : N = n.toNatClampNeg) (hj : ¬ j < 0) (hn : ¬ n < 0) (q : j.toNatClampNeg < N) : ¬ j < 0 ∧ j < n := by
  refine ⟨hj, ?_⟩
  rw [hN] at q
  rw [Int32.lt_iff_toInt_lt] at hj hn ⊢
  have e0 : (0 : Int32).toInt = 0 := rfl
  simp only [Int32.toNatClampNeg] at q
  omega
/-- newarray of an int's kind -/
theorem own_newI (X : Stand p l e R s m args below meth c T locs cells slots) (hx : p.tables.exec = Jvm.exec) (hZ : Z.Warmed39 s.vm) {aty : ArrayType} (w : (Jvm.Cond.arrayClass (newarray.typeOf aty)).before a0 Z = true) (eT : T.heap = h) (Z0 : n0 ≤ h.size) {g : JFrame} (hg : g.method = m) {n : Int32} {rest : List Value} (hs : g.stack = .int n :: rest)
    (hd : decode c.code g.pc = .ok (.newarray aty, 2)) (hdv : defaultValue (newarray.typeOf aty) = .int 0) (hn : ¬ n < 0) (cap N : Nat) (hN : n.toNatClampNeg = N) (hcap : N ≤ cap) (hb : cap * 8 ≤ 536870912) (hc : cells + 1 ≤ R.cells) (hl : slots + cap ≤ R.slots) :
    ∃ (T' : State) (h' : Heap) (b : Addr), Stand p l e R s m args below meth c T' locs (cells + 1) (slots + cap) ∧ T'.heap = h' ∧ Ext h h' ∧ b = h.size ∧ n0 ≤ b ∧ n0 ≤ h'.size ∧ own_AI Z h' b (newarray.typeOf aty) n (List.replicate N 0) ∧
      ∀ t, Steps p.tables e below (T'.setTop { g with pc := g.pc + 2, stack := .ref b :: rest }) t → Steps p.tables e below (T.setTop g) t := by
  obtain ⟨T', h', k, X', e', E, A, st⟩ := newP X hx hZ w eT hg hd hs hn (cap := cap) (by rw [hN]; exact hcap) hb hc hl
  refine ⟨T', h', h.size, X', e', E, rfl, Z0, Nat.le_trans Z0 E.1, ⟨k, ?_, by rw [List.length_replicate, hN]⟩, st⟩
  have V := Arv.new A hn
  rw [hdv] at V
  rw [List.map_replicate]
  exact V.pad (vs' := List.replicate N (.int 0)) (fun i => by have q := pad_rep [] (Value.int 0) N i; rw [List.nil_append] at q; exact q)
theorem own_newJ (X : Stand p l e R s m args below meth c T locs cells slots) (hx : p.tables.exec = Jvm.exec) (hZ : Z.Warmed39 s.vm) (w : (Jvm.Cond.arrayClass .long).before a0 Z = true) (eT : T.heap = h) (Z0 : n0 ≤ h.size) {g : JFrame} (hg : g.method = m) {n : Int32} {rest : List Value} (hs : g.stack = .int n :: rest)
    (hd : decode c.code g.pc = .ok (.newarray .long, 2)) (hn : ¬ n < 0) (cap N : Nat) (hN : n.toNatClampNeg = N) (hcap : N ≤ cap) (hb : cap * 8 ≤ 536870912) (hc : cells + 1 ≤ R.cells) (hl : slots + cap ≤ R.slots) :
    ∃ (T' : State) (h' : Heap) (b : Addr), Stand p l e R s m args below meth c T' locs (cells + 1) (slots + cap) ∧ T'.heap = h' ∧ Ext h h' ∧ b = h.size ∧ n0 ≤ b ∧ n0 ≤ h'.size ∧ own_AJ Z h' b n (List.replicate N 0) ∧
      ∀ t, Steps p.tables e below (T'.setTop { g with pc := g.pc + 2, stack := .ref b :: rest }) t → Steps p.tables e below (T.setTop g) t := by
  obtain ⟨T', h', k, X', e', E, A, st⟩ := newP X hx hZ (aty := .long) w eT hg hd hs hn (cap := cap) (by rw [hN]; exact hcap) hb hc hl
  refine ⟨T', h', h.size, X', e', E, rfl, Z0, Nat.le_trans Z0 E.1, ⟨k, ?_, by rw [List.length_replicate, hN]⟩, st⟩
  have V := Arv.new A hn
  rw [List.map_replicate]
  exact V.pad (vs' := List.replicate N (.long 0)) (fun i => by have q := pad_rep [] (Value.long 0) N i; rw [List.nil_append] at q; exact q)
/-- a byte stored -/
theorem own_stB (X : Stand p l e R s m args below meth c T locs cells slots) (hx : p.tables.exec = Jvm.exec) (hZ : Z.Warmed39 s.vm) (eT : T.heap = h) (N : Fr n0 locs) {n : Int32} {xs ys : List Int32} (V : own_AI Z h a .byte n xs) (ga : n0 ≤ a) {g : JFrame} (hg : g.method = m) {j x : Int32} {rest : List Value} (hs : g.stack = .int x :: .int j :: .ref a :: rest)
    (hd : decode c.code g.pc = .ok (.bastore, 1)) (hj : ¬ j < 0) (hi : j.toNatClampNeg < xs.length) (hy : xs.set j.toNatClampNeg (x.toInt8.toInt32) = ys) :
    ∃ (T' : State) (h' : Heap) (locs' : List Loc), Stand p l e R s m args below meth c T' locs' cells slots ∧ T'.heap = h' ∧ Fr n0 locs' ∧ Wr h h' a j.toNatClampNeg (.int (x.toInt8.toInt32)) ∧ own_AI Z h' a .byte n ys ∧
      ∀ t, Steps p.tables e below (T'.setTop { g with pc := g.pc + 1, stack := rest }) t → Steps p.tables e below (T.setTop g) t := by
  obtain ⟨k, ⟨cl, Ar, q, S, M, H, G⟩, hl⟩ := V
  obtain ⟨T', h', X', e', W, st⟩ := stB X hx hZ eT Ar (j := j) (x := x) (inb_of S (own_bound hl hj M hi)) hg hs hd
  refine ⟨T', h', _, X', e', Fr.snoc X' N ga, W, ?_, st⟩
  subst hy
  refine ⟨k, ?_, by rw [List.length_set]; exact hl⟩
  have := Arv.set Ar q S M H G (fits_nar_byte x) W j.toNatClampNeg rfl (by rw [List.length_map]; exact hi)
  rw [List.map_set]
  exact this
theorem own_stI (X : Stand p l e R s m args below meth c T locs cells slots) (hx : p.tables.exec = Jvm.exec) (hZ : Z.Warmed39 s.vm) (eT : T.heap = h) (N : Fr n0 locs) {n : Int32} {xs ys : List Int32} (V : own_AI Z h a .int n xs) (ga : n0 ≤ a) {g : JFrame} (hg : g.method = m) {j x : Int32} {rest : List Value} (hs : g.stack = .int x :: .int j :: .ref a :: rest)
    (hd : decode c.code g.pc = .ok (.iastore, 1)) (hj : ¬ j < 0) (hi : j.toNatClampNeg < xs.length) (hy : xs.set j.toNatClampNeg x = ys) :
    ∃ (T' : State) (h' : Heap) (locs' : List Loc), Stand p l e R s m args below meth c T' locs' cells slots ∧ T'.heap = h' ∧ Fr n0 locs' ∧ Wr h h' a j.toNatClampNeg (.int x) ∧ own_AI Z h' a .int n ys ∧
      ∀ t, Steps p.tables e below (T'.setTop { g with pc := g.pc + 1, stack := rest }) t → Steps p.tables e below (T.setTop g) t := by
  obtain ⟨k, ⟨cl, Ar, q, S, M, H, G⟩, hl⟩ := V
  obtain ⟨T', h', X', e', W, st⟩ := stI X hx hZ eT Ar (j := j) (x := x) (inb_of S (own_bound hl hj M hi)) hg hs hd
  refine ⟨T', h', _, X', e', Fr.snoc X' N ga, W, ?_, st⟩
  subst hy
  refine ⟨k, ?_, by rw [List.length_set]; exact hl⟩
  have := Arv.set Ar q S M H G (v := .int x) rfl W j.toNatClampNeg rfl (by rw [List.length_map]; exact hi)
  rw [List.map_set]
  exact this
theorem own_stJ (X : Stand p l e R s m args below meth c T locs cells slots) (hx : p.tables.exec = Jvm.exec) (hZ : Z.Warmed39 s.vm) (eT : T.heap = h) (N : Fr n0 locs) {n : Int32} {xs ys : List Int64} (V : own_AJ Z h a n xs) (ga : n0 ≤ a) {g : JFrame} (hg : g.method = m) {j : Int32} {x : Int64} {rest : List Value} (hs : g.stack = .long x :: .int j :: .ref a :: rest)
    (hd : decode c.code g.pc = .ok (.lastore, 1)) (hj : ¬ j < 0) (hi : j.toNatClampNeg < xs.length) (hy : xs.set j.toNatClampNeg x = ys) :
    ∃ (T' : State) (h' : Heap) (locs' : List Loc), Stand p l e R s m args below meth c T' locs' cells slots ∧ T'.heap = h' ∧ Fr n0 locs' ∧ Wr h h' a j.toNatClampNeg (.long x) ∧ own_AJ Z h' a n ys ∧
      ∀ t, Steps p.tables e below (T'.setTop { g with pc := g.pc + 1, stack := rest }) t → Steps p.tables e below (T.setTop g) t := by
  obtain ⟨k, ⟨cl, Ar, q, S, M, H, G⟩, hl⟩ := V
  obtain ⟨T', h', X', e', W, st⟩ := stJ X hx hZ eT Ar (j := j) (x := x) (inb_of S (own_bound hl hj M hi)) hg hs hd
  refine ⟨T', h', _, X', e', Fr.snoc X' N ga, W, ?_, st⟩
  subst hy
  refine ⟨k, ?_, by rw [List.length_set]; exact hl⟩
  have := Arv.set Ar q S M H G (v := .long x) rfl W j.toNatClampNeg rfl (by rw [List.length_map]; exact hi)
  rw [List.map_set]
  exact this
theorem own_baload (X : Stand p l e R s m args below meth c T locs cells slots) (hx : p.tables.exec = Jvm.exec) (hZ : Z.Warmed39 s.vm) (eT : T.heap = h) {n : Int32} {xs : List Int32} (V : own_AI Z h a .byte n xs) {g : JFrame} (hg : g.method = m) {j : Int32} {rest : List Value} (hs : g.stack = .int j :: .ref a :: rest)
    (hd : decode c.code g.pc = .ok (.baload, 1)) (hj : ¬ j < 0) (hi : j.toNatClampNeg < xs.length) {w : Int32} (hv : xs.getD j.toNatClampNeg 0 = w) :
    ∀ t, Steps p.tables e below (T.setTop { g with pc := g.pc + 1, stack := .int w :: rest }) t → Steps p.tables e below (T.setTop g) t := by
  obtain ⟨k, ⟨cl, Ar, q, S, M, H, G⟩, hl⟩ := V
  have hin := inb_of (j := j) S (own_bound hl hj M hi)
  have hat := Has.at H hin (v := .int w) (by rw [own_map_getD Value.int 0, hv])
  exact fun t k => X.baloadBytes hx (j := j) (v := .int w) (by rw [eT]; exact Ar.1) (State.isArrayOf_alike hZ.alike Ar.2.1) Ar.2.2 hin hat hg hs hd _ k
theorem own_iaload (X : Stand p l e R s m args below meth c T locs cells slots) (hx : p.tables.exec = Jvm.exec) (hZ : Z.Warmed39 s.vm) (eT : T.heap = h) {n : Int32} {xs : List Int32} (V : own_AI Z h a .int n xs) {g : JFrame} (hg : g.method = m) {j : Int32} {rest : List Value} (hs : g.stack = .int j :: .ref a :: rest)
    (hd : decode c.code g.pc = .ok (.iaload, 1)) (hj : ¬ j < 0) (hi : j.toNatClampNeg < xs.length) {w : Int32} (hv : xs.getD j.toNatClampNeg 0 = w) :
    ∀ t, Steps p.tables e below (T.setTop { g with pc := g.pc + 1, stack := .int w :: rest }) t → Steps p.tables e below (T.setTop g) t := by
  obtain ⟨k, ⟨cl, Ar, q, S, M, H, G⟩, hl⟩ := V
  have hin := inb_of (j := j) S (own_bound hl hj M hi)
  have hat := Has.at H hin (v := .int w) (by rw [own_map_getD Value.int 0, hv])
  exact fun t k => X.iaload hx (j := j) (v := .int w) (by rw [eT]; exact Ar.1) (State.isArrayOf_alike hZ.alike Ar.2.1) Ar.2.2 hin hat hg hs hd _ k
theorem own_laload (X : Stand p l e R s m args below meth c T locs cells slots) (hx : p.tables.exec = Jvm.exec) (hZ : Z.Warmed39 s.vm) (eT : T.heap = h) {n : Int32} {xs : List Int64} (V : own_AJ Z h a n xs) {g : JFrame} (hg : g.method = m) {j : Int32} {rest : List Value} (hs : g.stack = .int j :: .ref a :: rest)
    (hd : decode c.code g.pc = .ok (.laload, 1)) (hj : ¬ j < 0) (hi : j.toNatClampNeg < xs.length) {w : Int64} (hv : xs.getD j.toNatClampNeg 0 = w) :
    ∀ t, Steps p.tables e below (T.setTop { g with pc := g.pc + 1, stack := .long w :: rest }) t → Steps p.tables e below (T.setTop g) t := by
  obtain ⟨k, ⟨cl, Ar, q, S, M, H, G⟩, hl⟩ := V
  have hin := inb_of (j := j) S (own_bound hl hj M hi)
  have hat := Has.at H hin (v := .long w) (by rw [own_map_getD Value.long 0, hv])
  exact fun t k => X.laload hx (j := j) (v := .long w) (by rw [eT]; exact Ar.1) (State.isArrayOf_alike hZ.alike Ar.2.1) Ar.2.2 hin hat hg hs hd _ k
theorem own_lenI (X : Stand p l e R s m args below meth c T locs cells slots) (hx : p.tables.exec = Jvm.exec) (hZ : Z.Warmed39 s.vm) (eT : T.heap = h) {ty : FieldType} {n : Int32} {xs : List Int32} (V : own_AI Z h a ty n xs) {g : JFrame} (hg : g.method = m) {rest : List Value} (hs : g.stack = .ref a :: rest)
    (hd : decode c.code g.pc = .ok (.arraylength, 1)) :
    ∀ t, Steps p.tables e below (T.setTop { g with pc := g.pc + 1, stack := .int n :: rest }) t → Steps p.tables e below (T.setTop g) t := by
  obtain ⟨k, ⟨cl, Ar, q, S, M, H, G⟩, hl⟩ := V
  intro t k
  refine X.arraylength hx (cell := cl) (by rw [eT]; exact Ar.1) (State.isArrayOf_alike hZ.alike Ar.2.1) hg hs hd _ ?_
  rw [len_of S M]
  exact k
theorem own_lenJ (X : Stand p l e R s m args below meth c T locs cells slots) (hx : p.tables.exec = Jvm.exec) (hZ : Z.Warmed39 s.vm) (eT : T.heap = h) {n : Int32} {xs : List Int64} (V : own_AJ Z h a n xs) {g : JFrame} (hg : g.method = m) {rest : List Value} (hs : g.stack = .ref a :: rest)
    (hd : decode c.code g.pc = .ok (.arraylength, 1)) :
    ∀ t, Steps p.tables e below (T.setTop { g with pc := g.pc + 1, stack := .int n :: rest }) t → Steps p.tables e below (T.setTop g) t := by
  obtain ⟨k, ⟨cl, Ar, q, S, M, H, G⟩, hl⟩ := V
  intro t k
  refine X.arraylength hx (cell := cl) (by rw [eT]; exact Ar.1) (State.isArrayOf_alike hZ.alike Ar.2.1) hg hs hd _ ?_
  rw [len_of S M]
  exact k
end OwnKit
section OwnObj
variable {p : Program} {l : Launch} {e : Env} {R : Room} {s : State} {m : MethodId} {args : Array Value} {below : List Frame} {meth : Method} {c : Code} {T T' : State} {locs : List Loc} {cells slots : Nat} {Z : State} {a0 : Array Value} {h h' : Heap} {n0 : Nat} {a : Addr}
/-- an instance method by its contract -/
theorem own_callV (X : Stand p l e R s m args below meth c T locs cells slots) (hx : p.tables.exec = Jvm.exec) (hZ : Z.Warmed39 s.vm) {own C : String} {index : Nat} {y : MethodName} {bytes : ByteArray} {maxL : Nat} {ret : Option FieldType} {rm : Room} (W : Nat) {as' : Array Value} {Q : Option Value → Heap → List Loc → Prop}
    (hown : s.vm.findClass own = some m.cls) (w1 : (Jvm.Cond.methodLink own index y).before a0 Z = true) (w2 : (Jvm.Cond.declares y).before a0 Z = true) (w3 : (Jvm.Cond.selects C y y).before a0 Z = true) (w4 : (Jvm.Cond.instanceMethod y).before a0 Z = true) (w5 : (Jvm.Cond.initialized y.cls).before a0 Z = true) (w6 : (Jvm.Cond.code y bytes maxL ret).before a0 Z = true)
    (hy : y.cls ≠ "java/lang/invoke/MethodHandle" ∧ y.cls ≠ "java/lang/invoke/VarHandle") (hM : own_Met l Z y bytes maxL ret [] rm as' h Q) (hf : rm.frames + 1 ≤ R.frames) (hl : W + (maxL + 11) + rm.locals ≤ R.locals) (eT : T.heap = h) (E : Exa Z h a C) (hc : cells + rm.cells ≤ R.cells) (hs : slots + rm.slots ≤ R.slots)
    {g : JFrame} (hg : g.method = m) (hsize : g.locals.size = c.maxLocals) {argsL rest : List Value} (hlen : ∀ sig, parseMethodDescriptor y.desc = some sig → argsL.length = sig.parameters.length) (has : (Value.ref a :: argsL).toArray = as') (hst : g.stack = argsL.reverse ++ .ref a :: rest)
    (hW : 2 * g.monitorRoom + (rest.map fun v => v.category).sum ≤ W) (hd : decode c.code g.pc = .ok (.invokevirtual index, 3)) :
    ∃ (v : Option Value) (T' : State) (L : List Loc), Stand p l e R s m args below meth c T' (locs ++ L) (cells + rm.cells) (slots + rm.slots) ∧ Q v T'.heap L ∧
      ∀ t, Steps p.tables e below (T'.setTop { g with pc := g.pc + 3, stack := v.toList ++ rest }) t → Steps p.tables e below (T.setTop g) t := by
  obtain ⟨cq, kq, qa, qb, qc⟩ := isOf hZ eT E
  obtain ⟨v, _, ⟨T6, L6, k6, n6⟩, -, X6, ⟨Lc6, hQ6, l6, y6, z6⟩, st6⟩ := X.virtualBack hx (y := y) (z := y) hown (mvT hZ w1) (mvT hZ w2) (notFace_of_selects (args := #[]) (mvT hZ w3)) (mvT hZ w3) (mvT hZ w4) hy (backOf (W := W) hM hZ w6 w5 hf hl) qa qc hg hsize (Steps.refl _) (argsL := argsL) (rest := rest) hlen hst hW hd (fun _ _ => ⟨has, eT, hc, hs⟩)
  dsimp only [Pt.U, Pt.locs, Pt.cells, Pt.slots] at X6 l6 y6 z6 st6 hQ6
  subst l6 y6 z6
  exact ⟨v, T6, Lc6, X6, hQ6, fun t k => st6.trans k⟩
/-- a constructor by its contract -/
theorem own_callI (X : Stand p l e R s m args below meth c T locs cells slots) (hx : p.tables.exec = Jvm.exec) (hZ : Z.Warmed39 s.vm) {own : String} {index : Nat} {y : MethodName} {bytes : ByteArray} {maxL : Nat} {rm : Room} (W : Nat) {as' : Array Value} {Q : Option Value → Heap → List Loc → Prop} (hi : y.name = "<init>")
    (hown : s.vm.findClass own = some m.cls) (w1 : (Jvm.Cond.methodLink own index y).before a0 Z = true) (w2 : (Jvm.Cond.instanceMethod y).before a0 Z = true) (w3 : (Jvm.Cond.initialized y.cls).before a0 Z = true) (w4 : (Jvm.Cond.code y bytes maxL none).before a0 Z = true)
    (hy : y.cls ≠ "java/lang/invoke/MethodHandle" ∧ y.cls ≠ "java/lang/invoke/VarHandle") (hM : own_Met l Z y bytes maxL none [] rm as' h Q) (hf : rm.frames + 1 ≤ R.frames) (hl : W + (maxL + 11) + rm.locals ≤ R.locals) (eT : T.heap = h) (hc : cells + rm.cells ≤ R.cells) (hs : slots + rm.slots ≤ R.slots)
    {g : JFrame} (hg : g.method = m) (hsize : g.locals.size = c.maxLocals) {argsL rest : List Value} (hlen : ∀ sig, parseMethodDescriptor y.desc = some sig → argsL.length = sig.parameters.length) (has : (Value.ref a :: argsL).toArray = as') (hst : g.stack = argsL.reverse ++ .ref a :: rest)
    (hW : 2 * g.monitorRoom + (rest.map fun v => v.category).sum ≤ W) (hd : decode c.code g.pc = .ok (.invokespecial index, 3)) :
    ∃ (v : Option Value) (T' : State) (L : List Loc), Stand p l e R s m args below meth c T' (locs ++ L) (cells + rm.cells) (slots + rm.slots) ∧ Q v T'.heap L ∧
      ∀ t, Steps p.tables e below (T'.setTop { g with pc := g.pc + 3, stack := v.toList ++ rest }) t → Steps p.tables e below (T.setTop g) t := by
  obtain ⟨v, _, ⟨T6, L6, k6, n6⟩, -, X6, ⟨Lc6, hQ6, l6, y6, z6⟩, st6⟩ := X.specialBack hx (y := y) hi hown (mvT hZ w1) (mvT hZ w2) (mvT hZ w4) hy (backOf (W := W) hM hZ w4 w3 hf hl) hg hsize (Steps.refl _) (a := a) (argsL := argsL) (rest := rest) hlen hst hW hd (fun _ _ => ⟨has, eT, hc, hs⟩)
  dsimp only [Pt.U, Pt.locs, Pt.cells, Pt.slots] at X6 l6 y6 z6 st6 hQ6
  subst l6 y6 z6
  exact ⟨v, T6, Lc6, X6, hQ6, fun t k => st6.trans k⟩
/-- a private method by its contract; y0: a method of the same class that isn't private -/
theorem own_callX (X : Stand p l e R s m args below meth c T locs cells slots) (hx : p.tables.exec = Jvm.exec) (hZ : Z.Warmed39 s.vm) {own C C0 : String} {index : Nat} {y y0 : MethodName} {bytes : ByteArray} {maxL : Nat} {ret : Option FieldType} {rm : Room} (W : Nat) {as' : Array Value} {Q : Option Value → Heap → List Loc → Prop}
    (hown : s.vm.findClass own = some m.cls) (w1 : (Jvm.Cond.methodLink own index y).before a0 Z = true) (w2 : (Jvm.Cond.instanceMethod y).before a0 Z = true) (w3 : (Jvm.Cond.privateMethod y).before a0 Z = true) (w4 : (Jvm.Cond.selects C0 y0 y0).before a0 Z = true) (hcls : y0.cls = y.cls) (w5 : (Jvm.Cond.initialized y.cls).before a0 Z = true) (w6 : (Jvm.Cond.code y bytes maxL ret).before a0 Z = true)
    (hy : y.cls ≠ "java/lang/invoke/MethodHandle" ∧ y.cls ≠ "java/lang/invoke/VarHandle") (hM : own_Met l Z y bytes maxL ret [] rm as' h Q) (hf : rm.frames + 1 ≤ R.frames) (hl : W + (maxL + 11) + rm.locals ≤ R.locals) (eT : T.heap = h) (E : Exa Z h a C) (hc : cells + rm.cells ≤ R.cells) (hs : slots + rm.slots ≤ R.slots)
    {g : JFrame} (hg : g.method = m) (hsize : g.locals.size = c.maxLocals) {argsL rest : List Value} (hlen : ∀ sig, parseMethodDescriptor y.desc = some sig → argsL.length = sig.parameters.length) (has : (Value.ref a :: argsL).toArray = as') (hst : g.stack = argsL.reverse ++ .ref a :: rest)
    (hW : 2 * g.monitorRoom + (rest.map fun v => v.category).sum ≤ W) (hd : decode c.code g.pc = .ok (.invokevirtual index, 3)) :
    ∃ (v : Option Value) (T' : State) (L : List Loc), Stand p l e R s m args below meth c T' (locs ++ L) (cells + rm.cells) (slots + rm.slots) ∧ Q v T'.heap L ∧
      ∀ t, Steps p.tables e below (T'.setTop { g with pc := g.pc + 3, stack := v.toList ++ rest }) t → Steps p.tables e below (T.setTop g) t := by
  obtain ⟨cq, q1, q2⟩ := E.cell
  have hp := Cond.privateMethod_at (mvP hZ w3 (args := #[]))
  obtain ⟨c2, r2, m2, -, -, b3, -, kP, hkP, hkPi⟩ := Cond.selects_spec (mvT hZ w4 (args := #[]))
  have hcc := findClass_of_methodNamed b3
  rw [hcls] at hcc
  have hsel := selects_self_of_private hcc hkP hkPi hp (mvT hZ w2) hy (args := args)
  obtain ⟨v, _, ⟨T6, L6, k6, n6⟩, -, X6, ⟨Lc6, hQ6, l6, y6, z6⟩, st6⟩ := X.privateBack hx (y := y) hown (mvT hZ w1) (mvT hZ w2) hsel hp (mvT hZ w6) hy (backOf (W := W) hM hZ w6 w5 hf hl) hg hsize (Steps.refl _) (a := a) (by rw [eT]; exact q1) q2 (argsL := argsL) (rest := rest) hlen hst hW hd (fun _ _ => ⟨has, eT, hc, hs⟩)
  dsimp only [Pt.U, Pt.locs, Pt.cells, Pt.slots] at X6 l6 y6 z6 st6 hQ6
  subst l6 y6 z6
  exact ⟨v, T6, Lc6, X6, hQ6, fun t k => st6.trans k⟩
end OwnObj
theorem pn0 : plainName "com/example/forest_grammar/forestgrammar/languages/Family$Box" = true := by first | (simp [plainName, overriddenIn]; done) | decide +kernel
theorem ef1 (m : MethodId) (x0 : Addr) (x1 : Addr) (x2 : Addr) : entryFrame m #[(.ref x0), (.ref x1), (.ref x2)] 3 = mkF m 0 #[.val (.ref x0), .val (.ref x1), .val (.ref x2)] [] := by first | (simp [entryFrame, mkF, argsToLocals, Value.category]; done) | rfl
theorem d1_0 : decode prog_139_method_1_code 0 = .ok (.aload_n 0, 1) := by decide +kernel
theorem d1_1 : decode prog_139_method_1_code 1 = .ok (.invokespecial 1, 3) := by decide +kernel
theorem d1_4 : decode prog_139_method_1_code 4 = .ok (.aload_n 0, 1) := by decide +kernel
theorem d1_5 : decode prog_139_method_1_code 5 = .ok (.aload_n 1, 1) := by decide +kernel
theorem d1_6 : decode prog_139_method_1_code 6 = .ok (.putfield 7, 3) := by decide +kernel
theorem d1_9 : decode prog_139_method_1_code 9 = .ok (.aload_n 0, 1) := by decide +kernel
theorem d1_10 : decode prog_139_method_1_code 10 = .ok (.aload_n 2, 1) := by decide +kernel
theorem d1_11 : decode prog_139_method_1_code 11 = .ok (.putfield 13, 3) := by decide +kernel
theorem d1_14 : decode prog_139_method_1_code 14 = .ok (.return_, 1) := by decide +kernel
set_option maxRecDepth 65536 in
set_option maxHeartbeats 40000000 in
theorem rm1 (l : Launch) (Z : State) (a0 : Array Value) (hw : ∀ d ∈ tables_1, d.before a0 Z = true) (ws : List Jvm.Cond) (a : Addr) (lo : Addr) (hi : Addr) (h0 : Heap) (n0 : Nat) (Z0 : n0 ≤ h0.size) (ga : n0 ≤ a) (E0 : Exa Z h0 a "com/example/forest_grammar/forestgrammar/languages/Family$Box") (Fl : Fld Z h0 a "com/example/forest_grammar/forestgrammar/languages/Family$Box" "low" "[J" .null) (Fh : Fld Z h0 a "com/example/forest_grammar/forestgrammar/languages/Family$Box" "high" "[J" .null) :
    own_Met l Z (⟨"com/example/forest_grammar/forestgrammar/languages/Family$Box", "<init>", "([J[J)V"⟩ : MethodName) prog_139_method_1_code 3 (none) ws ({ frames := 1, cells := 0, slots := 0, locals := 12 } : Room) #[(.ref a), (.ref lo), (.ref hi)] h0 (fun v h L => v = none ∧ Fr n0 L ∧ Keep h0 h [a] ∧ Exa Z h a "com/example/forest_grammar/forestgrammar/languages/Family$Box" ∧ Fld Z h a "com/example/forest_grammar/forestgrammar/languages/Family$Box" "low" "[J" (.ref lo) ∧ Fld Z h a "com/example/forest_grammar/forestgrammar/languages/Family$Box" "high" "[J" (.ref hi)) := by
  refine own_body (plainFor_of_name pn0) ?_
  intro p e s m below meth c T X hx hby hml hret hlk hZ hown hnm eT
  have N := Fr.nil n0
  refine own_entry (ef1 m a lo hi) ?_
  have K0 := Keep.refl h0 [a]
  refine own_st (T' := T) (F' := (mkF m 1 #[.val (.ref a), .val (.ref lo), .val (.ref hi)] [(.ref a)])) (fun _ kq => XS.aloadN X.here hx rfl (hb hby d1_0) rfl rfl kq) ?_
  obtain ⟨T1, X1, e1, st1⟩ := initO X hx hZ hown (hw _ (List.mem_of_getElem? (i := 7) rfl)) (hw _ (List.mem_of_getElem? (i := 8) rfl)) (hw _ (List.mem_of_getElem? (i := 9) rfl)) eT (g := (mkF m 1 #[.val (.ref a), .val (.ref lo), .val (.ref hi)] [(.ref a)])) rfl (by rw [hml]; rfl) rfl (hb hby d1_1) (by decide) (W := 0) (by show 2 * 0 + _ ≤ _; exact Nat.le_of_eq rfl) (by decide)
  refine own_st (T' := T1) (F' := (mkF m 4 #[.val (.ref a), .val (.ref lo), .val (.ref hi)] [])) (st1) ?_
  refine own_st (T' := T1) (F' := (mkF m 5 #[.val (.ref a), .val (.ref lo), .val (.ref hi)] [(.ref a)])) (fun _ kq => XS.aloadN X1.here hx rfl (hb hby d1_4) rfl rfl kq) ?_
  refine own_st (T' := T1) (F' := (mkF m 6 #[.val (.ref a), .val (.ref lo), .val (.ref hi)] [(.ref lo), (.ref a)])) (fun _ kq => XS.aloadN X1.here hx rfl (hb hby d1_5) rfl rfl kq) ?_
  obtain ⟨T2, h2, X2, e2, W2, st2⟩ := putF X1 hx hZ hown (host := "") (Or.inl (hw _ (List.mem_of_getElem? (i := 10) rfl))) Via.refl e1 Fl E0 (Or.inr ⟨(hw _ (List.mem_of_getElem? (i := 11) rfl)), rfl, hnm⟩) (hw _ (List.mem_of_getElem? (i := 2) rfl)) (ty := (.array .long)) (by decide) rfl rfl (g := (mkF m 6 #[.val (.ref a), .val (.ref lo), .val (.ref hi)] [(.ref lo), (.ref a)])) rfl rfl (hb hby d1_6)
  have FAa_low_2 := Fl.same W2
  have FAa_high_2 := Fh.other W2 (Or.inr (slot_ne (a0 := a0) (C := "com/example/forest_grammar/forestgrammar/languages/Family$Box") (Or.inr (hw _ (List.mem_of_getElem? (i := 13) rfl))) (Or.inr (hw _ (List.mem_of_getElem? (i := 11) rfl))) (by decide) (t := (.array .long)) (t' := (.array .long)) (by decide) (by decide)))
  have EAa_2 := Exa.wr W2 E0
  have K2 := K0.wr W2 (Or.inl (List.mem_singleton.mpr rfl))
  have N2 := Fr.snoc X2 N ga
  have Z2 : n0 ≤ h2.size := by rw [W2.size]; exact Z0
  refine own_st (T' := T2) (F' := (mkF m 9 #[.val (.ref a), .val (.ref lo), .val (.ref hi)] [])) (st2) ?_
  refine own_st (T' := T2) (F' := (mkF m 10 #[.val (.ref a), .val (.ref lo), .val (.ref hi)] [(.ref a)])) (fun _ kq => XS.aloadN X2.here hx rfl (hb hby d1_9) rfl rfl kq) ?_
  refine own_st (T' := T2) (F' := (mkF m 11 #[.val (.ref a), .val (.ref lo), .val (.ref hi)] [(.ref hi), (.ref a)])) (fun _ kq => XS.aloadN X2.here hx rfl (hb hby d1_10) rfl rfl kq) ?_
  obtain ⟨T3, h3, X3, e3, W3, st3⟩ := putF X2 hx hZ hown (host := "") (Or.inl (hw _ (List.mem_of_getElem? (i := 12) rfl))) Via.refl e2 FAa_high_2 EAa_2 (Or.inr ⟨(hw _ (List.mem_of_getElem? (i := 13) rfl)), rfl, hnm⟩) (hw _ (List.mem_of_getElem? (i := 2) rfl)) (ty := (.array .long)) (by decide) rfl rfl (g := (mkF m 11 #[.val (.ref a), .val (.ref lo), .val (.ref hi)] [(.ref hi), (.ref a)])) rfl rfl (hb hby d1_11)
  have FAa_low_3 := FAa_low_2.other W3 (Or.inr (slot_ne (a0 := a0) (C := "com/example/forest_grammar/forestgrammar/languages/Family$Box") (Or.inr (hw _ (List.mem_of_getElem? (i := 11) rfl))) (Or.inr (hw _ (List.mem_of_getElem? (i := 13) rfl))) (by decide) (t := (.array .long)) (t' := (.array .long)) (by decide) (by decide)))
  have FAa_high_3 := FAa_high_2.same W3
  have EAa_3 := Exa.wr W3 EAa_2
  have K3 := K2.wr W3 (Or.inl (List.mem_singleton.mpr rfl))
  have N3 := Fr.snoc X3 N2 ga
  have Z3 : n0 ≤ h3.size := by rw [W3.size]; exact Z2
  refine own_st (T' := T3) (F' := (mkF m 14 #[.val (.ref a), .val (.ref lo), .val (.ref hi)] [])) (st3) ?_
  exact own_retV X3 hx hlk hret (hb hby d1_14) (by decide) (by decide) (by rw [e3]; exact ⟨rfl, N3, K3, EAa_3, FAa_low_3, FAa_high_3⟩)
theorem d3_0 : decode prog_139_method_8_code 0 = .ok (.iconst 0, 1) := by decide +kernel
theorem d3_1 : decode prog_139_method_8_code 1 = .ok (.istore_n 3, 1) := by decide +kernel
theorem d3_2 : decode prog_139_method_8_code 2 = .ok (.iload_n 3, 1) := by decide +kernel
theorem d3_3 : decode prog_139_method_8_code 3 = .ok (.aload_n 0, 1) := by decide +kernel
theorem d3_4 : decode prog_139_method_8_code 4 = .ok (.getfield 7, 3) := by decide +kernel
theorem d3_7 : decode prog_139_method_8_code 7 = .ok (.arraylength, 1) := by decide +kernel
theorem d3_11 : decode prog_139_method_8_code 11 = .ok (.iload_n 3, 1) := by decide +kernel
theorem d3_12 : decode prog_139_method_8_code 12 = .ok (.iload_n 2, 1) := by decide +kernel
theorem d3_50 : decode prog_139_method_8_code 50 = .ok (.iinc 3 1, 3) := by decide +kernel
theorem d3_53 : decode prog_139_method_8_code 53 = .ok (.goto (-51), 3) := by decide +kernel
theorem d3_16 : decode prog_139_method_8_code 16 = .ok (.aload_n 0, 1) := by decide +kernel
theorem d3_17 : decode prog_139_method_8_code 17 = .ok (.getfield 7, 3) := by decide +kernel
theorem d3_20 : decode prog_139_method_8_code 20 = .ok (.iload_n 3, 1) := by decide +kernel
theorem d3_21 : decode prog_139_method_8_code 21 = .ok (.laload, 1) := by decide +kernel
theorem d3_22 : decode prog_139_method_8_code 22 = .ok (.aload_n 1, 1) := by decide +kernel
theorem d3_23 : decode prog_139_method_8_code 23 = .ok (.getfield 7, 3) := by decide +kernel
theorem d3_26 : decode prog_139_method_8_code 26 = .ok (.iload_n 3, 1) := by decide +kernel
theorem d3_27 : decode prog_139_method_8_code 27 = .ok (.laload, 1) := by decide +kernel
theorem d3_28 : decode prog_139_method_8_code 28 = .ok (.lcmp, 1) := by decide +kernel
theorem d3_32 : decode prog_139_method_8_code 32 = .ok (.aload_n 0, 1) := by decide +kernel
theorem d3_33 : decode prog_139_method_8_code 33 = .ok (.getfield 13, 3) := by decide +kernel
theorem d3_36 : decode prog_139_method_8_code 36 = .ok (.iload_n 3, 1) := by decide +kernel
theorem d3_37 : decode prog_139_method_8_code 37 = .ok (.laload, 1) := by decide +kernel
theorem d3_38 : decode prog_139_method_8_code 38 = .ok (.aload_n 1, 1) := by decide +kernel
theorem d3_39 : decode prog_139_method_8_code 39 = .ok (.getfield 13, 3) := by decide +kernel
theorem d3_42 : decode prog_139_method_8_code 42 = .ok (.iload_n 3, 1) := by decide +kernel
theorem d3_43 : decode prog_139_method_8_code 43 = .ok (.laload, 1) := by decide +kernel
theorem d3_44 : decode prog_139_method_8_code 44 = .ok (.lcmp, 1) := by decide +kernel
theorem d3_48 : decode prog_139_method_8_code 48 = .ok (.iconst 0, 1) := by decide +kernel
theorem d3_56 : decode prog_139_method_8_code 56 = .ok (.iconst 1, 1) := by decide +kernel
theorem d3_8 : decode prog_139_method_8_code 8 = .ok (.if_icmp .ge 48, 3) := by decide +kernel
theorem d3_57 : decode prog_139_method_8_code 57 = .ok (.ireturn, 1) := by decide +kernel
theorem d3_13 : decode prog_139_method_8_code 13 = .ok (.if_icmp .eq 37, 3) := by decide +kernel
theorem d3_29 : decode prog_139_method_8_code 29 = .ok (.ifCond .ne 19, 3) := by decide +kernel
theorem d3_45 : decode prog_139_method_8_code 45 = .ok (.ifCond .eq 5, 3) := by decide +kernel
theorem d3_49 : decode prog_139_method_8_code 49 = .ok (.ireturn, 1) := by decide +kernel
theorem ef3 (m : MethodId) (x0 : Addr) (x1 : Addr) (x2 : Int32) : entryFrame m #[(.ref x0), (.ref x1), (.int x2)] 4 = mkF m 0 #[.val (.ref x0), .val (.ref x1), .val (.int x2), .unset] [] := by first | (simp [entryFrame, mkF, argsToLocals, Value.category]; done) | rfl
def f3_2k2  : Int32 := (1 : Int32)
def f3_2k1 (pp : Int32) (al1 : Int64) (ah1 : Int64) (ol1 : Int64) (oh1 : Int64) : Int32 := if (1 : Int32) = pp then (f3_2k2 ) else (if al1 = ol1 then (if ah1 = oh1 then (f3_2k2 ) else ((0 : Int32))) else ((0 : Int32)))
def f3_2k0 (pp : Int32) (al0 : Int64) (al1 : Int64) (ah0 : Int64) (ah1 : Int64) (ol0 : Int64) (ol1 : Int64) (oh0 : Int64) (oh1 : Int64) : Int32 := if (0 : Int32) = pp then (f3_2k1 pp al1 ah1 ol1 oh1) else (if al0 = ol0 then (if ah0 = oh0 then (f3_2k1 pp al1 ah1 ol1 oh1) else ((0 : Int32))) else ((0 : Int32)))
def f3 (pp : Int32) (al0 : Int64) (al1 : Int64) (ah0 : Int64) (ah1 : Int64) (ol0 : Int64) (ol1 : Int64) (oh0 : Int64) (oh1 : Int64) : Int32 := f3_2k0 pp al0 al1 ah0 ah1 ol0 ol1 oh0 oh1
set_option maxRecDepth 65536 in
set_option maxHeartbeats 40000000 in
theorem rm3 (l : Launch) (Z : State) (a0 : Array Value) (hw : ∀ d ∈ tables_1, d.before a0 Z = true) (ws : List Jvm.Cond) (a : Addr) (o : Addr) (pp : Int32) (al ah ol oh : Addr) (al0 : Int64) (al1 : Int64) (ah0 : Int64) (ah1 : Int64) (ol0 : Int64) (ol1 : Int64) (oh0 : Int64) (oh1 : Int64) (h0 : Heap) (n0 : Nat) (Fal : Fld Z h0 a "com/example/forest_grammar/forestgrammar/languages/Family$Box" "low" "[J" (.ref al)) (Val : own_AJ Z h0 al (2 : Int32) [al0, al1]) (Fah : Fld Z h0 a "com/example/forest_grammar/forestgrammar/languages/Family$Box" "high" "[J" (.ref ah)) (Vah : own_AJ Z h0 ah (2 : Int32) [ah0, ah1]) (Fol : Fld Z h0 o "com/example/forest_grammar/forestgrammar/languages/Family$Box" "low" "[J" (.ref ol)) (Vol : own_AJ Z h0 ol (2 : Int32) [ol0, ol1]) (Foh : Fld Z h0 o "com/example/forest_grammar/forestgrammar/languages/Family$Box" "high" "[J" (.ref oh)) (Voh : own_AJ Z h0 oh (2 : Int32) [oh0, oh1]) :
    own_Met l Z (⟨"com/example/forest_grammar/forestgrammar/languages/Family$Box", "wholeBut", "(Lcom/example/forest_grammar/forestgrammar/languages/Family$Box;I)Z"⟩ : MethodName) prog_139_method_8_code 4 (some .boolean) ws ({ frames := 0, cells := 0, slots := 0, locals := 0 } : Room) #[(.ref a), (.ref o), (.int pp)] h0 (own_PQ (.int (f3 pp al0 al1 ah0 ah1 ol0 ol1 oh0 oh1)) h0 n0) := by
  refine own_body (plainFor_of_name pn0) ?_
  intro p e s m below meth c T X hx hby hml hret hlk hZ hown hnm eT
  have J2k2 : ∀ (T : State) (locs : List Loc) (X : Stand p l e ({ frames := 0, cells := 0, slots := 0, locals := 0 } : Room) s m #[(.ref a), (.ref o), (.int pp)] below meth c T locs 0 0) (eT : T.heap = h0) (N : Fr n0 locs), own_Ends p e below s 0 0 (own_PQ (.int (f3_2k2 )) h0 n0) T (mkF m 2 #[.val (.ref a), .val (.ref o), .val (.int pp), .val (.int (2 : Int32))] []) := by
    intro T locs X eT N
    unfold f3_2k2
    refine own_st (T' := T) (F' := (mkF m 3 #[.val (.ref a), .val (.ref o), .val (.int pp), .val (.int (2 : Int32))] [(.int (2 : Int32))])) (fun _ kq => XS.iloadN X.here hx rfl (hb hby d3_2) rfl kq) ?_
    refine own_st (T' := T) (F' := (mkF m 4 #[.val (.ref a), .val (.ref o), .val (.int pp), .val (.int (2 : Int32))] [(.ref a), (.int (2 : Int32))])) (fun _ kq => XS.aloadN X.here hx rfl (hb hby d3_3) rfl rfl kq) ?_
    obtain ⟨T15, X15, e15, st15⟩ := getF X hx hZ hown (host := "") (Or.inl (hw _ (List.mem_of_getElem? (i := 10) rfl))) Via.refl eT Fal (g := (mkF m 4 #[.val (.ref a), .val (.ref o), .val (.int pp), .val (.int (2 : Int32))] [(.ref a), (.int (2 : Int32))])) rfl rfl (hb hby d3_4)
    refine own_st (T' := T15) (F' := (mkF m 7 #[.val (.ref a), .val (.ref o), .val (.int pp), .val (.int (2 : Int32))] [(.ref al), (.int (2 : Int32))])) (st15) ?_
    refine own_st (T' := T15) (F' := (mkF m 8 #[.val (.ref a), .val (.ref o), .val (.int pp), .val (.int (2 : Int32))] [(.int (2 : Int32)), (.int (2 : Int32))])) (own_lenJ X15 hx hZ e15 Val (g := (mkF m 7 #[.val (.ref a), .val (.ref o), .val (.int pp), .val (.int (2 : Int32))] [(.ref al), (.int (2 : Int32))])) rfl rfl (hb hby d3_7)) ?_
    refine own_st (T' := T15) (F' := (mkF m 56 #[.val (.ref a), .val (.ref o), .val (.int pp), .val (.int (2 : Int32))] [])) (fun _ kq => XS.icmpYes X15.here hx rfl (pc0 := 8) (pc' := 56) rfl (hb hby d3_8) rfl (flt (by decide : ¬ ((2 : Int32) < (2 : Int32)))).2.1 (by decide) (by decide) kq) ?_
    refine own_st (T' := T15) (F' := (mkF m 57 #[.val (.ref a), .val (.ref o), .val (.int pp), .val (.int (2 : Int32))] [(.int (1 : Int32))])) (fun _ kq => XS.iconst X15.here hx rfl (hb hby d3_56) kq) ?_
    exact own_retN X15 hx hlk hret (by simp) (hb hby d3_57) (by decide) (by decide) (own_PQi rfl N e15)
  have J2k1 : ∀ (T : State) (locs : List Loc) (X : Stand p l e ({ frames := 0, cells := 0, slots := 0, locals := 0 } : Room) s m #[(.ref a), (.ref o), (.int pp)] below meth c T locs 0 0) (eT : T.heap = h0) (N : Fr n0 locs), own_Ends p e below s 0 0 (own_PQ (.int (f3_2k1 pp al1 ah1 ol1 oh1)) h0 n0) T (mkF m 2 #[.val (.ref a), .val (.ref o), .val (.int pp), .val (.int (1 : Int32))] []) := by
    intro T locs X eT N
    unfold f3_2k1
    refine own_st (T' := T) (F' := (mkF m 3 #[.val (.ref a), .val (.ref o), .val (.int pp), .val (.int (1 : Int32))] [(.int (1 : Int32))])) (fun _ kq => XS.iloadN X.here hx rfl (hb hby d3_2) rfl kq) ?_
    refine own_st (T' := T) (F' := (mkF m 4 #[.val (.ref a), .val (.ref o), .val (.int pp), .val (.int (1 : Int32))] [(.ref a), (.int (1 : Int32))])) (fun _ kq => XS.aloadN X.here hx rfl (hb hby d3_3) rfl rfl kq) ?_
    obtain ⟨T16, X16, e16, st16⟩ := getF X hx hZ hown (host := "") (Or.inl (hw _ (List.mem_of_getElem? (i := 10) rfl))) Via.refl eT Fal (g := (mkF m 4 #[.val (.ref a), .val (.ref o), .val (.int pp), .val (.int (1 : Int32))] [(.ref a), (.int (1 : Int32))])) rfl rfl (hb hby d3_4)
    refine own_st (T' := T16) (F' := (mkF m 7 #[.val (.ref a), .val (.ref o), .val (.int pp), .val (.int (1 : Int32))] [(.ref al), (.int (1 : Int32))])) (st16) ?_
    refine own_st (T' := T16) (F' := (mkF m 8 #[.val (.ref a), .val (.ref o), .val (.int pp), .val (.int (1 : Int32))] [(.int (2 : Int32)), (.int (1 : Int32))])) (own_lenJ X16 hx hZ e16 Val (g := (mkF m 7 #[.val (.ref a), .val (.ref o), .val (.int pp), .val (.int (1 : Int32))] [(.ref al), (.int (1 : Int32))])) rfl rfl (hb hby d3_7)) ?_
    refine own_st (T' := T16) (F' := (mkF m 11 #[.val (.ref a), .val (.ref o), .val (.int pp), .val (.int (1 : Int32))] [])) (fun _ kq => XS.icmpNo X16.here hx rfl (hb hby d3_8) rfl (tlt (by decide : (1 : Int32) < (2 : Int32))).2.1 kq) ?_
    refine own_st (T' := T16) (F' := (mkF m 12 #[.val (.ref a), .val (.ref o), .val (.int pp), .val (.int (1 : Int32))] [(.int (1 : Int32))])) (fun _ kq => XS.iloadN X16.here hx rfl (hb hby d3_11) rfl kq) ?_
    refine own_st (T' := T16) (F' := (mkF m 13 #[.val (.ref a), .val (.ref o), .val (.int pp), .val (.int (1 : Int32))] [(.int pp), (.int (1 : Int32))])) (fun _ kq => XS.iloadN X16.here hx rfl (hb hby d3_12) rfl kq) ?_
    by_cases hc13_17 : (1 : Int32) = pp
    ·
      rw [if_pos hc13_17]
      refine own_st (T' := T16) (F' := (mkF m 50 #[.val (.ref a), .val (.ref o), .val (.int pp), .val (.int (1 : Int32))] [])) (fun _ kq => XS.icmpYes X16.here hx rfl (pc0 := 13) (pc' := 50) rfl (hb hby d3_13) rfl (teq hc13_17).1 (by decide) (by decide) kq) ?_
      refine own_st (T' := T16) (F' := (mkF m 53 #[.val (.ref a), .val (.ref o), .val (.int pp), .val (.int (2 : Int32))] [])) (fun _ kq => XS.iinc X16.here hx rfl (hb hby d3_50) rfl (l' := #[.val (.ref a), .val (.ref o), .val (.int pp), .val (.int (2 : Int32))]) rfl kq) ?_
      refine own_st (T' := T16) (F' := (mkF m 2 #[.val (.ref a), .val (.ref o), .val (.int pp), .val (.int (2 : Int32))] [])) (fun _ kq => XS.goto X16.here hx rfl (pc0 := 53) (pc' := 2) rfl (hb hby d3_53) (by decide) (by decide) kq) ?_
      exact J2k2  T16 _ X16 e16 N
    ·
      rw [if_neg hc13_17]
      refine own_st (T' := T16) (F' := (mkF m 16 #[.val (.ref a), .val (.ref o), .val (.int pp), .val (.int (1 : Int32))] [])) (fun _ kq => XS.icmpNo X16.here hx rfl (hb hby d3_13) rfl (feq hc13_17).1 kq) ?_
      refine own_st (T' := T16) (F' := (mkF m 17 #[.val (.ref a), .val (.ref o), .val (.int pp), .val (.int (1 : Int32))] [(.ref a)])) (fun _ kq => XS.aloadN X16.here hx rfl (hb hby d3_16) rfl rfl kq) ?_
      obtain ⟨T18, X18, e18, st18⟩ := getF X16 hx hZ hown (host := "") (Or.inl (hw _ (List.mem_of_getElem? (i := 10) rfl))) Via.refl e16 Fal (g := (mkF m 17 #[.val (.ref a), .val (.ref o), .val (.int pp), .val (.int (1 : Int32))] [(.ref a)])) rfl rfl (hb hby d3_17)
      refine own_st (T' := T18) (F' := (mkF m 20 #[.val (.ref a), .val (.ref o), .val (.int pp), .val (.int (1 : Int32))] [(.ref al)])) (st18) ?_
      refine own_st (T' := T18) (F' := (mkF m 21 #[.val (.ref a), .val (.ref o), .val (.int pp), .val (.int (1 : Int32))] [(.int (1 : Int32)), (.ref al)])) (fun _ kq => XS.iloadN X18.here hx rfl (hb hby d3_20) rfl kq) ?_
      refine own_st (T' := T18) (F' := (mkF m 22 #[.val (.ref a), .val (.ref o), .val (.int pp), .val (.int (1 : Int32))] [(.long al1)])) (own_laload X18 hx hZ e18 Val (g := (mkF m 21 #[.val (.ref a), .val (.ref o), .val (.int pp), .val (.int (1 : Int32))] [(.int (1 : Int32)), (.ref al)])) rfl rfl (hb hby d3_21) (by decide) (Nat.le_of_ble_eq_true rfl) (w := al1) rfl) ?_
      refine own_st (T' := T18) (F' := (mkF m 23 #[.val (.ref a), .val (.ref o), .val (.int pp), .val (.int (1 : Int32))] [(.ref o), (.long al1)])) (fun _ kq => XS.aloadN X18.here hx rfl (hb hby d3_22) rfl rfl kq) ?_
      obtain ⟨T19, X19, e19, st19⟩ := getF X18 hx hZ hown (host := "") (Or.inl (hw _ (List.mem_of_getElem? (i := 10) rfl))) Via.refl e18 Fol (g := (mkF m 23 #[.val (.ref a), .val (.ref o), .val (.int pp), .val (.int (1 : Int32))] [(.ref o), (.long al1)])) rfl rfl (hb hby d3_23)
      refine own_st (T' := T19) (F' := (mkF m 26 #[.val (.ref a), .val (.ref o), .val (.int pp), .val (.int (1 : Int32))] [(.ref ol), (.long al1)])) (st19) ?_
      refine own_st (T' := T19) (F' := (mkF m 27 #[.val (.ref a), .val (.ref o), .val (.int pp), .val (.int (1 : Int32))] [(.int (1 : Int32)), (.ref ol), (.long al1)])) (fun _ kq => XS.iloadN X19.here hx rfl (hb hby d3_26) rfl kq) ?_
      refine own_st (T' := T19) (F' := (mkF m 28 #[.val (.ref a), .val (.ref o), .val (.int pp), .val (.int (1 : Int32))] [(.long ol1), (.long al1)])) (own_laload X19 hx hZ e19 Vol (g := (mkF m 27 #[.val (.ref a), .val (.ref o), .val (.int pp), .val (.int (1 : Int32))] [(.int (1 : Int32)), (.ref ol), (.long al1)])) rfl rfl (hb hby d3_27) (by decide) (Nat.le_of_ble_eq_true rfl) (w := ol1) rfl) ?_
      refine own_st (T' := T19) (F' := (mkF m 29 #[.val (.ref a), .val (.ref o), .val (.int pp), .val (.int (1 : Int32))] [(.int (lcmpW al1 ol1))])) (fun _ kq => XS.lcmp X19.here hx rfl (hb hby d3_28) rfl kq) ?_
      by_cases hc29_20 : al1 = ol1
      ·
        rw [if_pos hc29_20]
        refine own_st (T' := T19) (F' := (mkF m 32 #[.val (.ref a), .val (.ref o), .val (.int pp), .val (.int (1 : Int32))] [])) (fun _ kq => XS.ifNo X19.here hx rfl (hb hby d3_29) rfl ((if0 _ _).trans (teq ((lw_eq al1 ol1).mpr hc29_20)).2) kq) ?_
        refine own_st (T' := T19) (F' := (mkF m 33 #[.val (.ref a), .val (.ref o), .val (.int pp), .val (.int (1 : Int32))] [(.ref a)])) (fun _ kq => XS.aloadN X19.here hx rfl (hb hby d3_32) rfl rfl kq) ?_
        obtain ⟨T21, X21, e21, st21⟩ := getF X19 hx hZ hown (host := "") (Or.inl (hw _ (List.mem_of_getElem? (i := 12) rfl))) Via.refl e19 Fah (g := (mkF m 33 #[.val (.ref a), .val (.ref o), .val (.int pp), .val (.int (1 : Int32))] [(.ref a)])) rfl rfl (hb hby d3_33)
        refine own_st (T' := T21) (F' := (mkF m 36 #[.val (.ref a), .val (.ref o), .val (.int pp), .val (.int (1 : Int32))] [(.ref ah)])) (st21) ?_
        refine own_st (T' := T21) (F' := (mkF m 37 #[.val (.ref a), .val (.ref o), .val (.int pp), .val (.int (1 : Int32))] [(.int (1 : Int32)), (.ref ah)])) (fun _ kq => XS.iloadN X21.here hx rfl (hb hby d3_36) rfl kq) ?_
        refine own_st (T' := T21) (F' := (mkF m 38 #[.val (.ref a), .val (.ref o), .val (.int pp), .val (.int (1 : Int32))] [(.long ah1)])) (own_laload X21 hx hZ e21 Vah (g := (mkF m 37 #[.val (.ref a), .val (.ref o), .val (.int pp), .val (.int (1 : Int32))] [(.int (1 : Int32)), (.ref ah)])) rfl rfl (hb hby d3_37) (by decide) (Nat.le_of_ble_eq_true rfl) (w := ah1) rfl) ?_
        refine own_st (T' := T21) (F' := (mkF m 39 #[.val (.ref a), .val (.ref o), .val (.int pp), .val (.int (1 : Int32))] [(.ref o), (.long ah1)])) (fun _ kq => XS.aloadN X21.here hx rfl (hb hby d3_38) rfl rfl kq) ?_
        obtain ⟨T22, X22, e22, st22⟩ := getF X21 hx hZ hown (host := "") (Or.inl (hw _ (List.mem_of_getElem? (i := 12) rfl))) Via.refl e21 Foh (g := (mkF m 39 #[.val (.ref a), .val (.ref o), .val (.int pp), .val (.int (1 : Int32))] [(.ref o), (.long ah1)])) rfl rfl (hb hby d3_39)
        refine own_st (T' := T22) (F' := (mkF m 42 #[.val (.ref a), .val (.ref o), .val (.int pp), .val (.int (1 : Int32))] [(.ref oh), (.long ah1)])) (st22) ?_
        refine own_st (T' := T22) (F' := (mkF m 43 #[.val (.ref a), .val (.ref o), .val (.int pp), .val (.int (1 : Int32))] [(.int (1 : Int32)), (.ref oh), (.long ah1)])) (fun _ kq => XS.iloadN X22.here hx rfl (hb hby d3_42) rfl kq) ?_
        refine own_st (T' := T22) (F' := (mkF m 44 #[.val (.ref a), .val (.ref o), .val (.int pp), .val (.int (1 : Int32))] [(.long oh1), (.long ah1)])) (own_laload X22 hx hZ e22 Voh (g := (mkF m 43 #[.val (.ref a), .val (.ref o), .val (.int pp), .val (.int (1 : Int32))] [(.int (1 : Int32)), (.ref oh), (.long ah1)])) rfl rfl (hb hby d3_43) (by decide) (Nat.le_of_ble_eq_true rfl) (w := oh1) rfl) ?_
        refine own_st (T' := T22) (F' := (mkF m 45 #[.val (.ref a), .val (.ref o), .val (.int pp), .val (.int (1 : Int32))] [(.int (lcmpW ah1 oh1))])) (fun _ kq => XS.lcmp X22.here hx rfl (hb hby d3_44) rfl kq) ?_
        by_cases hc45_23 : ah1 = oh1
        ·
          rw [if_pos hc45_23]
          refine own_st (T' := T22) (F' := (mkF m 50 #[.val (.ref a), .val (.ref o), .val (.int pp), .val (.int (1 : Int32))] [])) (fun _ kq => XS.ifYes X22.here hx rfl (pc0 := 45) (pc' := 50) rfl (hb hby d3_45) rfl ((if0 _ _).trans (teq ((lw_eq ah1 oh1).mpr hc45_23)).1) (by decide) (by decide) kq) ?_
          refine own_st (T' := T22) (F' := (mkF m 53 #[.val (.ref a), .val (.ref o), .val (.int pp), .val (.int (2 : Int32))] [])) (fun _ kq => XS.iinc X22.here hx rfl (hb hby d3_50) rfl (l' := #[.val (.ref a), .val (.ref o), .val (.int pp), .val (.int (2 : Int32))]) rfl kq) ?_
          refine own_st (T' := T22) (F' := (mkF m 2 #[.val (.ref a), .val (.ref o), .val (.int pp), .val (.int (2 : Int32))] [])) (fun _ kq => XS.goto X22.here hx rfl (pc0 := 53) (pc' := 2) rfl (hb hby d3_53) (by decide) (by decide) kq) ?_
          exact J2k2  T22 _ X22 e22 N
        ·
          rw [if_neg hc45_23]
          refine own_st (T' := T22) (F' := (mkF m 48 #[.val (.ref a), .val (.ref o), .val (.int pp), .val (.int (1 : Int32))] [])) (fun _ kq => XS.ifNo X22.here hx rfl (hb hby d3_45) rfl ((if0 _ _).trans (feq (mt (lw_eq ah1 oh1).mp hc45_23)).1) kq) ?_
          refine own_st (T' := T22) (F' := (mkF m 49 #[.val (.ref a), .val (.ref o), .val (.int pp), .val (.int (1 : Int32))] [(.int (0 : Int32))])) (fun _ kq => XS.iconst X22.here hx rfl (hb hby d3_48) kq) ?_
          exact own_retN X22 hx hlk hret (by simp) (hb hby d3_49) (by decide) (by decide) (own_PQi rfl N e22)
      ·
        rw [if_neg hc29_20]
        refine own_st (T' := T19) (F' := (mkF m 48 #[.val (.ref a), .val (.ref o), .val (.int pp), .val (.int (1 : Int32))] [])) (fun _ kq => XS.ifYes X19.here hx rfl (pc0 := 29) (pc' := 48) rfl (hb hby d3_29) rfl ((if0 _ _).trans (feq (mt (lw_eq al1 ol1).mp hc29_20)).2) (by decide) (by decide) kq) ?_
        refine own_st (T' := T19) (F' := (mkF m 49 #[.val (.ref a), .val (.ref o), .val (.int pp), .val (.int (1 : Int32))] [(.int (0 : Int32))])) (fun _ kq => XS.iconst X19.here hx rfl (hb hby d3_48) kq) ?_
        exact own_retN X19 hx hlk hret (by simp) (hb hby d3_49) (by decide) (by decide) (own_PQi rfl N e19)
  have J2k0 : ∀ (T : State) (locs : List Loc) (X : Stand p l e ({ frames := 0, cells := 0, slots := 0, locals := 0 } : Room) s m #[(.ref a), (.ref o), (.int pp)] below meth c T locs 0 0) (eT : T.heap = h0) (N : Fr n0 locs), own_Ends p e below s 0 0 (own_PQ (.int (f3_2k0 pp al0 al1 ah0 ah1 ol0 ol1 oh0 oh1)) h0 n0) T (mkF m 2 #[.val (.ref a), .val (.ref o), .val (.int pp), .val (.int (0 : Int32))] []) := by
    intro T locs X eT N
    unfold f3_2k0
    refine own_st (T' := T) (F' := (mkF m 3 #[.val (.ref a), .val (.ref o), .val (.int pp), .val (.int (0 : Int32))] [(.int (0 : Int32))])) (fun _ kq => XS.iloadN X.here hx rfl (hb hby d3_2) rfl kq) ?_
    refine own_st (T' := T) (F' := (mkF m 4 #[.val (.ref a), .val (.ref o), .val (.int pp), .val (.int (0 : Int32))] [(.ref a), (.int (0 : Int32))])) (fun _ kq => XS.aloadN X.here hx rfl (hb hby d3_3) rfl rfl kq) ?_
    obtain ⟨T24, X24, e24, st24⟩ := getF X hx hZ hown (host := "") (Or.inl (hw _ (List.mem_of_getElem? (i := 10) rfl))) Via.refl eT Fal (g := (mkF m 4 #[.val (.ref a), .val (.ref o), .val (.int pp), .val (.int (0 : Int32))] [(.ref a), (.int (0 : Int32))])) rfl rfl (hb hby d3_4)
    refine own_st (T' := T24) (F' := (mkF m 7 #[.val (.ref a), .val (.ref o), .val (.int pp), .val (.int (0 : Int32))] [(.ref al), (.int (0 : Int32))])) (st24) ?_
    refine own_st (T' := T24) (F' := (mkF m 8 #[.val (.ref a), .val (.ref o), .val (.int pp), .val (.int (0 : Int32))] [(.int (2 : Int32)), (.int (0 : Int32))])) (own_lenJ X24 hx hZ e24 Val (g := (mkF m 7 #[.val (.ref a), .val (.ref o), .val (.int pp), .val (.int (0 : Int32))] [(.ref al), (.int (0 : Int32))])) rfl rfl (hb hby d3_7)) ?_
    refine own_st (T' := T24) (F' := (mkF m 11 #[.val (.ref a), .val (.ref o), .val (.int pp), .val (.int (0 : Int32))] [])) (fun _ kq => XS.icmpNo X24.here hx rfl (hb hby d3_8) rfl (tlt (by decide : (0 : Int32) < (2 : Int32))).2.1 kq) ?_
    refine own_st (T' := T24) (F' := (mkF m 12 #[.val (.ref a), .val (.ref o), .val (.int pp), .val (.int (0 : Int32))] [(.int (0 : Int32))])) (fun _ kq => XS.iloadN X24.here hx rfl (hb hby d3_11) rfl kq) ?_
    refine own_st (T' := T24) (F' := (mkF m 13 #[.val (.ref a), .val (.ref o), .val (.int pp), .val (.int (0 : Int32))] [(.int pp), (.int (0 : Int32))])) (fun _ kq => XS.iloadN X24.here hx rfl (hb hby d3_12) rfl kq) ?_
    by_cases hc13_25 : (0 : Int32) = pp
    ·
      rw [if_pos hc13_25]
      refine own_st (T' := T24) (F' := (mkF m 50 #[.val (.ref a), .val (.ref o), .val (.int pp), .val (.int (0 : Int32))] [])) (fun _ kq => XS.icmpYes X24.here hx rfl (pc0 := 13) (pc' := 50) rfl (hb hby d3_13) rfl (teq hc13_25).1 (by decide) (by decide) kq) ?_
      refine own_st (T' := T24) (F' := (mkF m 53 #[.val (.ref a), .val (.ref o), .val (.int pp), .val (.int (1 : Int32))] [])) (fun _ kq => XS.iinc X24.here hx rfl (hb hby d3_50) rfl (l' := #[.val (.ref a), .val (.ref o), .val (.int pp), .val (.int (1 : Int32))]) rfl kq) ?_
      refine own_st (T' := T24) (F' := (mkF m 2 #[.val (.ref a), .val (.ref o), .val (.int pp), .val (.int (1 : Int32))] [])) (fun _ kq => XS.goto X24.here hx rfl (pc0 := 53) (pc' := 2) rfl (hb hby d3_53) (by decide) (by decide) kq) ?_
      exact J2k1  T24 _ X24 e24 N
    ·
      rw [if_neg hc13_25]
      refine own_st (T' := T24) (F' := (mkF m 16 #[.val (.ref a), .val (.ref o), .val (.int pp), .val (.int (0 : Int32))] [])) (fun _ kq => XS.icmpNo X24.here hx rfl (hb hby d3_13) rfl (feq hc13_25).1 kq) ?_
      refine own_st (T' := T24) (F' := (mkF m 17 #[.val (.ref a), .val (.ref o), .val (.int pp), .val (.int (0 : Int32))] [(.ref a)])) (fun _ kq => XS.aloadN X24.here hx rfl (hb hby d3_16) rfl rfl kq) ?_
      obtain ⟨T26, X26, e26, st26⟩ := getF X24 hx hZ hown (host := "") (Or.inl (hw _ (List.mem_of_getElem? (i := 10) rfl))) Via.refl e24 Fal (g := (mkF m 17 #[.val (.ref a), .val (.ref o), .val (.int pp), .val (.int (0 : Int32))] [(.ref a)])) rfl rfl (hb hby d3_17)
      refine own_st (T' := T26) (F' := (mkF m 20 #[.val (.ref a), .val (.ref o), .val (.int pp), .val (.int (0 : Int32))] [(.ref al)])) (st26) ?_
      refine own_st (T' := T26) (F' := (mkF m 21 #[.val (.ref a), .val (.ref o), .val (.int pp), .val (.int (0 : Int32))] [(.int (0 : Int32)), (.ref al)])) (fun _ kq => XS.iloadN X26.here hx rfl (hb hby d3_20) rfl kq) ?_
      refine own_st (T' := T26) (F' := (mkF m 22 #[.val (.ref a), .val (.ref o), .val (.int pp), .val (.int (0 : Int32))] [(.long al0)])) (own_laload X26 hx hZ e26 Val (g := (mkF m 21 #[.val (.ref a), .val (.ref o), .val (.int pp), .val (.int (0 : Int32))] [(.int (0 : Int32)), (.ref al)])) rfl rfl (hb hby d3_21) (by decide) (Nat.le_of_ble_eq_true rfl) (w := al0) rfl) ?_
      refine own_st (T' := T26) (F' := (mkF m 23 #[.val (.ref a), .val (.ref o), .val (.int pp), .val (.int (0 : Int32))] [(.ref o), (.long al0)])) (fun _ kq => XS.aloadN X26.here hx rfl (hb hby d3_22) rfl rfl kq) ?_
      obtain ⟨T27, X27, e27, st27⟩ := getF X26 hx hZ hown (host := "") (Or.inl (hw _ (List.mem_of_getElem? (i := 10) rfl))) Via.refl e26 Fol (g := (mkF m 23 #[.val (.ref a), .val (.ref o), .val (.int pp), .val (.int (0 : Int32))] [(.ref o), (.long al0)])) rfl rfl (hb hby d3_23)
      refine own_st (T' := T27) (F' := (mkF m 26 #[.val (.ref a), .val (.ref o), .val (.int pp), .val (.int (0 : Int32))] [(.ref ol), (.long al0)])) (st27) ?_
      refine own_st (T' := T27) (F' := (mkF m 27 #[.val (.ref a), .val (.ref o), .val (.int pp), .val (.int (0 : Int32))] [(.int (0 : Int32)), (.ref ol), (.long al0)])) (fun _ kq => XS.iloadN X27.here hx rfl (hb hby d3_26) rfl kq) ?_
      refine own_st (T' := T27) (F' := (mkF m 28 #[.val (.ref a), .val (.ref o), .val (.int pp), .val (.int (0 : Int32))] [(.long ol0), (.long al0)])) (own_laload X27 hx hZ e27 Vol (g := (mkF m 27 #[.val (.ref a), .val (.ref o), .val (.int pp), .val (.int (0 : Int32))] [(.int (0 : Int32)), (.ref ol), (.long al0)])) rfl rfl (hb hby d3_27) (by decide) (Nat.le_of_ble_eq_true rfl) (w := ol0) rfl) ?_
      refine own_st (T' := T27) (F' := (mkF m 29 #[.val (.ref a), .val (.ref o), .val (.int pp), .val (.int (0 : Int32))] [(.int (lcmpW al0 ol0))])) (fun _ kq => XS.lcmp X27.here hx rfl (hb hby d3_28) rfl kq) ?_
      by_cases hc29_28 : al0 = ol0
      ·
        rw [if_pos hc29_28]
        refine own_st (T' := T27) (F' := (mkF m 32 #[.val (.ref a), .val (.ref o), .val (.int pp), .val (.int (0 : Int32))] [])) (fun _ kq => XS.ifNo X27.here hx rfl (hb hby d3_29) rfl ((if0 _ _).trans (teq ((lw_eq al0 ol0).mpr hc29_28)).2) kq) ?_
        refine own_st (T' := T27) (F' := (mkF m 33 #[.val (.ref a), .val (.ref o), .val (.int pp), .val (.int (0 : Int32))] [(.ref a)])) (fun _ kq => XS.aloadN X27.here hx rfl (hb hby d3_32) rfl rfl kq) ?_
        obtain ⟨T29, X29, e29, st29⟩ := getF X27 hx hZ hown (host := "") (Or.inl (hw _ (List.mem_of_getElem? (i := 12) rfl))) Via.refl e27 Fah (g := (mkF m 33 #[.val (.ref a), .val (.ref o), .val (.int pp), .val (.int (0 : Int32))] [(.ref a)])) rfl rfl (hb hby d3_33)
        refine own_st (T' := T29) (F' := (mkF m 36 #[.val (.ref a), .val (.ref o), .val (.int pp), .val (.int (0 : Int32))] [(.ref ah)])) (st29) ?_
        refine own_st (T' := T29) (F' := (mkF m 37 #[.val (.ref a), .val (.ref o), .val (.int pp), .val (.int (0 : Int32))] [(.int (0 : Int32)), (.ref ah)])) (fun _ kq => XS.iloadN X29.here hx rfl (hb hby d3_36) rfl kq) ?_
        refine own_st (T' := T29) (F' := (mkF m 38 #[.val (.ref a), .val (.ref o), .val (.int pp), .val (.int (0 : Int32))] [(.long ah0)])) (own_laload X29 hx hZ e29 Vah (g := (mkF m 37 #[.val (.ref a), .val (.ref o), .val (.int pp), .val (.int (0 : Int32))] [(.int (0 : Int32)), (.ref ah)])) rfl rfl (hb hby d3_37) (by decide) (Nat.le_of_ble_eq_true rfl) (w := ah0) rfl) ?_
        refine own_st (T' := T29) (F' := (mkF m 39 #[.val (.ref a), .val (.ref o), .val (.int pp), .val (.int (0 : Int32))] [(.ref o), (.long ah0)])) (fun _ kq => XS.aloadN X29.here hx rfl (hb hby d3_38) rfl rfl kq) ?_
        obtain ⟨T30, X30, e30, st30⟩ := getF X29 hx hZ hown (host := "") (Or.inl (hw _ (List.mem_of_getElem? (i := 12) rfl))) Via.refl e29 Foh (g := (mkF m 39 #[.val (.ref a), .val (.ref o), .val (.int pp), .val (.int (0 : Int32))] [(.ref o), (.long ah0)])) rfl rfl (hb hby d3_39)
        refine own_st (T' := T30) (F' := (mkF m 42 #[.val (.ref a), .val (.ref o), .val (.int pp), .val (.int (0 : Int32))] [(.ref oh), (.long ah0)])) (st30) ?_
        refine own_st (T' := T30) (F' := (mkF m 43 #[.val (.ref a), .val (.ref o), .val (.int pp), .val (.int (0 : Int32))] [(.int (0 : Int32)), (.ref oh), (.long ah0)])) (fun _ kq => XS.iloadN X30.here hx rfl (hb hby d3_42) rfl kq) ?_
        refine own_st (T' := T30) (F' := (mkF m 44 #[.val (.ref a), .val (.ref o), .val (.int pp), .val (.int (0 : Int32))] [(.long oh0), (.long ah0)])) (own_laload X30 hx hZ e30 Voh (g := (mkF m 43 #[.val (.ref a), .val (.ref o), .val (.int pp), .val (.int (0 : Int32))] [(.int (0 : Int32)), (.ref oh), (.long ah0)])) rfl rfl (hb hby d3_43) (by decide) (Nat.le_of_ble_eq_true rfl) (w := oh0) rfl) ?_
        refine own_st (T' := T30) (F' := (mkF m 45 #[.val (.ref a), .val (.ref o), .val (.int pp), .val (.int (0 : Int32))] [(.int (lcmpW ah0 oh0))])) (fun _ kq => XS.lcmp X30.here hx rfl (hb hby d3_44) rfl kq) ?_
        by_cases hc45_31 : ah0 = oh0
        ·
          rw [if_pos hc45_31]
          refine own_st (T' := T30) (F' := (mkF m 50 #[.val (.ref a), .val (.ref o), .val (.int pp), .val (.int (0 : Int32))] [])) (fun _ kq => XS.ifYes X30.here hx rfl (pc0 := 45) (pc' := 50) rfl (hb hby d3_45) rfl ((if0 _ _).trans (teq ((lw_eq ah0 oh0).mpr hc45_31)).1) (by decide) (by decide) kq) ?_
          refine own_st (T' := T30) (F' := (mkF m 53 #[.val (.ref a), .val (.ref o), .val (.int pp), .val (.int (1 : Int32))] [])) (fun _ kq => XS.iinc X30.here hx rfl (hb hby d3_50) rfl (l' := #[.val (.ref a), .val (.ref o), .val (.int pp), .val (.int (1 : Int32))]) rfl kq) ?_
          refine own_st (T' := T30) (F' := (mkF m 2 #[.val (.ref a), .val (.ref o), .val (.int pp), .val (.int (1 : Int32))] [])) (fun _ kq => XS.goto X30.here hx rfl (pc0 := 53) (pc' := 2) rfl (hb hby d3_53) (by decide) (by decide) kq) ?_
          exact J2k1  T30 _ X30 e30 N
        ·
          rw [if_neg hc45_31]
          refine own_st (T' := T30) (F' := (mkF m 48 #[.val (.ref a), .val (.ref o), .val (.int pp), .val (.int (0 : Int32))] [])) (fun _ kq => XS.ifNo X30.here hx rfl (hb hby d3_45) rfl ((if0 _ _).trans (feq (mt (lw_eq ah0 oh0).mp hc45_31)).1) kq) ?_
          refine own_st (T' := T30) (F' := (mkF m 49 #[.val (.ref a), .val (.ref o), .val (.int pp), .val (.int (0 : Int32))] [(.int (0 : Int32))])) (fun _ kq => XS.iconst X30.here hx rfl (hb hby d3_48) kq) ?_
          exact own_retN X30 hx hlk hret (by simp) (hb hby d3_49) (by decide) (by decide) (own_PQi rfl N e30)
      ·
        rw [if_neg hc29_28]
        refine own_st (T' := T27) (F' := (mkF m 48 #[.val (.ref a), .val (.ref o), .val (.int pp), .val (.int (0 : Int32))] [])) (fun _ kq => XS.ifYes X27.here hx rfl (pc0 := 29) (pc' := 48) rfl (hb hby d3_29) rfl ((if0 _ _).trans (feq (mt (lw_eq al0 ol0).mp hc29_28)).2) (by decide) (by decide) kq) ?_
        refine own_st (T' := T27) (F' := (mkF m 49 #[.val (.ref a), .val (.ref o), .val (.int pp), .val (.int (0 : Int32))] [(.int (0 : Int32))])) (fun _ kq => XS.iconst X27.here hx rfl (hb hby d3_48) kq) ?_
        exact own_retN X27 hx hlk hret (by simp) (hb hby d3_49) (by decide) (by decide) (own_PQi rfl N e27)
  have N := Fr.nil n0
  refine own_entry (ef3 m a o pp) ?_
  unfold f3
  refine own_st (T' := T) (F' := (mkF m 1 #[.val (.ref a), .val (.ref o), .val (.int pp), .unset] [(.int (0 : Int32))])) (fun _ kq => XS.iconst X.here hx rfl (hb hby d3_0) kq) ?_
  refine own_st (T' := T) (F' := (mkF m 2 #[.val (.ref a), .val (.ref o), .val (.int pp), .val (.int (0 : Int32))] [])) (fun _ kq => XS.istoreN X.here hx rfl (hb hby d3_1) rfl (l' := #[.val (.ref a), .val (.ref o), .val (.int pp), .val (.int (0 : Int32))]) rfl kq) ?_
  exact J2k0  T _ X eT N
theorem own_ne1 (z : Int64) : ¬ z = z + 1 := by
  intro h
  have h2 := c_ladd z 1
  rw [← h] at h2
  have e1 : (1 : Int64).toInt = 1 := rfl
  omega
theorem own_law {d0 d1 d2 d3 pp s0 s1 E : Int32} {x0 x1 y0 y1 u0 u1 w0 w1 : Int64} (h1 : (if d0 = (0 : Int32) then x0 else (x0 + (1 : Int64))) = u0) (h2 : (if d2 = (0 : Int32) then x1 else (x1 + (1 : Int64))) = u1) (h3 : (if d1 = (0 : Int32) then y0 else (y0 + (1 : Int64))) = w0) (h4 : (if d3 = (0 : Int32) then y1 else (y1 + (1 : Int64))) = w1)
    (h5 : (if d0 = (0 : Int32) then (if d1 = (0 : Int32) then (1 : Int32) else (0 : Int32)) else (0 : Int32)) = s0) (h6 : (if d2 = (0 : Int32) then (if d3 = (0 : Int32) then (1 : Int32) else (0 : Int32)) else (0 : Int32)) = s1)
    (h7 : (if pp = (0 : Int32) then (if pp = (1 : Int32) then (1 : Int32) else (if s1 = (0 : Int32) then (0 : Int32) else (1 : Int32))) else (if s0 = (0 : Int32) then (0 : Int32) else (if pp = (1 : Int32) then (1 : Int32) else (if s1 = (0 : Int32) then (0 : Int32) else (1 : Int32))))) = E) :
    f3 pp x0 x1 y0 y1 u0 u1 w0 w1 = E := by
  subst h1 h2 h3 h4 h5 h6 h7
  unfold f3 f3_2k0 f3_2k1 f3_2k2
  by_cases a0 : d0 = 0 <;> by_cases a1 : d1 = 0 <;> by_cases a2 : d2 = 0 <;> by_cases a3 : d3 = 0 <;> by_cases p0 : pp = 0 <;> by_cases p1 : pp = 1 <;> simp [a0, a1, a2, a3, p0, p1, own_ne1, eq_comm (a := (0 : Int32)) (b := pp), eq_comm (a := (1 : Int32)) (b := pp)]
theorem ef0 (m : MethodId) (x0 : Int64) (x1 : Int64) (x2 : Int64) (x3 : Int64) (x4 : Int32) (x5 : Int32) : entryFrame m #[(.long x0), (.long x1), (.long x2), (.long x3), (.int x4), (.int x5)] maxLocals = mkF m 0 #[.val (.long x0), .second, .val (.long x1), .second, .val (.long x2), .second, .val (.long x3), .second, .val (.int x4), .val (.int x5), .unset, .unset, .unset, .unset, .unset, .unset, .unset, .unset, .unset, .unset, .unset, .unset, .unset] [] := by first | (simp [entryFrame, mkF, argsToLocals, Value.category, maxLocals]; done) | rfl
theorem pn1 : plainName "com/example/forest_grammar/forestgrammar/languages/BoxWholeButPinLaw" = true := by first | (simp [plainName, overriddenIn]; done) | decide +kernel
theorem pd0 : parseMethodDescriptor "([J[J)V" = some ⟨[(.array .long), (.array .long)], none⟩ := by decide +kernel
theorem pd1 : parseMethodDescriptor "(Lcom/example/forest_grammar/forestgrammar/languages/Family$Box;I)Z" = some ⟨[(.object "com/example/forest_grammar/forestgrammar/languages/Family$Box"), .int], some .boolean⟩ := by decide +kernel
set_option maxRecDepth 65536 in
set_option maxHeartbeats 80000000 in
theorem rm0 (l : Launch) (Z : State) (a0 : Array Value) (hw : ∀ d ∈ tables_1, d.before a0 Z = true) (ws : List Jvm.Cond) (x0 : Int64) (x1 : Int64) (y0 : Int64) (y1 : Int64) (fl : Int32) (pp : Int32) (h0 : Heap) (n0 : Nat) (Z0 : n0 ≤ h0.size) :
    own_Met l Z x code maxLocals ret ws room_1 #[(.long x0), (.long x1), (.long y0), (.long y1), (.int fl), (.int pp)] h0 (fun v h L => v = some (.int 1) ∧ Fr n0 L) := by
  refine own_body (plainFor_of_name pn1) ?_
  intro p e s m below meth c T0 X0 hx hby hml hret hlk hZ hown hnm e0
  replace hml : c.maxLocals = 23 := hml
  have N0 := Fr.nil n0
  refine own_entry (ef0 m x0 x1 y0 y1 fl pp) ?_
  refine own_st (T' := T0) (F' := (mkF m 2 #[.val (.long x0), .second, .val (.long x1), .second, .val (.long y0), .second, .val (.long y1), .second, .val (.int fl), .val (.int pp), .unset, .unset, .unset, .unset, .unset, .unset, .unset, .unset, .unset, .unset, .unset, .unset, .unset] [(.int fl)])) (fun _ kq => XS.iload X0.here hx rfl (hb hby at_0) rfl kq) ?_
  refine own_st (T' := T0) (F' := (mkF m 3 #[.val (.long x0), .second, .val (.long x1), .second, .val (.long y0), .second, .val (.long y1), .second, .val (.int fl), .val (.int pp), .unset, .unset, .unset, .unset, .unset, .unset, .unset, .unset, .unset, .unset, .unset, .unset, .unset] [(.int (1 : Int32)), (.int fl)])) (fun _ kq => XS.iconst X0.here hx rfl (hb hby at_2) kq) ?_
  refine own_st (T' := T0) (F' := (mkF m 4 #[.val (.long x0), .second, .val (.long x1), .second, .val (.long y0), .second, .val (.long y1), .second, .val (.int fl), .val (.int pp), .unset, .unset, .unset, .unset, .unset, .unset, .unset, .unset, .unset, .unset, .unset, .unset, .unset] [(.int (fl &&& (1 : Int32)))])) (fun _ kq => XS.iand X0.here hx rfl (hb hby at_3) rfl kq) ?_
  suffices k : own_Ends p e below s room_1.cells room_1.slots (fun v h L => v = some (.int 1) ∧ Fr n0 L) T0 (mkF m 12 #[.val (.long x0), .second, .val (.long x1), .second, .val (.long y0), .second, .val (.long y1), .second, .val (.int fl), .val (.int pp), .unset, .unset, .unset, .unset, .unset, .unset, .unset, .unset, .unset, .unset, .unset, .unset, .unset] [(.int (if (fl &&& (1 : Int32)) = (0 : Int32) then (0 : Int32) else (1 : Int32)))]) by
    by_cases hc4_32 : (fl &&& (1 : Int32)) = (0 : Int32)
    ·
      rw [if_pos hc4_32] at k
      refine own_st (T' := T0) (F' := (mkF m 11 #[.val (.long x0), .second, .val (.long x1), .second, .val (.long y0), .second, .val (.long y1), .second, .val (.int fl), .val (.int pp), .unset, .unset, .unset, .unset, .unset, .unset, .unset, .unset, .unset, .unset, .unset, .unset, .unset] [])) (fun _ kq => XS.ifYes X0.here hx rfl (pc0 := 4) (pc' := 11) rfl (hb hby at_4) rfl ((if0 _ _).trans (teq hc4_32).1) (by decide) (by decide) kq) ?_
      refine own_st (T' := T0) (F' := (mkF m 12 #[.val (.long x0), .second, .val (.long x1), .second, .val (.long y0), .second, .val (.long y1), .second, .val (.int fl), .val (.int pp), .unset, .unset, .unset, .unset, .unset, .unset, .unset, .unset, .unset, .unset, .unset, .unset, .unset] [(.int (0 : Int32))])) (fun _ kq => XS.iconst X0.here hx rfl (hb hby at_11) kq) ?_
      exact k
    ·
      rw [if_neg hc4_32] at k
      refine own_st (T' := T0) (F' := (mkF m 7 #[.val (.long x0), .second, .val (.long x1), .second, .val (.long y0), .second, .val (.long y1), .second, .val (.int fl), .val (.int pp), .unset, .unset, .unset, .unset, .unset, .unset, .unset, .unset, .unset, .unset, .unset, .unset, .unset] [])) (fun _ kq => XS.ifNo X0.here hx rfl (hb hby at_4) rfl ((if0 _ _).trans (feq hc4_32).1) kq) ?_
      refine own_st (T' := T0) (F' := (mkF m 8 #[.val (.long x0), .second, .val (.long x1), .second, .val (.long y0), .second, .val (.long y1), .second, .val (.int fl), .val (.int pp), .unset, .unset, .unset, .unset, .unset, .unset, .unset, .unset, .unset, .unset, .unset, .unset, .unset] [(.int (1 : Int32))])) (fun _ kq => XS.iconst X0.here hx rfl (hb hby at_7) kq) ?_
      refine own_st (T' := T0) (F' := (mkF m 12 #[.val (.long x0), .second, .val (.long x1), .second, .val (.long y0), .second, .val (.long y1), .second, .val (.int fl), .val (.int pp), .unset, .unset, .unset, .unset, .unset, .unset, .unset, .unset, .unset, .unset, .unset, .unset, .unset] [(.int (1 : Int32))])) (fun _ kq => XS.goto X0.here hx rfl (pc0 := 8) (pc' := 12) rfl (hb hby at_8) (by decide) (by decide) kq) ?_
      exact k
  generalize hv33 : (if (fl &&& (1 : Int32)) = (0 : Int32) then (0 : Int32) else (1 : Int32)) = v33
  refine own_st (T' := T0) (F' := (mkF m 14 #[.val (.long x0), .second, .val (.long x1), .second, .val (.long y0), .second, .val (.long y1), .second, .val (.int fl), .val (.int pp), .val (.int v33), .unset, .unset, .unset, .unset, .unset, .unset, .unset, .unset, .unset, .unset, .unset, .unset] [])) (fun _ kq => XS.istore X0.here hx rfl (hb hby at_12) rfl (l' := #[.val (.long x0), .second, .val (.long x1), .second, .val (.long y0), .second, .val (.long y1), .second, .val (.int fl), .val (.int pp), .val (.int v33), .unset, .unset, .unset, .unset, .unset, .unset, .unset, .unset, .unset, .unset, .unset, .unset]) rfl kq) ?_
  refine own_st (T' := T0) (F' := (mkF m 16 #[.val (.long x0), .second, .val (.long x1), .second, .val (.long y0), .second, .val (.long y1), .second, .val (.int fl), .val (.int pp), .val (.int v33), .unset, .unset, .unset, .unset, .unset, .unset, .unset, .unset, .unset, .unset, .unset, .unset] [(.int fl)])) (fun _ kq => XS.iload X0.here hx rfl (hb hby at_14) rfl kq) ?_
  refine own_st (T' := T0) (F' := (mkF m 17 #[.val (.long x0), .second, .val (.long x1), .second, .val (.long y0), .second, .val (.long y1), .second, .val (.int fl), .val (.int pp), .val (.int v33), .unset, .unset, .unset, .unset, .unset, .unset, .unset, .unset, .unset, .unset, .unset, .unset] [(.int (2 : Int32)), (.int fl)])) (fun _ kq => XS.iconst X0.here hx rfl (hb hby at_16) kq) ?_
  refine own_st (T' := T0) (F' := (mkF m 18 #[.val (.long x0), .second, .val (.long x1), .second, .val (.long y0), .second, .val (.long y1), .second, .val (.int fl), .val (.int pp), .val (.int v33), .unset, .unset, .unset, .unset, .unset, .unset, .unset, .unset, .unset, .unset, .unset, .unset] [(.int (fl &&& (2 : Int32)))])) (fun _ kq => XS.iand X0.here hx rfl (hb hby at_17) rfl kq) ?_
  suffices k : own_Ends p e below s room_1.cells room_1.slots (fun v h L => v = some (.int 1) ∧ Fr n0 L) T0 (mkF m 26 #[.val (.long x0), .second, .val (.long x1), .second, .val (.long y0), .second, .val (.long y1), .second, .val (.int fl), .val (.int pp), .val (.int v33), .unset, .unset, .unset, .unset, .unset, .unset, .unset, .unset, .unset, .unset, .unset, .unset] [(.int (if (fl &&& (2 : Int32)) = (0 : Int32) then (0 : Int32) else (1 : Int32)))]) by
    by_cases hc18_34 : (fl &&& (2 : Int32)) = (0 : Int32)
    ·
      rw [if_pos hc18_34] at k
      refine own_st (T' := T0) (F' := (mkF m 25 #[.val (.long x0), .second, .val (.long x1), .second, .val (.long y0), .second, .val (.long y1), .second, .val (.int fl), .val (.int pp), .val (.int v33), .unset, .unset, .unset, .unset, .unset, .unset, .unset, .unset, .unset, .unset, .unset, .unset] [])) (fun _ kq => XS.ifYes X0.here hx rfl (pc0 := 18) (pc' := 25) rfl (hb hby at_18) rfl ((if0 _ _).trans (teq hc18_34).1) (by decide) (by decide) kq) ?_
      refine own_st (T' := T0) (F' := (mkF m 26 #[.val (.long x0), .second, .val (.long x1), .second, .val (.long y0), .second, .val (.long y1), .second, .val (.int fl), .val (.int pp), .val (.int v33), .unset, .unset, .unset, .unset, .unset, .unset, .unset, .unset, .unset, .unset, .unset, .unset] [(.int (0 : Int32))])) (fun _ kq => XS.iconst X0.here hx rfl (hb hby at_25) kq) ?_
      exact k
    ·
      rw [if_neg hc18_34] at k
      refine own_st (T' := T0) (F' := (mkF m 21 #[.val (.long x0), .second, .val (.long x1), .second, .val (.long y0), .second, .val (.long y1), .second, .val (.int fl), .val (.int pp), .val (.int v33), .unset, .unset, .unset, .unset, .unset, .unset, .unset, .unset, .unset, .unset, .unset, .unset] [])) (fun _ kq => XS.ifNo X0.here hx rfl (hb hby at_18) rfl ((if0 _ _).trans (feq hc18_34).1) kq) ?_
      refine own_st (T' := T0) (F' := (mkF m 22 #[.val (.long x0), .second, .val (.long x1), .second, .val (.long y0), .second, .val (.long y1), .second, .val (.int fl), .val (.int pp), .val (.int v33), .unset, .unset, .unset, .unset, .unset, .unset, .unset, .unset, .unset, .unset, .unset, .unset] [(.int (1 : Int32))])) (fun _ kq => XS.iconst X0.here hx rfl (hb hby at_21) kq) ?_
      refine own_st (T' := T0) (F' := (mkF m 26 #[.val (.long x0), .second, .val (.long x1), .second, .val (.long y0), .second, .val (.long y1), .second, .val (.int fl), .val (.int pp), .val (.int v33), .unset, .unset, .unset, .unset, .unset, .unset, .unset, .unset, .unset, .unset, .unset, .unset] [(.int (1 : Int32))])) (fun _ kq => XS.goto X0.here hx rfl (pc0 := 22) (pc' := 26) rfl (hb hby at_22) (by decide) (by decide) kq) ?_
      exact k
  generalize hv35 : (if (fl &&& (2 : Int32)) = (0 : Int32) then (0 : Int32) else (1 : Int32)) = v35
  refine own_st (T' := T0) (F' := (mkF m 28 #[.val (.long x0), .second, .val (.long x1), .second, .val (.long y0), .second, .val (.long y1), .second, .val (.int fl), .val (.int pp), .val (.int v33), .val (.int v35), .unset, .unset, .unset, .unset, .unset, .unset, .unset, .unset, .unset, .unset, .unset] [])) (fun _ kq => XS.istore X0.here hx rfl (hb hby at_26) rfl (l' := #[.val (.long x0), .second, .val (.long x1), .second, .val (.long y0), .second, .val (.long y1), .second, .val (.int fl), .val (.int pp), .val (.int v33), .val (.int v35), .unset, .unset, .unset, .unset, .unset, .unset, .unset, .unset, .unset, .unset, .unset]) rfl kq) ?_
  refine own_st (T' := T0) (F' := (mkF m 30 #[.val (.long x0), .second, .val (.long x1), .second, .val (.long y0), .second, .val (.long y1), .second, .val (.int fl), .val (.int pp), .val (.int v33), .val (.int v35), .unset, .unset, .unset, .unset, .unset, .unset, .unset, .unset, .unset, .unset, .unset] [(.int fl)])) (fun _ kq => XS.iload X0.here hx rfl (hb hby at_28) rfl kq) ?_
  refine own_st (T' := T0) (F' := (mkF m 31 #[.val (.long x0), .second, .val (.long x1), .second, .val (.long y0), .second, .val (.long y1), .second, .val (.int fl), .val (.int pp), .val (.int v33), .val (.int v35), .unset, .unset, .unset, .unset, .unset, .unset, .unset, .unset, .unset, .unset, .unset] [(.int (4 : Int32)), (.int fl)])) (fun _ kq => XS.iconst X0.here hx rfl (hb hby at_30) kq) ?_
  refine own_st (T' := T0) (F' := (mkF m 32 #[.val (.long x0), .second, .val (.long x1), .second, .val (.long y0), .second, .val (.long y1), .second, .val (.int fl), .val (.int pp), .val (.int v33), .val (.int v35), .unset, .unset, .unset, .unset, .unset, .unset, .unset, .unset, .unset, .unset, .unset] [(.int (fl &&& (4 : Int32)))])) (fun _ kq => XS.iand X0.here hx rfl (hb hby at_31) rfl kq) ?_
  suffices k : own_Ends p e below s room_1.cells room_1.slots (fun v h L => v = some (.int 1) ∧ Fr n0 L) T0 (mkF m 40 #[.val (.long x0), .second, .val (.long x1), .second, .val (.long y0), .second, .val (.long y1), .second, .val (.int fl), .val (.int pp), .val (.int v33), .val (.int v35), .unset, .unset, .unset, .unset, .unset, .unset, .unset, .unset, .unset, .unset, .unset] [(.int (if (fl &&& (4 : Int32)) = (0 : Int32) then (0 : Int32) else (1 : Int32)))]) by
    by_cases hc32_36 : (fl &&& (4 : Int32)) = (0 : Int32)
    ·
      rw [if_pos hc32_36] at k
      refine own_st (T' := T0) (F' := (mkF m 39 #[.val (.long x0), .second, .val (.long x1), .second, .val (.long y0), .second, .val (.long y1), .second, .val (.int fl), .val (.int pp), .val (.int v33), .val (.int v35), .unset, .unset, .unset, .unset, .unset, .unset, .unset, .unset, .unset, .unset, .unset] [])) (fun _ kq => XS.ifYes X0.here hx rfl (pc0 := 32) (pc' := 39) rfl (hb hby at_32) rfl ((if0 _ _).trans (teq hc32_36).1) (by decide) (by decide) kq) ?_
      refine own_st (T' := T0) (F' := (mkF m 40 #[.val (.long x0), .second, .val (.long x1), .second, .val (.long y0), .second, .val (.long y1), .second, .val (.int fl), .val (.int pp), .val (.int v33), .val (.int v35), .unset, .unset, .unset, .unset, .unset, .unset, .unset, .unset, .unset, .unset, .unset] [(.int (0 : Int32))])) (fun _ kq => XS.iconst X0.here hx rfl (hb hby at_39) kq) ?_
      exact k
    ·
      rw [if_neg hc32_36] at k
      refine own_st (T' := T0) (F' := (mkF m 35 #[.val (.long x0), .second, .val (.long x1), .second, .val (.long y0), .second, .val (.long y1), .second, .val (.int fl), .val (.int pp), .val (.int v33), .val (.int v35), .unset, .unset, .unset, .unset, .unset, .unset, .unset, .unset, .unset, .unset, .unset] [])) (fun _ kq => XS.ifNo X0.here hx rfl (hb hby at_32) rfl ((if0 _ _).trans (feq hc32_36).1) kq) ?_
      refine own_st (T' := T0) (F' := (mkF m 36 #[.val (.long x0), .second, .val (.long x1), .second, .val (.long y0), .second, .val (.long y1), .second, .val (.int fl), .val (.int pp), .val (.int v33), .val (.int v35), .unset, .unset, .unset, .unset, .unset, .unset, .unset, .unset, .unset, .unset, .unset] [(.int (1 : Int32))])) (fun _ kq => XS.iconst X0.here hx rfl (hb hby at_35) kq) ?_
      refine own_st (T' := T0) (F' := (mkF m 40 #[.val (.long x0), .second, .val (.long x1), .second, .val (.long y0), .second, .val (.long y1), .second, .val (.int fl), .val (.int pp), .val (.int v33), .val (.int v35), .unset, .unset, .unset, .unset, .unset, .unset, .unset, .unset, .unset, .unset, .unset] [(.int (1 : Int32))])) (fun _ kq => XS.goto X0.here hx rfl (pc0 := 36) (pc' := 40) rfl (hb hby at_36) (by decide) (by decide) kq) ?_
      exact k
  generalize hv37 : (if (fl &&& (4 : Int32)) = (0 : Int32) then (0 : Int32) else (1 : Int32)) = v37
  refine own_st (T' := T0) (F' := (mkF m 42 #[.val (.long x0), .second, .val (.long x1), .second, .val (.long y0), .second, .val (.long y1), .second, .val (.int fl), .val (.int pp), .val (.int v33), .val (.int v35), .val (.int v37), .unset, .unset, .unset, .unset, .unset, .unset, .unset, .unset, .unset, .unset] [])) (fun _ kq => XS.istore X0.here hx rfl (hb hby at_40) rfl (l' := #[.val (.long x0), .second, .val (.long x1), .second, .val (.long y0), .second, .val (.long y1), .second, .val (.int fl), .val (.int pp), .val (.int v33), .val (.int v35), .val (.int v37), .unset, .unset, .unset, .unset, .unset, .unset, .unset, .unset, .unset, .unset]) rfl kq) ?_
  refine own_st (T' := T0) (F' := (mkF m 44 #[.val (.long x0), .second, .val (.long x1), .second, .val (.long y0), .second, .val (.long y1), .second, .val (.int fl), .val (.int pp), .val (.int v33), .val (.int v35), .val (.int v37), .unset, .unset, .unset, .unset, .unset, .unset, .unset, .unset, .unset, .unset] [(.int fl)])) (fun _ kq => XS.iload X0.here hx rfl (hb hby at_42) rfl kq) ?_
  refine own_st (T' := T0) (F' := (mkF m 46 #[.val (.long x0), .second, .val (.long x1), .second, .val (.long y0), .second, .val (.long y1), .second, .val (.int fl), .val (.int pp), .val (.int v33), .val (.int v35), .val (.int v37), .unset, .unset, .unset, .unset, .unset, .unset, .unset, .unset, .unset, .unset] [(.int (8 : Int32)), (.int fl)])) (fun _ kq => XS.bipush X0.here hx rfl (hb hby at_44) kq) ?_
  refine own_st (T' := T0) (F' := (mkF m 47 #[.val (.long x0), .second, .val (.long x1), .second, .val (.long y0), .second, .val (.long y1), .second, .val (.int fl), .val (.int pp), .val (.int v33), .val (.int v35), .val (.int v37), .unset, .unset, .unset, .unset, .unset, .unset, .unset, .unset, .unset, .unset] [(.int (fl &&& (8 : Int32)))])) (fun _ kq => XS.iand X0.here hx rfl (hb hby at_46) rfl kq) ?_
  suffices k : own_Ends p e below s room_1.cells room_1.slots (fun v h L => v = some (.int 1) ∧ Fr n0 L) T0 (mkF m 55 #[.val (.long x0), .second, .val (.long x1), .second, .val (.long y0), .second, .val (.long y1), .second, .val (.int fl), .val (.int pp), .val (.int v33), .val (.int v35), .val (.int v37), .unset, .unset, .unset, .unset, .unset, .unset, .unset, .unset, .unset, .unset] [(.int (if (fl &&& (8 : Int32)) = (0 : Int32) then (0 : Int32) else (1 : Int32)))]) by
    by_cases hc47_38 : (fl &&& (8 : Int32)) = (0 : Int32)
    ·
      rw [if_pos hc47_38] at k
      refine own_st (T' := T0) (F' := (mkF m 54 #[.val (.long x0), .second, .val (.long x1), .second, .val (.long y0), .second, .val (.long y1), .second, .val (.int fl), .val (.int pp), .val (.int v33), .val (.int v35), .val (.int v37), .unset, .unset, .unset, .unset, .unset, .unset, .unset, .unset, .unset, .unset] [])) (fun _ kq => XS.ifYes X0.here hx rfl (pc0 := 47) (pc' := 54) rfl (hb hby at_47) rfl ((if0 _ _).trans (teq hc47_38).1) (by decide) (by decide) kq) ?_
      refine own_st (T' := T0) (F' := (mkF m 55 #[.val (.long x0), .second, .val (.long x1), .second, .val (.long y0), .second, .val (.long y1), .second, .val (.int fl), .val (.int pp), .val (.int v33), .val (.int v35), .val (.int v37), .unset, .unset, .unset, .unset, .unset, .unset, .unset, .unset, .unset, .unset] [(.int (0 : Int32))])) (fun _ kq => XS.iconst X0.here hx rfl (hb hby at_54) kq) ?_
      exact k
    ·
      rw [if_neg hc47_38] at k
      refine own_st (T' := T0) (F' := (mkF m 50 #[.val (.long x0), .second, .val (.long x1), .second, .val (.long y0), .second, .val (.long y1), .second, .val (.int fl), .val (.int pp), .val (.int v33), .val (.int v35), .val (.int v37), .unset, .unset, .unset, .unset, .unset, .unset, .unset, .unset, .unset, .unset] [])) (fun _ kq => XS.ifNo X0.here hx rfl (hb hby at_47) rfl ((if0 _ _).trans (feq hc47_38).1) kq) ?_
      refine own_st (T' := T0) (F' := (mkF m 51 #[.val (.long x0), .second, .val (.long x1), .second, .val (.long y0), .second, .val (.long y1), .second, .val (.int fl), .val (.int pp), .val (.int v33), .val (.int v35), .val (.int v37), .unset, .unset, .unset, .unset, .unset, .unset, .unset, .unset, .unset, .unset] [(.int (1 : Int32))])) (fun _ kq => XS.iconst X0.here hx rfl (hb hby at_50) kq) ?_
      refine own_st (T' := T0) (F' := (mkF m 55 #[.val (.long x0), .second, .val (.long x1), .second, .val (.long y0), .second, .val (.long y1), .second, .val (.int fl), .val (.int pp), .val (.int v33), .val (.int v35), .val (.int v37), .unset, .unset, .unset, .unset, .unset, .unset, .unset, .unset, .unset, .unset] [(.int (1 : Int32))])) (fun _ kq => XS.goto X0.here hx rfl (pc0 := 51) (pc' := 55) rfl (hb hby at_51) (by decide) (by decide) kq) ?_
      exact k
  generalize hv39 : (if (fl &&& (8 : Int32)) = (0 : Int32) then (0 : Int32) else (1 : Int32)) = v39
  refine own_st (T' := T0) (F' := (mkF m 57 #[.val (.long x0), .second, .val (.long x1), .second, .val (.long y0), .second, .val (.long y1), .second, .val (.int fl), .val (.int pp), .val (.int v33), .val (.int v35), .val (.int v37), .val (.int v39), .unset, .unset, .unset, .unset, .unset, .unset, .unset, .unset, .unset] [])) (fun _ kq => XS.istore X0.here hx rfl (hb hby at_55) rfl (l' := #[.val (.long x0), .second, .val (.long x1), .second, .val (.long y0), .second, .val (.long y1), .second, .val (.int fl), .val (.int pp), .val (.int v33), .val (.int v35), .val (.int v37), .val (.int v39), .unset, .unset, .unset, .unset, .unset, .unset, .unset, .unset, .unset]) rfl kq) ?_
  refine own_st (T' := T0) (F' := (mkF m 58 #[.val (.long x0), .second, .val (.long x1), .second, .val (.long y0), .second, .val (.long y1), .second, .val (.int fl), .val (.int pp), .val (.int v33), .val (.int v35), .val (.int v37), .val (.int v39), .unset, .unset, .unset, .unset, .unset, .unset, .unset, .unset, .unset] [(.int (2 : Int32))])) (fun _ kq => XS.iconst X0.here hx rfl (hb hby at_57) kq) ?_
  obtain ⟨T40, h40, b40, X40, e40, E40, g40, gb40, Z40, V40, st40⟩ := own_newJ X0 hx hZ (hw _ (List.mem_of_getElem? (i := 0) rfl)) e0 Z0 (g := (mkF m 58 #[.val (.long x0), .second, .val (.long x1), .second, .val (.long y0), .second, .val (.long y1), .second, .val (.int fl), .val (.int pp), .val (.int v33), .val (.int v35), .val (.int v37), .val (.int v39), .unset, .unset, .unset, .unset, .unset, .unset, .unset, .unset, .unset] [(.int (2 : Int32))])) rfl rfl (hb hby at_58) (by decide) 2 2 rfl (by decide) (by decide) (by decide) (by decide)
  refine own_st (T' := T40) (F' := (mkF m 60 #[.val (.long x0), .second, .val (.long x1), .second, .val (.long y0), .second, .val (.long y1), .second, .val (.int fl), .val (.int pp), .val (.int v33), .val (.int v35), .val (.int v37), .val (.int v39), .unset, .unset, .unset, .unset, .unset, .unset, .unset, .unset, .unset] [(.ref b40)])) (st40) ?_
  refine own_st (T' := T40) (F' := (mkF m 61 #[.val (.long x0), .second, .val (.long x1), .second, .val (.long y0), .second, .val (.long y1), .second, .val (.int fl), .val (.int pp), .val (.int v33), .val (.int v35), .val (.int v37), .val (.int v39), .unset, .unset, .unset, .unset, .unset, .unset, .unset, .unset, .unset] [(.ref b40), (.ref b40)])) (fun _ kq => XS.dup X40.here hx rfl (hb hby at_60) rfl rfl kq) ?_
  refine own_st (T' := T40) (F' := (mkF m 62 #[.val (.long x0), .second, .val (.long x1), .second, .val (.long y0), .second, .val (.long y1), .second, .val (.int fl), .val (.int pp), .val (.int v33), .val (.int v35), .val (.int v37), .val (.int v39), .unset, .unset, .unset, .unset, .unset, .unset, .unset, .unset, .unset] [(.int (0 : Int32)), (.ref b40), (.ref b40)])) (fun _ kq => XS.iconst X40.here hx rfl (hb hby at_61) kq) ?_
  refine own_st (T' := T40) (F' := (mkF m 63 #[.val (.long x0), .second, .val (.long x1), .second, .val (.long y0), .second, .val (.long y1), .second, .val (.int fl), .val (.int pp), .val (.int v33), .val (.int v35), .val (.int v37), .val (.int v39), .unset, .unset, .unset, .unset, .unset, .unset, .unset, .unset, .unset] [(.long x0), (.int (0 : Int32)), (.ref b40), (.ref b40)])) (fun _ kq => XS.lloadN X40.here hx rfl (hb hby at_62) rfl kq) ?_
  obtain ⟨T42, h42, locs42, X42, e42, N42, W42, V42, st42⟩ := own_stJ X40 hx hZ e40 N0 (ys := [x0, (0 : Int64)]) V40 gb40 (g := (mkF m 63 #[.val (.long x0), .second, .val (.long x1), .second, .val (.long y0), .second, .val (.long y1), .second, .val (.int fl), .val (.int pp), .val (.int v33), .val (.int v35), .val (.int v37), .val (.int v39), .unset, .unset, .unset, .unset, .unset, .unset, .unset, .unset, .unset] [(.long x0), (.int (0 : Int32)), (.ref b40), (.ref b40)])) rfl rfl (hb hby at_63) (by decide) (Nat.le_of_ble_eq_true rfl) rfl
  have Z42 : n0 ≤ h42.size := by rw [W42.size]; exact Z40
  refine own_st (T' := T42) (F' := (mkF m 64 #[.val (.long x0), .second, .val (.long x1), .second, .val (.long y0), .second, .val (.long y1), .second, .val (.int fl), .val (.int pp), .val (.int v33), .val (.int v35), .val (.int v37), .val (.int v39), .unset, .unset, .unset, .unset, .unset, .unset, .unset, .unset, .unset] [(.ref b40)])) (st42) ?_
  refine own_st (T' := T42) (F' := (mkF m 65 #[.val (.long x0), .second, .val (.long x1), .second, .val (.long y0), .second, .val (.long y1), .second, .val (.int fl), .val (.int pp), .val (.int v33), .val (.int v35), .val (.int v37), .val (.int v39), .unset, .unset, .unset, .unset, .unset, .unset, .unset, .unset, .unset] [(.ref b40), (.ref b40)])) (fun _ kq => XS.dup X42.here hx rfl (hb hby at_64) rfl rfl kq) ?_
  refine own_st (T' := T42) (F' := (mkF m 66 #[.val (.long x0), .second, .val (.long x1), .second, .val (.long y0), .second, .val (.long y1), .second, .val (.int fl), .val (.int pp), .val (.int v33), .val (.int v35), .val (.int v37), .val (.int v39), .unset, .unset, .unset, .unset, .unset, .unset, .unset, .unset, .unset] [(.int (1 : Int32)), (.ref b40), (.ref b40)])) (fun _ kq => XS.iconst X42.here hx rfl (hb hby at_65) kq) ?_
  refine own_st (T' := T42) (F' := (mkF m 67 #[.val (.long x0), .second, .val (.long x1), .second, .val (.long y0), .second, .val (.long y1), .second, .val (.int fl), .val (.int pp), .val (.int v33), .val (.int v35), .val (.int v37), .val (.int v39), .unset, .unset, .unset, .unset, .unset, .unset, .unset, .unset, .unset] [(.long x1), (.int (1 : Int32)), (.ref b40), (.ref b40)])) (fun _ kq => XS.lloadN X42.here hx rfl (hb hby at_66) rfl kq) ?_
  obtain ⟨T44, h44, locs44, X44, e44, N44, W44, V44, st44⟩ := own_stJ X42 hx hZ e42 N42 (ys := [x0, x1]) V42 gb40 (g := (mkF m 67 #[.val (.long x0), .second, .val (.long x1), .second, .val (.long y0), .second, .val (.long y1), .second, .val (.int fl), .val (.int pp), .val (.int v33), .val (.int v35), .val (.int v37), .val (.int v39), .unset, .unset, .unset, .unset, .unset, .unset, .unset, .unset, .unset] [(.long x1), (.int (1 : Int32)), (.ref b40), (.ref b40)])) rfl rfl (hb hby at_67) (by decide) (Nat.le_of_ble_eq_true rfl) rfl
  have Z44 : n0 ≤ h44.size := by rw [W44.size]; exact Z42
  refine own_st (T' := T44) (F' := (mkF m 68 #[.val (.long x0), .second, .val (.long x1), .second, .val (.long y0), .second, .val (.long y1), .second, .val (.int fl), .val (.int pp), .val (.int v33), .val (.int v35), .val (.int v37), .val (.int v39), .unset, .unset, .unset, .unset, .unset, .unset, .unset, .unset, .unset] [(.ref b40)])) (st44) ?_
  refine own_st (T' := T44) (F' := (mkF m 70 #[.val (.long x0), .second, .val (.long x1), .second, .val (.long y0), .second, .val (.long y1), .second, .val (.int fl), .val (.int pp), .val (.int v33), .val (.int v35), .val (.int v37), .val (.int v39), .val (.ref b40), .unset, .unset, .unset, .unset, .unset, .unset, .unset, .unset] [])) (fun _ kq => XS.astore X44.here hx rfl (hb hby at_68) rfl rfl (l' := #[.val (.long x0), .second, .val (.long x1), .second, .val (.long y0), .second, .val (.long y1), .second, .val (.int fl), .val (.int pp), .val (.int v33), .val (.int v35), .val (.int v37), .val (.int v39), .val (.ref b40), .unset, .unset, .unset, .unset, .unset, .unset, .unset, .unset]) rfl kq) ?_
  refine own_st (T' := T44) (F' := (mkF m 71 #[.val (.long x0), .second, .val (.long x1), .second, .val (.long y0), .second, .val (.long y1), .second, .val (.int fl), .val (.int pp), .val (.int v33), .val (.int v35), .val (.int v37), .val (.int v39), .val (.ref b40), .unset, .unset, .unset, .unset, .unset, .unset, .unset, .unset] [(.int (2 : Int32))])) (fun _ kq => XS.iconst X44.here hx rfl (hb hby at_70) kq) ?_
  obtain ⟨T46, h46, b46, X46, e46, E46, g46, gb46, Z46, V46, st46⟩ := own_newJ X44 hx hZ (hw _ (List.mem_of_getElem? (i := 0) rfl)) e44 Z44 (g := (mkF m 71 #[.val (.long x0), .second, .val (.long x1), .second, .val (.long y0), .second, .val (.long y1), .second, .val (.int fl), .val (.int pp), .val (.int v33), .val (.int v35), .val (.int v37), .val (.int v39), .val (.ref b40), .unset, .unset, .unset, .unset, .unset, .unset, .unset, .unset] [(.int (2 : Int32))])) rfl rfl (hb hby at_71) (by decide) 2 2 rfl (by decide) (by decide) (by decide) (by decide)
  have VAb40_47 := V44.ext E46
  have ne_b40_b46 : b40 ≠ b46 := by rw [g46]; exact Nat.ne_of_lt V44.lt
  refine own_st (T' := T46) (F' := (mkF m 73 #[.val (.long x0), .second, .val (.long x1), .second, .val (.long y0), .second, .val (.long y1), .second, .val (.int fl), .val (.int pp), .val (.int v33), .val (.int v35), .val (.int v37), .val (.int v39), .val (.ref b40), .unset, .unset, .unset, .unset, .unset, .unset, .unset, .unset] [(.ref b46)])) (st46) ?_
  refine own_st (T' := T46) (F' := (mkF m 74 #[.val (.long x0), .second, .val (.long x1), .second, .val (.long y0), .second, .val (.long y1), .second, .val (.int fl), .val (.int pp), .val (.int v33), .val (.int v35), .val (.int v37), .val (.int v39), .val (.ref b40), .unset, .unset, .unset, .unset, .unset, .unset, .unset, .unset] [(.ref b46), (.ref b46)])) (fun _ kq => XS.dup X46.here hx rfl (hb hby at_73) rfl rfl kq) ?_
  refine own_st (T' := T46) (F' := (mkF m 75 #[.val (.long x0), .second, .val (.long x1), .second, .val (.long y0), .second, .val (.long y1), .second, .val (.int fl), .val (.int pp), .val (.int v33), .val (.int v35), .val (.int v37), .val (.int v39), .val (.ref b40), .unset, .unset, .unset, .unset, .unset, .unset, .unset, .unset] [(.int (0 : Int32)), (.ref b46), (.ref b46)])) (fun _ kq => XS.iconst X46.here hx rfl (hb hby at_74) kq) ?_
  refine own_st (T' := T46) (F' := (mkF m 77 #[.val (.long x0), .second, .val (.long x1), .second, .val (.long y0), .second, .val (.long y1), .second, .val (.int fl), .val (.int pp), .val (.int v33), .val (.int v35), .val (.int v37), .val (.int v39), .val (.ref b40), .unset, .unset, .unset, .unset, .unset, .unset, .unset, .unset] [(.long y0), (.int (0 : Int32)), (.ref b46), (.ref b46)])) (fun _ kq => XS.lload X46.here hx rfl (hb hby at_75) rfl kq) ?_
  obtain ⟨T48, h48, locs48, X48, e48, N48, W48, V48, st48⟩ := own_stJ X46 hx hZ e46 N44 (ys := [y0, (0 : Int64)]) V46 gb46 (g := (mkF m 77 #[.val (.long x0), .second, .val (.long x1), .second, .val (.long y0), .second, .val (.long y1), .second, .val (.int fl), .val (.int pp), .val (.int v33), .val (.int v35), .val (.int v37), .val (.int v39), .val (.ref b40), .unset, .unset, .unset, .unset, .unset, .unset, .unset, .unset] [(.long y0), (.int (0 : Int32)), (.ref b46), (.ref b46)])) rfl rfl (hb hby at_77) (by decide) (Nat.le_of_ble_eq_true rfl) rfl
  have VAb40_49 := VAb40_47.other W48 ne_b40_b46
  have Z48 : n0 ≤ h48.size := by rw [W48.size]; exact Z46
  refine own_st (T' := T48) (F' := (mkF m 78 #[.val (.long x0), .second, .val (.long x1), .second, .val (.long y0), .second, .val (.long y1), .second, .val (.int fl), .val (.int pp), .val (.int v33), .val (.int v35), .val (.int v37), .val (.int v39), .val (.ref b40), .unset, .unset, .unset, .unset, .unset, .unset, .unset, .unset] [(.ref b46)])) (st48) ?_
  refine own_st (T' := T48) (F' := (mkF m 79 #[.val (.long x0), .second, .val (.long x1), .second, .val (.long y0), .second, .val (.long y1), .second, .val (.int fl), .val (.int pp), .val (.int v33), .val (.int v35), .val (.int v37), .val (.int v39), .val (.ref b40), .unset, .unset, .unset, .unset, .unset, .unset, .unset, .unset] [(.ref b46), (.ref b46)])) (fun _ kq => XS.dup X48.here hx rfl (hb hby at_78) rfl rfl kq) ?_
  refine own_st (T' := T48) (F' := (mkF m 80 #[.val (.long x0), .second, .val (.long x1), .second, .val (.long y0), .second, .val (.long y1), .second, .val (.int fl), .val (.int pp), .val (.int v33), .val (.int v35), .val (.int v37), .val (.int v39), .val (.ref b40), .unset, .unset, .unset, .unset, .unset, .unset, .unset, .unset] [(.int (1 : Int32)), (.ref b46), (.ref b46)])) (fun _ kq => XS.iconst X48.here hx rfl (hb hby at_79) kq) ?_
  refine own_st (T' := T48) (F' := (mkF m 82 #[.val (.long x0), .second, .val (.long x1), .second, .val (.long y0), .second, .val (.long y1), .second, .val (.int fl), .val (.int pp), .val (.int v33), .val (.int v35), .val (.int v37), .val (.int v39), .val (.ref b40), .unset, .unset, .unset, .unset, .unset, .unset, .unset, .unset] [(.long y1), (.int (1 : Int32)), (.ref b46), (.ref b46)])) (fun _ kq => XS.lload X48.here hx rfl (hb hby at_80) rfl kq) ?_
  obtain ⟨T50, h50, locs50, X50, e50, N50, W50, V50, st50⟩ := own_stJ X48 hx hZ e48 N48 (ys := [y0, y1]) V48 gb46 (g := (mkF m 82 #[.val (.long x0), .second, .val (.long x1), .second, .val (.long y0), .second, .val (.long y1), .second, .val (.int fl), .val (.int pp), .val (.int v33), .val (.int v35), .val (.int v37), .val (.int v39), .val (.ref b40), .unset, .unset, .unset, .unset, .unset, .unset, .unset, .unset] [(.long y1), (.int (1 : Int32)), (.ref b46), (.ref b46)])) rfl rfl (hb hby at_82) (by decide) (Nat.le_of_ble_eq_true rfl) rfl
  have VAb40_51 := VAb40_49.other W50 ne_b40_b46
  have Z50 : n0 ≤ h50.size := by rw [W50.size]; exact Z48
  refine own_st (T' := T50) (F' := (mkF m 83 #[.val (.long x0), .second, .val (.long x1), .second, .val (.long y0), .second, .val (.long y1), .second, .val (.int fl), .val (.int pp), .val (.int v33), .val (.int v35), .val (.int v37), .val (.int v39), .val (.ref b40), .unset, .unset, .unset, .unset, .unset, .unset, .unset, .unset] [(.ref b46)])) (st50) ?_
  refine own_st (T' := T50) (F' := (mkF m 85 #[.val (.long x0), .second, .val (.long x1), .second, .val (.long y0), .second, .val (.long y1), .second, .val (.int fl), .val (.int pp), .val (.int v33), .val (.int v35), .val (.int v37), .val (.int v39), .val (.ref b40), .val (.ref b46), .unset, .unset, .unset, .unset, .unset, .unset, .unset] [])) (fun _ kq => XS.astore X50.here hx rfl (hb hby at_83) rfl rfl (l' := #[.val (.long x0), .second, .val (.long x1), .second, .val (.long y0), .second, .val (.long y1), .second, .val (.int fl), .val (.int pp), .val (.int v33), .val (.int v35), .val (.int v37), .val (.int v39), .val (.ref b40), .val (.ref b46), .unset, .unset, .unset, .unset, .unset, .unset, .unset]) rfl kq) ?_
  refine own_st (T' := T50) (F' := (mkF m 86 #[.val (.long x0), .second, .val (.long x1), .second, .val (.long y0), .second, .val (.long y1), .second, .val (.int fl), .val (.int pp), .val (.int v33), .val (.int v35), .val (.int v37), .val (.int v39), .val (.ref b40), .val (.ref b46), .unset, .unset, .unset, .unset, .unset, .unset, .unset] [(.int (2 : Int32))])) (fun _ kq => XS.iconst X50.here hx rfl (hb hby at_85) kq) ?_
  obtain ⟨T52, h52, b52, X52, e52, E52, g52, gb52, Z52, V52, st52⟩ := own_newJ X50 hx hZ (hw _ (List.mem_of_getElem? (i := 0) rfl)) e50 Z50 (g := (mkF m 86 #[.val (.long x0), .second, .val (.long x1), .second, .val (.long y0), .second, .val (.long y1), .second, .val (.int fl), .val (.int pp), .val (.int v33), .val (.int v35), .val (.int v37), .val (.int v39), .val (.ref b40), .val (.ref b46), .unset, .unset, .unset, .unset, .unset, .unset, .unset] [(.int (2 : Int32))])) rfl rfl (hb hby at_86) (by decide) 2 2 rfl (by decide) (by decide) (by decide) (by decide)
  have VAb40_53 := VAb40_51.ext E52
  have VAb46_53 := V50.ext E52
  have ne_b40_b52 : b40 ≠ b52 := by rw [g52]; exact Nat.ne_of_lt VAb40_51.lt
  have ne_b46_b52 : b46 ≠ b52 := by rw [g52]; exact Nat.ne_of_lt V50.lt
  refine own_st (T' := T52) (F' := (mkF m 88 #[.val (.long x0), .second, .val (.long x1), .second, .val (.long y0), .second, .val (.long y1), .second, .val (.int fl), .val (.int pp), .val (.int v33), .val (.int v35), .val (.int v37), .val (.int v39), .val (.ref b40), .val (.ref b46), .unset, .unset, .unset, .unset, .unset, .unset, .unset] [(.ref b52)])) (st52) ?_
  refine own_st (T' := T52) (F' := (mkF m 89 #[.val (.long x0), .second, .val (.long x1), .second, .val (.long y0), .second, .val (.long y1), .second, .val (.int fl), .val (.int pp), .val (.int v33), .val (.int v35), .val (.int v37), .val (.int v39), .val (.ref b40), .val (.ref b46), .unset, .unset, .unset, .unset, .unset, .unset, .unset] [(.ref b52), (.ref b52)])) (fun _ kq => XS.dup X52.here hx rfl (hb hby at_88) rfl rfl kq) ?_
  refine own_st (T' := T52) (F' := (mkF m 90 #[.val (.long x0), .second, .val (.long x1), .second, .val (.long y0), .second, .val (.long y1), .second, .val (.int fl), .val (.int pp), .val (.int v33), .val (.int v35), .val (.int v37), .val (.int v39), .val (.ref b40), .val (.ref b46), .unset, .unset, .unset, .unset, .unset, .unset, .unset] [(.int (0 : Int32)), (.ref b52), (.ref b52)])) (fun _ kq => XS.iconst X52.here hx rfl (hb hby at_89) kq) ?_
  refine own_st (T' := T52) (F' := (mkF m 92 #[.val (.long x0), .second, .val (.long x1), .second, .val (.long y0), .second, .val (.long y1), .second, .val (.int fl), .val (.int pp), .val (.int v33), .val (.int v35), .val (.int v37), .val (.int v39), .val (.ref b40), .val (.ref b46), .unset, .unset, .unset, .unset, .unset, .unset, .unset] [(.int v33), (.int (0 : Int32)), (.ref b52), (.ref b52)])) (fun _ kq => XS.iload X52.here hx rfl (hb hby at_90) rfl kq) ?_
  suffices k : own_Ends p e below s room_1.cells room_1.slots (fun v h L => v = some (.int 1) ∧ Fr n0 L) T52 (mkF m 102 #[.val (.long x0), .second, .val (.long x1), .second, .val (.long y0), .second, .val (.long y1), .second, .val (.int fl), .val (.int pp), .val (.int v33), .val (.int v35), .val (.int v37), .val (.int v39), .val (.ref b40), .val (.ref b46), .unset, .unset, .unset, .unset, .unset, .unset, .unset] [(.long (if v33 = (0 : Int32) then x0 else (x0 + (1 : Int64)))), (.int (0 : Int32)), (.ref b52), (.ref b52)]) by
    by_cases hc92_54 : v33 = (0 : Int32)
    ·
      rw [if_pos hc92_54] at k
      refine own_st (T' := T52) (F' := (mkF m 101 #[.val (.long x0), .second, .val (.long x1), .second, .val (.long y0), .second, .val (.long y1), .second, .val (.int fl), .val (.int pp), .val (.int v33), .val (.int v35), .val (.int v37), .val (.int v39), .val (.ref b40), .val (.ref b46), .unset, .unset, .unset, .unset, .unset, .unset, .unset] [(.int (0 : Int32)), (.ref b52), (.ref b52)])) (fun _ kq => XS.ifYes X52.here hx rfl (pc0 := 92) (pc' := 101) rfl (hb hby at_92) rfl ((if0 _ _).trans (teq hc92_54).1) (by decide) (by decide) kq) ?_
      refine own_st (T' := T52) (F' := (mkF m 102 #[.val (.long x0), .second, .val (.long x1), .second, .val (.long y0), .second, .val (.long y1), .second, .val (.int fl), .val (.int pp), .val (.int v33), .val (.int v35), .val (.int v37), .val (.int v39), .val (.ref b40), .val (.ref b46), .unset, .unset, .unset, .unset, .unset, .unset, .unset] [(.long x0), (.int (0 : Int32)), (.ref b52), (.ref b52)])) (fun _ kq => XS.lloadN X52.here hx rfl (hb hby at_101) rfl kq) ?_
      exact k
    ·
      rw [if_neg hc92_54] at k
      refine own_st (T' := T52) (F' := (mkF m 95 #[.val (.long x0), .second, .val (.long x1), .second, .val (.long y0), .second, .val (.long y1), .second, .val (.int fl), .val (.int pp), .val (.int v33), .val (.int v35), .val (.int v37), .val (.int v39), .val (.ref b40), .val (.ref b46), .unset, .unset, .unset, .unset, .unset, .unset, .unset] [(.int (0 : Int32)), (.ref b52), (.ref b52)])) (fun _ kq => XS.ifNo X52.here hx rfl (hb hby at_92) rfl ((if0 _ _).trans (feq hc92_54).1) kq) ?_
      refine own_st (T' := T52) (F' := (mkF m 96 #[.val (.long x0), .second, .val (.long x1), .second, .val (.long y0), .second, .val (.long y1), .second, .val (.int fl), .val (.int pp), .val (.int v33), .val (.int v35), .val (.int v37), .val (.int v39), .val (.ref b40), .val (.ref b46), .unset, .unset, .unset, .unset, .unset, .unset, .unset] [(.long x0), (.int (0 : Int32)), (.ref b52), (.ref b52)])) (fun _ kq => XS.lloadN X52.here hx rfl (hb hby at_95) rfl kq) ?_
      refine own_st (T' := T52) (F' := (mkF m 97 #[.val (.long x0), .second, .val (.long x1), .second, .val (.long y0), .second, .val (.long y1), .second, .val (.int fl), .val (.int pp), .val (.int v33), .val (.int v35), .val (.int v37), .val (.int v39), .val (.ref b40), .val (.ref b46), .unset, .unset, .unset, .unset, .unset, .unset, .unset] [(.long (1 : Int64)), (.long x0), (.int (0 : Int32)), (.ref b52), (.ref b52)])) (fun _ kq => XS.lconst X52.here hx rfl (hb hby at_96) kq) ?_
      refine own_st (T' := T52) (F' := (mkF m 98 #[.val (.long x0), .second, .val (.long x1), .second, .val (.long y0), .second, .val (.long y1), .second, .val (.int fl), .val (.int pp), .val (.int v33), .val (.int v35), .val (.int v37), .val (.int v39), .val (.ref b40), .val (.ref b46), .unset, .unset, .unset, .unset, .unset, .unset, .unset] [(.long (x0 + (1 : Int64))), (.int (0 : Int32)), (.ref b52), (.ref b52)])) (fun _ kq => XS.ladd X52.here hx rfl (hb hby at_97) rfl kq) ?_
      refine own_st (T' := T52) (F' := (mkF m 102 #[.val (.long x0), .second, .val (.long x1), .second, .val (.long y0), .second, .val (.long y1), .second, .val (.int fl), .val (.int pp), .val (.int v33), .val (.int v35), .val (.int v37), .val (.int v39), .val (.ref b40), .val (.ref b46), .unset, .unset, .unset, .unset, .unset, .unset, .unset] [(.long (x0 + (1 : Int64))), (.int (0 : Int32)), (.ref b52), (.ref b52)])) (fun _ kq => XS.goto X52.here hx rfl (pc0 := 98) (pc' := 102) rfl (hb hby at_98) (by decide) (by decide) kq) ?_
      exact k
  generalize hv55 : (if v33 = (0 : Int32) then x0 else (x0 + (1 : Int64))) = v55
  obtain ⟨T56, h56, locs56, X56, e56, N56, W56, V56, st56⟩ := own_stJ X52 hx hZ e52 N50 (ys := [v55, (0 : Int64)]) V52 gb52 (g := (mkF m 102 #[.val (.long x0), .second, .val (.long x1), .second, .val (.long y0), .second, .val (.long y1), .second, .val (.int fl), .val (.int pp), .val (.int v33), .val (.int v35), .val (.int v37), .val (.int v39), .val (.ref b40), .val (.ref b46), .unset, .unset, .unset, .unset, .unset, .unset, .unset] [(.long v55), (.int (0 : Int32)), (.ref b52), (.ref b52)])) rfl rfl (hb hby at_102) (by decide) (Nat.le_of_ble_eq_true rfl) rfl
  have VAb40_57 := VAb40_53.other W56 ne_b40_b52
  have VAb46_57 := VAb46_53.other W56 ne_b46_b52
  have Z56 : n0 ≤ h56.size := by rw [W56.size]; exact Z52
  refine own_st (T' := T56) (F' := (mkF m 103 #[.val (.long x0), .second, .val (.long x1), .second, .val (.long y0), .second, .val (.long y1), .second, .val (.int fl), .val (.int pp), .val (.int v33), .val (.int v35), .val (.int v37), .val (.int v39), .val (.ref b40), .val (.ref b46), .unset, .unset, .unset, .unset, .unset, .unset, .unset] [(.ref b52)])) (st56) ?_
  refine own_st (T' := T56) (F' := (mkF m 104 #[.val (.long x0), .second, .val (.long x1), .second, .val (.long y0), .second, .val (.long y1), .second, .val (.int fl), .val (.int pp), .val (.int v33), .val (.int v35), .val (.int v37), .val (.int v39), .val (.ref b40), .val (.ref b46), .unset, .unset, .unset, .unset, .unset, .unset, .unset] [(.ref b52), (.ref b52)])) (fun _ kq => XS.dup X56.here hx rfl (hb hby at_103) rfl rfl kq) ?_
  refine own_st (T' := T56) (F' := (mkF m 105 #[.val (.long x0), .second, .val (.long x1), .second, .val (.long y0), .second, .val (.long y1), .second, .val (.int fl), .val (.int pp), .val (.int v33), .val (.int v35), .val (.int v37), .val (.int v39), .val (.ref b40), .val (.ref b46), .unset, .unset, .unset, .unset, .unset, .unset, .unset] [(.int (1 : Int32)), (.ref b52), (.ref b52)])) (fun _ kq => XS.iconst X56.here hx rfl (hb hby at_104) kq) ?_
  refine own_st (T' := T56) (F' := (mkF m 107 #[.val (.long x0), .second, .val (.long x1), .second, .val (.long y0), .second, .val (.long y1), .second, .val (.int fl), .val (.int pp), .val (.int v33), .val (.int v35), .val (.int v37), .val (.int v39), .val (.ref b40), .val (.ref b46), .unset, .unset, .unset, .unset, .unset, .unset, .unset] [(.int v37), (.int (1 : Int32)), (.ref b52), (.ref b52)])) (fun _ kq => XS.iload X56.here hx rfl (hb hby at_105) rfl kq) ?_
  suffices k : own_Ends p e below s room_1.cells room_1.slots (fun v h L => v = some (.int 1) ∧ Fr n0 L) T56 (mkF m 117 #[.val (.long x0), .second, .val (.long x1), .second, .val (.long y0), .second, .val (.long y1), .second, .val (.int fl), .val (.int pp), .val (.int v33), .val (.int v35), .val (.int v37), .val (.int v39), .val (.ref b40), .val (.ref b46), .unset, .unset, .unset, .unset, .unset, .unset, .unset] [(.long (if v37 = (0 : Int32) then x1 else (x1 + (1 : Int64)))), (.int (1 : Int32)), (.ref b52), (.ref b52)]) by
    by_cases hc107_58 : v37 = (0 : Int32)
    ·
      rw [if_pos hc107_58] at k
      refine own_st (T' := T56) (F' := (mkF m 116 #[.val (.long x0), .second, .val (.long x1), .second, .val (.long y0), .second, .val (.long y1), .second, .val (.int fl), .val (.int pp), .val (.int v33), .val (.int v35), .val (.int v37), .val (.int v39), .val (.ref b40), .val (.ref b46), .unset, .unset, .unset, .unset, .unset, .unset, .unset] [(.int (1 : Int32)), (.ref b52), (.ref b52)])) (fun _ kq => XS.ifYes X56.here hx rfl (pc0 := 107) (pc' := 116) rfl (hb hby at_107) rfl ((if0 _ _).trans (teq hc107_58).1) (by decide) (by decide) kq) ?_
      refine own_st (T' := T56) (F' := (mkF m 117 #[.val (.long x0), .second, .val (.long x1), .second, .val (.long y0), .second, .val (.long y1), .second, .val (.int fl), .val (.int pp), .val (.int v33), .val (.int v35), .val (.int v37), .val (.int v39), .val (.ref b40), .val (.ref b46), .unset, .unset, .unset, .unset, .unset, .unset, .unset] [(.long x1), (.int (1 : Int32)), (.ref b52), (.ref b52)])) (fun _ kq => XS.lloadN X56.here hx rfl (hb hby at_116) rfl kq) ?_
      exact k
    ·
      rw [if_neg hc107_58] at k
      refine own_st (T' := T56) (F' := (mkF m 110 #[.val (.long x0), .second, .val (.long x1), .second, .val (.long y0), .second, .val (.long y1), .second, .val (.int fl), .val (.int pp), .val (.int v33), .val (.int v35), .val (.int v37), .val (.int v39), .val (.ref b40), .val (.ref b46), .unset, .unset, .unset, .unset, .unset, .unset, .unset] [(.int (1 : Int32)), (.ref b52), (.ref b52)])) (fun _ kq => XS.ifNo X56.here hx rfl (hb hby at_107) rfl ((if0 _ _).trans (feq hc107_58).1) kq) ?_
      refine own_st (T' := T56) (F' := (mkF m 111 #[.val (.long x0), .second, .val (.long x1), .second, .val (.long y0), .second, .val (.long y1), .second, .val (.int fl), .val (.int pp), .val (.int v33), .val (.int v35), .val (.int v37), .val (.int v39), .val (.ref b40), .val (.ref b46), .unset, .unset, .unset, .unset, .unset, .unset, .unset] [(.long x1), (.int (1 : Int32)), (.ref b52), (.ref b52)])) (fun _ kq => XS.lloadN X56.here hx rfl (hb hby at_110) rfl kq) ?_
      refine own_st (T' := T56) (F' := (mkF m 112 #[.val (.long x0), .second, .val (.long x1), .second, .val (.long y0), .second, .val (.long y1), .second, .val (.int fl), .val (.int pp), .val (.int v33), .val (.int v35), .val (.int v37), .val (.int v39), .val (.ref b40), .val (.ref b46), .unset, .unset, .unset, .unset, .unset, .unset, .unset] [(.long (1 : Int64)), (.long x1), (.int (1 : Int32)), (.ref b52), (.ref b52)])) (fun _ kq => XS.lconst X56.here hx rfl (hb hby at_111) kq) ?_
      refine own_st (T' := T56) (F' := (mkF m 113 #[.val (.long x0), .second, .val (.long x1), .second, .val (.long y0), .second, .val (.long y1), .second, .val (.int fl), .val (.int pp), .val (.int v33), .val (.int v35), .val (.int v37), .val (.int v39), .val (.ref b40), .val (.ref b46), .unset, .unset, .unset, .unset, .unset, .unset, .unset] [(.long (x1 + (1 : Int64))), (.int (1 : Int32)), (.ref b52), (.ref b52)])) (fun _ kq => XS.ladd X56.here hx rfl (hb hby at_112) rfl kq) ?_
      refine own_st (T' := T56) (F' := (mkF m 117 #[.val (.long x0), .second, .val (.long x1), .second, .val (.long y0), .second, .val (.long y1), .second, .val (.int fl), .val (.int pp), .val (.int v33), .val (.int v35), .val (.int v37), .val (.int v39), .val (.ref b40), .val (.ref b46), .unset, .unset, .unset, .unset, .unset, .unset, .unset] [(.long (x1 + (1 : Int64))), (.int (1 : Int32)), (.ref b52), (.ref b52)])) (fun _ kq => XS.goto X56.here hx rfl (pc0 := 113) (pc' := 117) rfl (hb hby at_113) (by decide) (by decide) kq) ?_
      exact k
  generalize hv59 : (if v37 = (0 : Int32) then x1 else (x1 + (1 : Int64))) = v59
  obtain ⟨T60, h60, locs60, X60, e60, N60, W60, V60, st60⟩ := own_stJ X56 hx hZ e56 N56 (ys := [v55, v59]) V56 gb52 (g := (mkF m 117 #[.val (.long x0), .second, .val (.long x1), .second, .val (.long y0), .second, .val (.long y1), .second, .val (.int fl), .val (.int pp), .val (.int v33), .val (.int v35), .val (.int v37), .val (.int v39), .val (.ref b40), .val (.ref b46), .unset, .unset, .unset, .unset, .unset, .unset, .unset] [(.long v59), (.int (1 : Int32)), (.ref b52), (.ref b52)])) rfl rfl (hb hby at_117) (by decide) (Nat.le_of_ble_eq_true rfl) rfl
  have VAb40_61 := VAb40_57.other W60 ne_b40_b52
  have VAb46_61 := VAb46_57.other W60 ne_b46_b52
  have Z60 : n0 ≤ h60.size := by rw [W60.size]; exact Z56
  refine own_st (T' := T60) (F' := (mkF m 118 #[.val (.long x0), .second, .val (.long x1), .second, .val (.long y0), .second, .val (.long y1), .second, .val (.int fl), .val (.int pp), .val (.int v33), .val (.int v35), .val (.int v37), .val (.int v39), .val (.ref b40), .val (.ref b46), .unset, .unset, .unset, .unset, .unset, .unset, .unset] [(.ref b52)])) (st60) ?_
  refine own_st (T' := T60) (F' := (mkF m 120 #[.val (.long x0), .second, .val (.long x1), .second, .val (.long y0), .second, .val (.long y1), .second, .val (.int fl), .val (.int pp), .val (.int v33), .val (.int v35), .val (.int v37), .val (.int v39), .val (.ref b40), .val (.ref b46), .val (.ref b52), .unset, .unset, .unset, .unset, .unset, .unset] [])) (fun _ kq => XS.astore X60.here hx rfl (hb hby at_118) rfl rfl (l' := #[.val (.long x0), .second, .val (.long x1), .second, .val (.long y0), .second, .val (.long y1), .second, .val (.int fl), .val (.int pp), .val (.int v33), .val (.int v35), .val (.int v37), .val (.int v39), .val (.ref b40), .val (.ref b46), .val (.ref b52), .unset, .unset, .unset, .unset, .unset, .unset]) rfl kq) ?_
  refine own_st (T' := T60) (F' := (mkF m 121 #[.val (.long x0), .second, .val (.long x1), .second, .val (.long y0), .second, .val (.long y1), .second, .val (.int fl), .val (.int pp), .val (.int v33), .val (.int v35), .val (.int v37), .val (.int v39), .val (.ref b40), .val (.ref b46), .val (.ref b52), .unset, .unset, .unset, .unset, .unset, .unset] [(.int (2 : Int32))])) (fun _ kq => XS.iconst X60.here hx rfl (hb hby at_120) kq) ?_
  obtain ⟨T62, h62, b62, X62, e62, E62, g62, gb62, Z62, V62, st62⟩ := own_newJ X60 hx hZ (hw _ (List.mem_of_getElem? (i := 0) rfl)) e60 Z60 (g := (mkF m 121 #[.val (.long x0), .second, .val (.long x1), .second, .val (.long y0), .second, .val (.long y1), .second, .val (.int fl), .val (.int pp), .val (.int v33), .val (.int v35), .val (.int v37), .val (.int v39), .val (.ref b40), .val (.ref b46), .val (.ref b52), .unset, .unset, .unset, .unset, .unset, .unset] [(.int (2 : Int32))])) rfl rfl (hb hby at_121) (by decide) 2 2 rfl (by decide) (by decide) (by decide) (by decide)
  have VAb40_63 := VAb40_61.ext E62
  have VAb46_63 := VAb46_61.ext E62
  have VAb52_63 := V60.ext E62
  have ne_b40_b62 : b40 ≠ b62 := by rw [g62]; exact Nat.ne_of_lt VAb40_61.lt
  have ne_b46_b62 : b46 ≠ b62 := by rw [g62]; exact Nat.ne_of_lt VAb46_61.lt
  have ne_b52_b62 : b52 ≠ b62 := by rw [g62]; exact Nat.ne_of_lt V60.lt
  refine own_st (T' := T62) (F' := (mkF m 123 #[.val (.long x0), .second, .val (.long x1), .second, .val (.long y0), .second, .val (.long y1), .second, .val (.int fl), .val (.int pp), .val (.int v33), .val (.int v35), .val (.int v37), .val (.int v39), .val (.ref b40), .val (.ref b46), .val (.ref b52), .unset, .unset, .unset, .unset, .unset, .unset] [(.ref b62)])) (st62) ?_
  refine own_st (T' := T62) (F' := (mkF m 124 #[.val (.long x0), .second, .val (.long x1), .second, .val (.long y0), .second, .val (.long y1), .second, .val (.int fl), .val (.int pp), .val (.int v33), .val (.int v35), .val (.int v37), .val (.int v39), .val (.ref b40), .val (.ref b46), .val (.ref b52), .unset, .unset, .unset, .unset, .unset, .unset] [(.ref b62), (.ref b62)])) (fun _ kq => XS.dup X62.here hx rfl (hb hby at_123) rfl rfl kq) ?_
  refine own_st (T' := T62) (F' := (mkF m 125 #[.val (.long x0), .second, .val (.long x1), .second, .val (.long y0), .second, .val (.long y1), .second, .val (.int fl), .val (.int pp), .val (.int v33), .val (.int v35), .val (.int v37), .val (.int v39), .val (.ref b40), .val (.ref b46), .val (.ref b52), .unset, .unset, .unset, .unset, .unset, .unset] [(.int (0 : Int32)), (.ref b62), (.ref b62)])) (fun _ kq => XS.iconst X62.here hx rfl (hb hby at_124) kq) ?_
  refine own_st (T' := T62) (F' := (mkF m 127 #[.val (.long x0), .second, .val (.long x1), .second, .val (.long y0), .second, .val (.long y1), .second, .val (.int fl), .val (.int pp), .val (.int v33), .val (.int v35), .val (.int v37), .val (.int v39), .val (.ref b40), .val (.ref b46), .val (.ref b52), .unset, .unset, .unset, .unset, .unset, .unset] [(.int v35), (.int (0 : Int32)), (.ref b62), (.ref b62)])) (fun _ kq => XS.iload X62.here hx rfl (hb hby at_125) rfl kq) ?_
  suffices k : own_Ends p e below s room_1.cells room_1.slots (fun v h L => v = some (.int 1) ∧ Fr n0 L) T62 (mkF m 139 #[.val (.long x0), .second, .val (.long x1), .second, .val (.long y0), .second, .val (.long y1), .second, .val (.int fl), .val (.int pp), .val (.int v33), .val (.int v35), .val (.int v37), .val (.int v39), .val (.ref b40), .val (.ref b46), .val (.ref b52), .unset, .unset, .unset, .unset, .unset, .unset] [(.long (if v35 = (0 : Int32) then y0 else (y0 + (1 : Int64)))), (.int (0 : Int32)), (.ref b62), (.ref b62)]) by
    by_cases hc127_64 : v35 = (0 : Int32)
    ·
      rw [if_pos hc127_64] at k
      refine own_st (T' := T62) (F' := (mkF m 137 #[.val (.long x0), .second, .val (.long x1), .second, .val (.long y0), .second, .val (.long y1), .second, .val (.int fl), .val (.int pp), .val (.int v33), .val (.int v35), .val (.int v37), .val (.int v39), .val (.ref b40), .val (.ref b46), .val (.ref b52), .unset, .unset, .unset, .unset, .unset, .unset] [(.int (0 : Int32)), (.ref b62), (.ref b62)])) (fun _ kq => XS.ifYes X62.here hx rfl (pc0 := 127) (pc' := 137) rfl (hb hby at_127) rfl ((if0 _ _).trans (teq hc127_64).1) (by decide) (by decide) kq) ?_
      refine own_st (T' := T62) (F' := (mkF m 139 #[.val (.long x0), .second, .val (.long x1), .second, .val (.long y0), .second, .val (.long y1), .second, .val (.int fl), .val (.int pp), .val (.int v33), .val (.int v35), .val (.int v37), .val (.int v39), .val (.ref b40), .val (.ref b46), .val (.ref b52), .unset, .unset, .unset, .unset, .unset, .unset] [(.long y0), (.int (0 : Int32)), (.ref b62), (.ref b62)])) (fun _ kq => XS.lload X62.here hx rfl (hb hby at_137) rfl kq) ?_
      exact k
    ·
      rw [if_neg hc127_64] at k
      refine own_st (T' := T62) (F' := (mkF m 130 #[.val (.long x0), .second, .val (.long x1), .second, .val (.long y0), .second, .val (.long y1), .second, .val (.int fl), .val (.int pp), .val (.int v33), .val (.int v35), .val (.int v37), .val (.int v39), .val (.ref b40), .val (.ref b46), .val (.ref b52), .unset, .unset, .unset, .unset, .unset, .unset] [(.int (0 : Int32)), (.ref b62), (.ref b62)])) (fun _ kq => XS.ifNo X62.here hx rfl (hb hby at_127) rfl ((if0 _ _).trans (feq hc127_64).1) kq) ?_
      refine own_st (T' := T62) (F' := (mkF m 132 #[.val (.long x0), .second, .val (.long x1), .second, .val (.long y0), .second, .val (.long y1), .second, .val (.int fl), .val (.int pp), .val (.int v33), .val (.int v35), .val (.int v37), .val (.int v39), .val (.ref b40), .val (.ref b46), .val (.ref b52), .unset, .unset, .unset, .unset, .unset, .unset] [(.long y0), (.int (0 : Int32)), (.ref b62), (.ref b62)])) (fun _ kq => XS.lload X62.here hx rfl (hb hby at_130) rfl kq) ?_
      refine own_st (T' := T62) (F' := (mkF m 133 #[.val (.long x0), .second, .val (.long x1), .second, .val (.long y0), .second, .val (.long y1), .second, .val (.int fl), .val (.int pp), .val (.int v33), .val (.int v35), .val (.int v37), .val (.int v39), .val (.ref b40), .val (.ref b46), .val (.ref b52), .unset, .unset, .unset, .unset, .unset, .unset] [(.long (1 : Int64)), (.long y0), (.int (0 : Int32)), (.ref b62), (.ref b62)])) (fun _ kq => XS.lconst X62.here hx rfl (hb hby at_132) kq) ?_
      refine own_st (T' := T62) (F' := (mkF m 134 #[.val (.long x0), .second, .val (.long x1), .second, .val (.long y0), .second, .val (.long y1), .second, .val (.int fl), .val (.int pp), .val (.int v33), .val (.int v35), .val (.int v37), .val (.int v39), .val (.ref b40), .val (.ref b46), .val (.ref b52), .unset, .unset, .unset, .unset, .unset, .unset] [(.long (y0 + (1 : Int64))), (.int (0 : Int32)), (.ref b62), (.ref b62)])) (fun _ kq => XS.ladd X62.here hx rfl (hb hby at_133) rfl kq) ?_
      refine own_st (T' := T62) (F' := (mkF m 139 #[.val (.long x0), .second, .val (.long x1), .second, .val (.long y0), .second, .val (.long y1), .second, .val (.int fl), .val (.int pp), .val (.int v33), .val (.int v35), .val (.int v37), .val (.int v39), .val (.ref b40), .val (.ref b46), .val (.ref b52), .unset, .unset, .unset, .unset, .unset, .unset] [(.long (y0 + (1 : Int64))), (.int (0 : Int32)), (.ref b62), (.ref b62)])) (fun _ kq => XS.goto X62.here hx rfl (pc0 := 134) (pc' := 139) rfl (hb hby at_134) (by decide) (by decide) kq) ?_
      exact k
  generalize hv65 : (if v35 = (0 : Int32) then y0 else (y0 + (1 : Int64))) = v65
  obtain ⟨T66, h66, locs66, X66, e66, N66, W66, V66, st66⟩ := own_stJ X62 hx hZ e62 N60 (ys := [v65, (0 : Int64)]) V62 gb62 (g := (mkF m 139 #[.val (.long x0), .second, .val (.long x1), .second, .val (.long y0), .second, .val (.long y1), .second, .val (.int fl), .val (.int pp), .val (.int v33), .val (.int v35), .val (.int v37), .val (.int v39), .val (.ref b40), .val (.ref b46), .val (.ref b52), .unset, .unset, .unset, .unset, .unset, .unset] [(.long v65), (.int (0 : Int32)), (.ref b62), (.ref b62)])) rfl rfl (hb hby at_139) (by decide) (Nat.le_of_ble_eq_true rfl) rfl
  have VAb40_67 := VAb40_63.other W66 ne_b40_b62
  have VAb46_67 := VAb46_63.other W66 ne_b46_b62
  have VAb52_67 := VAb52_63.other W66 ne_b52_b62
  have Z66 : n0 ≤ h66.size := by rw [W66.size]; exact Z62
  refine own_st (T' := T66) (F' := (mkF m 140 #[.val (.long x0), .second, .val (.long x1), .second, .val (.long y0), .second, .val (.long y1), .second, .val (.int fl), .val (.int pp), .val (.int v33), .val (.int v35), .val (.int v37), .val (.int v39), .val (.ref b40), .val (.ref b46), .val (.ref b52), .unset, .unset, .unset, .unset, .unset, .unset] [(.ref b62)])) (st66) ?_
  refine own_st (T' := T66) (F' := (mkF m 141 #[.val (.long x0), .second, .val (.long x1), .second, .val (.long y0), .second, .val (.long y1), .second, .val (.int fl), .val (.int pp), .val (.int v33), .val (.int v35), .val (.int v37), .val (.int v39), .val (.ref b40), .val (.ref b46), .val (.ref b52), .unset, .unset, .unset, .unset, .unset, .unset] [(.ref b62), (.ref b62)])) (fun _ kq => XS.dup X66.here hx rfl (hb hby at_140) rfl rfl kq) ?_
  refine own_st (T' := T66) (F' := (mkF m 142 #[.val (.long x0), .second, .val (.long x1), .second, .val (.long y0), .second, .val (.long y1), .second, .val (.int fl), .val (.int pp), .val (.int v33), .val (.int v35), .val (.int v37), .val (.int v39), .val (.ref b40), .val (.ref b46), .val (.ref b52), .unset, .unset, .unset, .unset, .unset, .unset] [(.int (1 : Int32)), (.ref b62), (.ref b62)])) (fun _ kq => XS.iconst X66.here hx rfl (hb hby at_141) kq) ?_
  refine own_st (T' := T66) (F' := (mkF m 144 #[.val (.long x0), .second, .val (.long x1), .second, .val (.long y0), .second, .val (.long y1), .second, .val (.int fl), .val (.int pp), .val (.int v33), .val (.int v35), .val (.int v37), .val (.int v39), .val (.ref b40), .val (.ref b46), .val (.ref b52), .unset, .unset, .unset, .unset, .unset, .unset] [(.int v39), (.int (1 : Int32)), (.ref b62), (.ref b62)])) (fun _ kq => XS.iload X66.here hx rfl (hb hby at_142) rfl kq) ?_
  suffices k : own_Ends p e below s room_1.cells room_1.slots (fun v h L => v = some (.int 1) ∧ Fr n0 L) T66 (mkF m 156 #[.val (.long x0), .second, .val (.long x1), .second, .val (.long y0), .second, .val (.long y1), .second, .val (.int fl), .val (.int pp), .val (.int v33), .val (.int v35), .val (.int v37), .val (.int v39), .val (.ref b40), .val (.ref b46), .val (.ref b52), .unset, .unset, .unset, .unset, .unset, .unset] [(.long (if v39 = (0 : Int32) then y1 else (y1 + (1 : Int64)))), (.int (1 : Int32)), (.ref b62), (.ref b62)]) by
    by_cases hc144_68 : v39 = (0 : Int32)
    ·
      rw [if_pos hc144_68] at k
      refine own_st (T' := T66) (F' := (mkF m 154 #[.val (.long x0), .second, .val (.long x1), .second, .val (.long y0), .second, .val (.long y1), .second, .val (.int fl), .val (.int pp), .val (.int v33), .val (.int v35), .val (.int v37), .val (.int v39), .val (.ref b40), .val (.ref b46), .val (.ref b52), .unset, .unset, .unset, .unset, .unset, .unset] [(.int (1 : Int32)), (.ref b62), (.ref b62)])) (fun _ kq => XS.ifYes X66.here hx rfl (pc0 := 144) (pc' := 154) rfl (hb hby at_144) rfl ((if0 _ _).trans (teq hc144_68).1) (by decide) (by decide) kq) ?_
      refine own_st (T' := T66) (F' := (mkF m 156 #[.val (.long x0), .second, .val (.long x1), .second, .val (.long y0), .second, .val (.long y1), .second, .val (.int fl), .val (.int pp), .val (.int v33), .val (.int v35), .val (.int v37), .val (.int v39), .val (.ref b40), .val (.ref b46), .val (.ref b52), .unset, .unset, .unset, .unset, .unset, .unset] [(.long y1), (.int (1 : Int32)), (.ref b62), (.ref b62)])) (fun _ kq => XS.lload X66.here hx rfl (hb hby at_154) rfl kq) ?_
      exact k
    ·
      rw [if_neg hc144_68] at k
      refine own_st (T' := T66) (F' := (mkF m 147 #[.val (.long x0), .second, .val (.long x1), .second, .val (.long y0), .second, .val (.long y1), .second, .val (.int fl), .val (.int pp), .val (.int v33), .val (.int v35), .val (.int v37), .val (.int v39), .val (.ref b40), .val (.ref b46), .val (.ref b52), .unset, .unset, .unset, .unset, .unset, .unset] [(.int (1 : Int32)), (.ref b62), (.ref b62)])) (fun _ kq => XS.ifNo X66.here hx rfl (hb hby at_144) rfl ((if0 _ _).trans (feq hc144_68).1) kq) ?_
      refine own_st (T' := T66) (F' := (mkF m 149 #[.val (.long x0), .second, .val (.long x1), .second, .val (.long y0), .second, .val (.long y1), .second, .val (.int fl), .val (.int pp), .val (.int v33), .val (.int v35), .val (.int v37), .val (.int v39), .val (.ref b40), .val (.ref b46), .val (.ref b52), .unset, .unset, .unset, .unset, .unset, .unset] [(.long y1), (.int (1 : Int32)), (.ref b62), (.ref b62)])) (fun _ kq => XS.lload X66.here hx rfl (hb hby at_147) rfl kq) ?_
      refine own_st (T' := T66) (F' := (mkF m 150 #[.val (.long x0), .second, .val (.long x1), .second, .val (.long y0), .second, .val (.long y1), .second, .val (.int fl), .val (.int pp), .val (.int v33), .val (.int v35), .val (.int v37), .val (.int v39), .val (.ref b40), .val (.ref b46), .val (.ref b52), .unset, .unset, .unset, .unset, .unset, .unset] [(.long (1 : Int64)), (.long y1), (.int (1 : Int32)), (.ref b62), (.ref b62)])) (fun _ kq => XS.lconst X66.here hx rfl (hb hby at_149) kq) ?_
      refine own_st (T' := T66) (F' := (mkF m 151 #[.val (.long x0), .second, .val (.long x1), .second, .val (.long y0), .second, .val (.long y1), .second, .val (.int fl), .val (.int pp), .val (.int v33), .val (.int v35), .val (.int v37), .val (.int v39), .val (.ref b40), .val (.ref b46), .val (.ref b52), .unset, .unset, .unset, .unset, .unset, .unset] [(.long (y1 + (1 : Int64))), (.int (1 : Int32)), (.ref b62), (.ref b62)])) (fun _ kq => XS.ladd X66.here hx rfl (hb hby at_150) rfl kq) ?_
      refine own_st (T' := T66) (F' := (mkF m 156 #[.val (.long x0), .second, .val (.long x1), .second, .val (.long y0), .second, .val (.long y1), .second, .val (.int fl), .val (.int pp), .val (.int v33), .val (.int v35), .val (.int v37), .val (.int v39), .val (.ref b40), .val (.ref b46), .val (.ref b52), .unset, .unset, .unset, .unset, .unset, .unset] [(.long (y1 + (1 : Int64))), (.int (1 : Int32)), (.ref b62), (.ref b62)])) (fun _ kq => XS.goto X66.here hx rfl (pc0 := 151) (pc' := 156) rfl (hb hby at_151) (by decide) (by decide) kq) ?_
      exact k
  generalize hv69 : (if v39 = (0 : Int32) then y1 else (y1 + (1 : Int64))) = v69
  obtain ⟨T70, h70, locs70, X70, e70, N70, W70, V70, st70⟩ := own_stJ X66 hx hZ e66 N66 (ys := [v65, v69]) V66 gb62 (g := (mkF m 156 #[.val (.long x0), .second, .val (.long x1), .second, .val (.long y0), .second, .val (.long y1), .second, .val (.int fl), .val (.int pp), .val (.int v33), .val (.int v35), .val (.int v37), .val (.int v39), .val (.ref b40), .val (.ref b46), .val (.ref b52), .unset, .unset, .unset, .unset, .unset, .unset] [(.long v69), (.int (1 : Int32)), (.ref b62), (.ref b62)])) rfl rfl (hb hby at_156) (by decide) (Nat.le_of_ble_eq_true rfl) rfl
  have VAb40_71 := VAb40_67.other W70 ne_b40_b62
  have VAb46_71 := VAb46_67.other W70 ne_b46_b62
  have VAb52_71 := VAb52_67.other W70 ne_b52_b62
  have Z70 : n0 ≤ h70.size := by rw [W70.size]; exact Z66
  refine own_st (T' := T70) (F' := (mkF m 157 #[.val (.long x0), .second, .val (.long x1), .second, .val (.long y0), .second, .val (.long y1), .second, .val (.int fl), .val (.int pp), .val (.int v33), .val (.int v35), .val (.int v37), .val (.int v39), .val (.ref b40), .val (.ref b46), .val (.ref b52), .unset, .unset, .unset, .unset, .unset, .unset] [(.ref b62)])) (st70) ?_
  refine own_st (T' := T70) (F' := (mkF m 159 #[.val (.long x0), .second, .val (.long x1), .second, .val (.long y0), .second, .val (.long y1), .second, .val (.int fl), .val (.int pp), .val (.int v33), .val (.int v35), .val (.int v37), .val (.int v39), .val (.ref b40), .val (.ref b46), .val (.ref b52), .val (.ref b62), .unset, .unset, .unset, .unset, .unset] [])) (fun _ kq => XS.astore X70.here hx rfl (hb hby at_157) rfl rfl (l' := #[.val (.long x0), .second, .val (.long x1), .second, .val (.long y0), .second, .val (.long y1), .second, .val (.int fl), .val (.int pp), .val (.int v33), .val (.int v35), .val (.int v37), .val (.int v39), .val (.ref b40), .val (.ref b46), .val (.ref b52), .val (.ref b62), .unset, .unset, .unset, .unset, .unset]) rfl kq) ?_
  obtain ⟨T72, h72, X72, e72, E72, A72, D72, -, st72⟩ := newO X70 hx hZ hown (hw _ (List.mem_of_getElem? (i := 1) rfl)) (hw _ (List.mem_of_getElem? (i := 2) rfl)) (hw _ (List.mem_of_getElem? (i := 3) rfl)) e70 (g := (mkF m 159 #[.val (.long x0), .second, .val (.long x1), .second, .val (.long y0), .second, .val (.long y1), .second, .val (.int fl), .val (.int pp), .val (.int v33), .val (.int v35), .val (.int v37), .val (.int v39), .val (.ref b40), .val (.ref b46), .val (.ref b52), .val (.ref b62), .unset, .unset, .unset, .unset, .unset] [])) rfl (hb hby at_159) (by decide) (by decide)
  obtain ⟨b72, g72⟩ : ∃ z, z = h70.size := ⟨_, rfl⟩
  rw [← g72] at A72 D72 st72
  have VAb40_73 := VAb40_71.ext E72
  have VAb46_73 := VAb46_71.ext E72
  have VAb52_73 := VAb52_71.ext E72
  have VAb62_73 := V70.ext E72
  have ne_b40_b72 : b40 ≠ b72 := by rw [g72]; exact Nat.ne_of_lt VAb40_71.lt
  have ne_b46_b72 : b46 ≠ b72 := by rw [g72]; exact Nat.ne_of_lt VAb46_71.lt
  have ne_b52_b72 : b52 ≠ b72 := by rw [g72]; exact Nat.ne_of_lt VAb52_71.lt
  have ne_b62_b72 : b62 ≠ b72 := by rw [g72]; exact Nat.ne_of_lt V70.lt
  have Fb72_low : Fld Z h72 b72 "com/example/forest_grammar/forestgrammar/languages/Family$Box" "low" "[J" .null := D72 (Or.inr (hw _ (List.mem_of_getElem? (i := 11) rfl))) (ty := (.array .long)) (by decide)
  have Fb72_high : Fld Z h72 b72 "com/example/forest_grammar/forestgrammar/languages/Family$Box" "high" "[J" .null := D72 (Or.inr (hw _ (List.mem_of_getElem? (i := 13) rfl))) (ty := (.array .long)) (by decide)
  have gb72 : n0 ≤ b72 := Nat.le_trans Z70 (Nat.le_of_eq g72.symm)
  have Z72 : n0 ≤ h72.size := Nat.le_trans Z70 E72.1
  refine own_st (T' := T72) (F' := (mkF m 162 #[.val (.long x0), .second, .val (.long x1), .second, .val (.long y0), .second, .val (.long y1), .second, .val (.int fl), .val (.int pp), .val (.int v33), .val (.int v35), .val (.int v37), .val (.int v39), .val (.ref b40), .val (.ref b46), .val (.ref b52), .val (.ref b62), .unset, .unset, .unset, .unset, .unset] [(.ref b72)])) (st72) ?_
  refine own_st (T' := T72) (F' := (mkF m 163 #[.val (.long x0), .second, .val (.long x1), .second, .val (.long y0), .second, .val (.long y1), .second, .val (.int fl), .val (.int pp), .val (.int v33), .val (.int v35), .val (.int v37), .val (.int v39), .val (.ref b40), .val (.ref b46), .val (.ref b52), .val (.ref b62), .unset, .unset, .unset, .unset, .unset] [(.ref b72), (.ref b72)])) (fun _ kq => XS.dup X72.here hx rfl (hb hby at_162) rfl rfl kq) ?_
  refine own_st (T' := T72) (F' := (mkF m 165 #[.val (.long x0), .second, .val (.long x1), .second, .val (.long y0), .second, .val (.long y1), .second, .val (.int fl), .val (.int pp), .val (.int v33), .val (.int v35), .val (.int v37), .val (.int v39), .val (.ref b40), .val (.ref b46), .val (.ref b52), .val (.ref b62), .unset, .unset, .unset, .unset, .unset] [(.ref b40), (.ref b72), (.ref b72)])) (fun _ kq => XS.aload X72.here hx rfl (hb hby at_163) rfl rfl kq) ?_
  refine own_st (T' := T72) (F' := (mkF m 167 #[.val (.long x0), .second, .val (.long x1), .second, .val (.long y0), .second, .val (.long y1), .second, .val (.int fl), .val (.int pp), .val (.int v33), .val (.int v35), .val (.int v37), .val (.int v39), .val (.ref b40), .val (.ref b46), .val (.ref b52), .val (.ref b62), .unset, .unset, .unset, .unset, .unset] [(.ref b46), (.ref b40), (.ref b72), (.ref b72)])) (fun _ kq => XS.aload X72.here hx rfl (hb hby at_165) rfl rfl kq) ?_
  obtain ⟨v74, T74, L74, X74, hQ74, st74⟩ := own_callI X72 hx hZ 1 rfl hown (hw _ (List.mem_of_getElem? (i := 4) rfl)) (hw _ (List.mem_of_getElem? (i := 5) rfl)) (hw _ (List.mem_of_getElem? (i := 3) rfl)) (hw _ (List.mem_of_getElem? (i := 6) rfl)) (by decide) (rm1 l Z a0 hw [] b72 b40 b46 h72 n0 Z72 gb72 A72 Fb72_low Fb72_high) (by decide) (by decide) e72 (by decide) (by decide) (g := (mkF m 167 #[.val (.long x0), .second, .val (.long x1), .second, .val (.long y0), .second, .val (.long y1), .second, .val (.int fl), .val (.int pp), .val (.int v33), .val (.int v35), .val (.int v37), .val (.int v39), .val (.ref b40), .val (.ref b46), .val (.ref b52), .val (.ref b62), .unset, .unset, .unset, .unset, .unset] [(.ref b46), (.ref b40), (.ref b72), (.ref b72)])) rfl (by rw [hml]; rfl) (argsL := [(.ref b40), (.ref b46)]) (rest := [(.ref b72)]) (lenOf pd0 rfl) rfl rfl (by show 2 * 0 + _ ≤ _; exact Nat.le_of_eq rfl) (hb hby at_167)
  obtain ⟨rfl, NQ74, K74, E74, Fl74, Fh74⟩ := hQ74
  have N74 := Fr.app N70 NQ74
  have Z74 := Nat.le_trans Z72 K74.1
  have VAb40_74 := VAb40_73.keep K74 (ninS ne_b40_b72 nin0)
  have VAb46_74 := VAb46_73.keep K74 (ninS ne_b46_b72 nin0)
  have VAb52_74 := VAb52_73.keep K74 (ninS ne_b52_b72 nin0)
  have VAb62_74 := VAb62_73.keep K74 (ninS ne_b62_b72 nin0)
  refine own_st (T' := T74) (F' := (mkF m 170 #[.val (.long x0), .second, .val (.long x1), .second, .val (.long y0), .second, .val (.long y1), .second, .val (.int fl), .val (.int pp), .val (.int v33), .val (.int v35), .val (.int v37), .val (.int v39), .val (.ref b40), .val (.ref b46), .val (.ref b52), .val (.ref b62), .unset, .unset, .unset, .unset, .unset] [(.ref b72)])) (st74) ?_
  refine own_st (T' := T74) (F' := (mkF m 172 #[.val (.long x0), .second, .val (.long x1), .second, .val (.long y0), .second, .val (.long y1), .second, .val (.int fl), .val (.int pp), .val (.int v33), .val (.int v35), .val (.int v37), .val (.int v39), .val (.ref b40), .val (.ref b46), .val (.ref b52), .val (.ref b62), .val (.ref b72), .unset, .unset, .unset, .unset] [])) (fun _ kq => XS.astore X74.here hx rfl (hb hby at_170) rfl rfl (l' := #[.val (.long x0), .second, .val (.long x1), .second, .val (.long y0), .second, .val (.long y1), .second, .val (.int fl), .val (.int pp), .val (.int v33), .val (.int v35), .val (.int v37), .val (.int v39), .val (.ref b40), .val (.ref b46), .val (.ref b52), .val (.ref b62), .val (.ref b72), .unset, .unset, .unset, .unset]) rfl kq) ?_
  obtain ⟨T75, h75, X75, e75, E75, A75, D75, -, st75⟩ := newO X74 hx hZ hown (hw _ (List.mem_of_getElem? (i := 1) rfl)) (hw _ (List.mem_of_getElem? (i := 2) rfl)) (hw _ (List.mem_of_getElem? (i := 3) rfl)) rfl (g := (mkF m 172 #[.val (.long x0), .second, .val (.long x1), .second, .val (.long y0), .second, .val (.long y1), .second, .val (.int fl), .val (.int pp), .val (.int v33), .val (.int v35), .val (.int v37), .val (.int v39), .val (.ref b40), .val (.ref b46), .val (.ref b52), .val (.ref b62), .val (.ref b72), .unset, .unset, .unset, .unset] [])) rfl (hb hby at_172) (by decide) (by decide)
  obtain ⟨b75, g75⟩ : ∃ z, z = T74.heap.size := ⟨_, rfl⟩
  rw [← g75] at A75 D75 st75
  have VAb40_76 := VAb40_74.ext E75
  have VAb46_76 := VAb46_74.ext E75
  have VAb52_76 := VAb52_74.ext E75
  have VAb62_76 := VAb62_74.ext E75
  have FAb72_low_76 := Fl74.ext E75
  have FAb72_high_76 := Fh74.ext E75
  have EAb72_76 := Exa.ext E75 E74
  have ne_b40_b75 : b40 ≠ b75 := by rw [g75]; exact Nat.ne_of_lt VAb40_74.lt
  have ne_b46_b75 : b46 ≠ b75 := by rw [g75]; exact Nat.ne_of_lt VAb46_74.lt
  have ne_b52_b75 : b52 ≠ b75 := by rw [g75]; exact Nat.ne_of_lt VAb52_74.lt
  have ne_b62_b75 : b62 ≠ b75 := by rw [g75]; exact Nat.ne_of_lt VAb62_74.lt
  have ne_b72_b75 : b72 ≠ b75 := by rw [g75]; exact Nat.ne_of_lt E74.lt
  have Fb75_low : Fld Z h75 b75 "com/example/forest_grammar/forestgrammar/languages/Family$Box" "low" "[J" .null := D75 (Or.inr (hw _ (List.mem_of_getElem? (i := 11) rfl))) (ty := (.array .long)) (by decide)
  have Fb75_high : Fld Z h75 b75 "com/example/forest_grammar/forestgrammar/languages/Family$Box" "high" "[J" .null := D75 (Or.inr (hw _ (List.mem_of_getElem? (i := 13) rfl))) (ty := (.array .long)) (by decide)
  have gb75 : n0 ≤ b75 := Nat.le_trans Z74 (Nat.le_of_eq g75.symm)
  have Z75 : n0 ≤ h75.size := Nat.le_trans Z74 E75.1
  refine own_st (T' := T75) (F' := (mkF m 175 #[.val (.long x0), .second, .val (.long x1), .second, .val (.long y0), .second, .val (.long y1), .second, .val (.int fl), .val (.int pp), .val (.int v33), .val (.int v35), .val (.int v37), .val (.int v39), .val (.ref b40), .val (.ref b46), .val (.ref b52), .val (.ref b62), .val (.ref b72), .unset, .unset, .unset, .unset] [(.ref b75)])) (st75) ?_
  refine own_st (T' := T75) (F' := (mkF m 176 #[.val (.long x0), .second, .val (.long x1), .second, .val (.long y0), .second, .val (.long y1), .second, .val (.int fl), .val (.int pp), .val (.int v33), .val (.int v35), .val (.int v37), .val (.int v39), .val (.ref b40), .val (.ref b46), .val (.ref b52), .val (.ref b62), .val (.ref b72), .unset, .unset, .unset, .unset] [(.ref b75), (.ref b75)])) (fun _ kq => XS.dup X75.here hx rfl (hb hby at_175) rfl rfl kq) ?_
  refine own_st (T' := T75) (F' := (mkF m 178 #[.val (.long x0), .second, .val (.long x1), .second, .val (.long y0), .second, .val (.long y1), .second, .val (.int fl), .val (.int pp), .val (.int v33), .val (.int v35), .val (.int v37), .val (.int v39), .val (.ref b40), .val (.ref b46), .val (.ref b52), .val (.ref b62), .val (.ref b72), .unset, .unset, .unset, .unset] [(.ref b52), (.ref b75), (.ref b75)])) (fun _ kq => XS.aload X75.here hx rfl (hb hby at_176) rfl rfl kq) ?_
  refine own_st (T' := T75) (F' := (mkF m 180 #[.val (.long x0), .second, .val (.long x1), .second, .val (.long y0), .second, .val (.long y1), .second, .val (.int fl), .val (.int pp), .val (.int v33), .val (.int v35), .val (.int v37), .val (.int v39), .val (.ref b40), .val (.ref b46), .val (.ref b52), .val (.ref b62), .val (.ref b72), .unset, .unset, .unset, .unset] [(.ref b62), (.ref b52), (.ref b75), (.ref b75)])) (fun _ kq => XS.aload X75.here hx rfl (hb hby at_178) rfl rfl kq) ?_
  obtain ⟨v77, T77, L77, X77, hQ77, st77⟩ := own_callI X75 hx hZ 1 rfl hown (hw _ (List.mem_of_getElem? (i := 4) rfl)) (hw _ (List.mem_of_getElem? (i := 5) rfl)) (hw _ (List.mem_of_getElem? (i := 3) rfl)) (hw _ (List.mem_of_getElem? (i := 6) rfl)) (by decide) (rm1 l Z a0 hw [] b75 b52 b62 h75 n0 Z75 gb75 A75 Fb75_low Fb75_high) (by decide) (by decide) e75 (by decide) (by decide) (g := (mkF m 180 #[.val (.long x0), .second, .val (.long x1), .second, .val (.long y0), .second, .val (.long y1), .second, .val (.int fl), .val (.int pp), .val (.int v33), .val (.int v35), .val (.int v37), .val (.int v39), .val (.ref b40), .val (.ref b46), .val (.ref b52), .val (.ref b62), .val (.ref b72), .unset, .unset, .unset, .unset] [(.ref b62), (.ref b52), (.ref b75), (.ref b75)])) rfl (by rw [hml]; rfl) (argsL := [(.ref b52), (.ref b62)]) (rest := [(.ref b75)]) (lenOf pd0 rfl) rfl rfl (by show 2 * 0 + _ ≤ _; exact Nat.le_of_eq rfl) (hb hby at_180)
  obtain ⟨rfl, NQ77, K77, E77, Fl77, Fh77⟩ := hQ77
  have N77 := Fr.app N74 NQ77
  have Z77 := Nat.le_trans Z75 K77.1
  have VAb40_77 := VAb40_76.keep K77 (ninS ne_b40_b75 nin0)
  have VAb46_77 := VAb46_76.keep K77 (ninS ne_b46_b75 nin0)
  have VAb52_77 := VAb52_76.keep K77 (ninS ne_b52_b75 nin0)
  have VAb62_77 := VAb62_76.keep K77 (ninS ne_b62_b75 nin0)
  have FAb72_low_77 := FAb72_low_76.keep K77 (ninS ne_b72_b75 nin0)
  have FAb72_high_77 := FAb72_high_76.keep K77 (ninS ne_b72_b75 nin0)
  have EAb72_77 := EAb72_76.keep K77
  refine own_st (T' := T77) (F' := (mkF m 183 #[.val (.long x0), .second, .val (.long x1), .second, .val (.long y0), .second, .val (.long y1), .second, .val (.int fl), .val (.int pp), .val (.int v33), .val (.int v35), .val (.int v37), .val (.int v39), .val (.ref b40), .val (.ref b46), .val (.ref b52), .val (.ref b62), .val (.ref b72), .unset, .unset, .unset, .unset] [(.ref b75)])) (st77) ?_
  refine own_st (T' := T77) (F' := (mkF m 185 #[.val (.long x0), .second, .val (.long x1), .second, .val (.long y0), .second, .val (.long y1), .second, .val (.int fl), .val (.int pp), .val (.int v33), .val (.int v35), .val (.int v37), .val (.int v39), .val (.ref b40), .val (.ref b46), .val (.ref b52), .val (.ref b62), .val (.ref b72), .val (.ref b75), .unset, .unset, .unset] [])) (fun _ kq => XS.astore X77.here hx rfl (hb hby at_183) rfl rfl (l' := #[.val (.long x0), .second, .val (.long x1), .second, .val (.long y0), .second, .val (.long y1), .second, .val (.int fl), .val (.int pp), .val (.int v33), .val (.int v35), .val (.int v37), .val (.int v39), .val (.ref b40), .val (.ref b46), .val (.ref b52), .val (.ref b62), .val (.ref b72), .val (.ref b75), .unset, .unset, .unset]) rfl kq) ?_
  refine own_st (T' := T77) (F' := (mkF m 187 #[.val (.long x0), .second, .val (.long x1), .second, .val (.long y0), .second, .val (.long y1), .second, .val (.int fl), .val (.int pp), .val (.int v33), .val (.int v35), .val (.int v37), .val (.int v39), .val (.ref b40), .val (.ref b46), .val (.ref b52), .val (.ref b62), .val (.ref b72), .val (.ref b75), .unset, .unset, .unset] [(.int v33)])) (fun _ kq => XS.iload X77.here hx rfl (hb hby at_185) rfl kq) ?_
  suffices k : own_Ends p e below s room_1.cells room_1.slots (fun v h L => v = some (.int 1) ∧ Fr n0 L) T77 (mkF m 200 #[.val (.long x0), .second, .val (.long x1), .second, .val (.long y0), .second, .val (.long y1), .second, .val (.int fl), .val (.int pp), .val (.int v33), .val (.int v35), .val (.int v37), .val (.int v39), .val (.ref b40), .val (.ref b46), .val (.ref b52), .val (.ref b62), .val (.ref b72), .val (.ref b75), .unset, .unset, .unset] [(.int (if v33 = (0 : Int32) then (if v35 = (0 : Int32) then (1 : Int32) else (0 : Int32)) else (0 : Int32)))]) by
    by_cases hc187_78 : v33 = (0 : Int32)
    ·
      rw [if_pos hc187_78] at k
      refine own_st (T' := T77) (F' := (mkF m 190 #[.val (.long x0), .second, .val (.long x1), .second, .val (.long y0), .second, .val (.long y1), .second, .val (.int fl), .val (.int pp), .val (.int v33), .val (.int v35), .val (.int v37), .val (.int v39), .val (.ref b40), .val (.ref b46), .val (.ref b52), .val (.ref b62), .val (.ref b72), .val (.ref b75), .unset, .unset, .unset] [])) (fun _ kq => XS.ifNo X77.here hx rfl (hb hby at_187) rfl ((if0 _ _).trans (teq hc187_78).2) kq) ?_
      refine own_st (T' := T77) (F' := (mkF m 192 #[.val (.long x0), .second, .val (.long x1), .second, .val (.long y0), .second, .val (.long y1), .second, .val (.int fl), .val (.int pp), .val (.int v33), .val (.int v35), .val (.int v37), .val (.int v39), .val (.ref b40), .val (.ref b46), .val (.ref b52), .val (.ref b62), .val (.ref b72), .val (.ref b75), .unset, .unset, .unset] [(.int v35)])) (fun _ kq => XS.iload X77.here hx rfl (hb hby at_190) rfl kq) ?_
      by_cases hc192_79 : v35 = (0 : Int32)
      ·
        rw [if_pos hc192_79] at k
        refine own_st (T' := T77) (F' := (mkF m 195 #[.val (.long x0), .second, .val (.long x1), .second, .val (.long y0), .second, .val (.long y1), .second, .val (.int fl), .val (.int pp), .val (.int v33), .val (.int v35), .val (.int v37), .val (.int v39), .val (.ref b40), .val (.ref b46), .val (.ref b52), .val (.ref b62), .val (.ref b72), .val (.ref b75), .unset, .unset, .unset] [])) (fun _ kq => XS.ifNo X77.here hx rfl (hb hby at_192) rfl ((if0 _ _).trans (teq hc192_79).2) kq) ?_
        refine own_st (T' := T77) (F' := (mkF m 196 #[.val (.long x0), .second, .val (.long x1), .second, .val (.long y0), .second, .val (.long y1), .second, .val (.int fl), .val (.int pp), .val (.int v33), .val (.int v35), .val (.int v37), .val (.int v39), .val (.ref b40), .val (.ref b46), .val (.ref b52), .val (.ref b62), .val (.ref b72), .val (.ref b75), .unset, .unset, .unset] [(.int (1 : Int32))])) (fun _ kq => XS.iconst X77.here hx rfl (hb hby at_195) kq) ?_
        refine own_st (T' := T77) (F' := (mkF m 200 #[.val (.long x0), .second, .val (.long x1), .second, .val (.long y0), .second, .val (.long y1), .second, .val (.int fl), .val (.int pp), .val (.int v33), .val (.int v35), .val (.int v37), .val (.int v39), .val (.ref b40), .val (.ref b46), .val (.ref b52), .val (.ref b62), .val (.ref b72), .val (.ref b75), .unset, .unset, .unset] [(.int (1 : Int32))])) (fun _ kq => XS.goto X77.here hx rfl (pc0 := 196) (pc' := 200) rfl (hb hby at_196) (by decide) (by decide) kq) ?_
        exact k
      ·
        rw [if_neg hc192_79] at k
        refine own_st (T' := T77) (F' := (mkF m 199 #[.val (.long x0), .second, .val (.long x1), .second, .val (.long y0), .second, .val (.long y1), .second, .val (.int fl), .val (.int pp), .val (.int v33), .val (.int v35), .val (.int v37), .val (.int v39), .val (.ref b40), .val (.ref b46), .val (.ref b52), .val (.ref b62), .val (.ref b72), .val (.ref b75), .unset, .unset, .unset] [])) (fun _ kq => XS.ifYes X77.here hx rfl (pc0 := 192) (pc' := 199) rfl (hb hby at_192) rfl ((if0 _ _).trans (feq hc192_79).2) (by decide) (by decide) kq) ?_
        refine own_st (T' := T77) (F' := (mkF m 200 #[.val (.long x0), .second, .val (.long x1), .second, .val (.long y0), .second, .val (.long y1), .second, .val (.int fl), .val (.int pp), .val (.int v33), .val (.int v35), .val (.int v37), .val (.int v39), .val (.ref b40), .val (.ref b46), .val (.ref b52), .val (.ref b62), .val (.ref b72), .val (.ref b75), .unset, .unset, .unset] [(.int (0 : Int32))])) (fun _ kq => XS.iconst X77.here hx rfl (hb hby at_199) kq) ?_
        exact k
    ·
      rw [if_neg hc187_78] at k
      refine own_st (T' := T77) (F' := (mkF m 199 #[.val (.long x0), .second, .val (.long x1), .second, .val (.long y0), .second, .val (.long y1), .second, .val (.int fl), .val (.int pp), .val (.int v33), .val (.int v35), .val (.int v37), .val (.int v39), .val (.ref b40), .val (.ref b46), .val (.ref b52), .val (.ref b62), .val (.ref b72), .val (.ref b75), .unset, .unset, .unset] [])) (fun _ kq => XS.ifYes X77.here hx rfl (pc0 := 187) (pc' := 199) rfl (hb hby at_187) rfl ((if0 _ _).trans (feq hc187_78).2) (by decide) (by decide) kq) ?_
      refine own_st (T' := T77) (F' := (mkF m 200 #[.val (.long x0), .second, .val (.long x1), .second, .val (.long y0), .second, .val (.long y1), .second, .val (.int fl), .val (.int pp), .val (.int v33), .val (.int v35), .val (.int v37), .val (.int v39), .val (.ref b40), .val (.ref b46), .val (.ref b52), .val (.ref b62), .val (.ref b72), .val (.ref b75), .unset, .unset, .unset] [(.int (0 : Int32))])) (fun _ kq => XS.iconst X77.here hx rfl (hb hby at_199) kq) ?_
      exact k
  generalize hv80 : (if v33 = (0 : Int32) then (if v35 = (0 : Int32) then (1 : Int32) else (0 : Int32)) else (0 : Int32)) = v80
  refine own_st (T' := T77) (F' := (mkF m 202 #[.val (.long x0), .second, .val (.long x1), .second, .val (.long y0), .second, .val (.long y1), .second, .val (.int fl), .val (.int pp), .val (.int v33), .val (.int v35), .val (.int v37), .val (.int v39), .val (.ref b40), .val (.ref b46), .val (.ref b52), .val (.ref b62), .val (.ref b72), .val (.ref b75), .val (.int v80), .unset, .unset] [])) (fun _ kq => XS.istore X77.here hx rfl (hb hby at_200) rfl (l' := #[.val (.long x0), .second, .val (.long x1), .second, .val (.long y0), .second, .val (.long y1), .second, .val (.int fl), .val (.int pp), .val (.int v33), .val (.int v35), .val (.int v37), .val (.int v39), .val (.ref b40), .val (.ref b46), .val (.ref b52), .val (.ref b62), .val (.ref b72), .val (.ref b75), .val (.int v80), .unset, .unset]) rfl kq) ?_
  refine own_st (T' := T77) (F' := (mkF m 204 #[.val (.long x0), .second, .val (.long x1), .second, .val (.long y0), .second, .val (.long y1), .second, .val (.int fl), .val (.int pp), .val (.int v33), .val (.int v35), .val (.int v37), .val (.int v39), .val (.ref b40), .val (.ref b46), .val (.ref b52), .val (.ref b62), .val (.ref b72), .val (.ref b75), .val (.int v80), .unset, .unset] [(.int v37)])) (fun _ kq => XS.iload X77.here hx rfl (hb hby at_202) rfl kq) ?_
  suffices k : own_Ends p e below s room_1.cells room_1.slots (fun v h L => v = some (.int 1) ∧ Fr n0 L) T77 (mkF m 217 #[.val (.long x0), .second, .val (.long x1), .second, .val (.long y0), .second, .val (.long y1), .second, .val (.int fl), .val (.int pp), .val (.int v33), .val (.int v35), .val (.int v37), .val (.int v39), .val (.ref b40), .val (.ref b46), .val (.ref b52), .val (.ref b62), .val (.ref b72), .val (.ref b75), .val (.int v80), .unset, .unset] [(.int (if v37 = (0 : Int32) then (if v39 = (0 : Int32) then (1 : Int32) else (0 : Int32)) else (0 : Int32)))]) by
    by_cases hc204_81 : v37 = (0 : Int32)
    ·
      rw [if_pos hc204_81] at k
      refine own_st (T' := T77) (F' := (mkF m 207 #[.val (.long x0), .second, .val (.long x1), .second, .val (.long y0), .second, .val (.long y1), .second, .val (.int fl), .val (.int pp), .val (.int v33), .val (.int v35), .val (.int v37), .val (.int v39), .val (.ref b40), .val (.ref b46), .val (.ref b52), .val (.ref b62), .val (.ref b72), .val (.ref b75), .val (.int v80), .unset, .unset] [])) (fun _ kq => XS.ifNo X77.here hx rfl (hb hby at_204) rfl ((if0 _ _).trans (teq hc204_81).2) kq) ?_
      refine own_st (T' := T77) (F' := (mkF m 209 #[.val (.long x0), .second, .val (.long x1), .second, .val (.long y0), .second, .val (.long y1), .second, .val (.int fl), .val (.int pp), .val (.int v33), .val (.int v35), .val (.int v37), .val (.int v39), .val (.ref b40), .val (.ref b46), .val (.ref b52), .val (.ref b62), .val (.ref b72), .val (.ref b75), .val (.int v80), .unset, .unset] [(.int v39)])) (fun _ kq => XS.iload X77.here hx rfl (hb hby at_207) rfl kq) ?_
      by_cases hc209_82 : v39 = (0 : Int32)
      ·
        rw [if_pos hc209_82] at k
        refine own_st (T' := T77) (F' := (mkF m 212 #[.val (.long x0), .second, .val (.long x1), .second, .val (.long y0), .second, .val (.long y1), .second, .val (.int fl), .val (.int pp), .val (.int v33), .val (.int v35), .val (.int v37), .val (.int v39), .val (.ref b40), .val (.ref b46), .val (.ref b52), .val (.ref b62), .val (.ref b72), .val (.ref b75), .val (.int v80), .unset, .unset] [])) (fun _ kq => XS.ifNo X77.here hx rfl (hb hby at_209) rfl ((if0 _ _).trans (teq hc209_82).2) kq) ?_
        refine own_st (T' := T77) (F' := (mkF m 213 #[.val (.long x0), .second, .val (.long x1), .second, .val (.long y0), .second, .val (.long y1), .second, .val (.int fl), .val (.int pp), .val (.int v33), .val (.int v35), .val (.int v37), .val (.int v39), .val (.ref b40), .val (.ref b46), .val (.ref b52), .val (.ref b62), .val (.ref b72), .val (.ref b75), .val (.int v80), .unset, .unset] [(.int (1 : Int32))])) (fun _ kq => XS.iconst X77.here hx rfl (hb hby at_212) kq) ?_
        refine own_st (T' := T77) (F' := (mkF m 217 #[.val (.long x0), .second, .val (.long x1), .second, .val (.long y0), .second, .val (.long y1), .second, .val (.int fl), .val (.int pp), .val (.int v33), .val (.int v35), .val (.int v37), .val (.int v39), .val (.ref b40), .val (.ref b46), .val (.ref b52), .val (.ref b62), .val (.ref b72), .val (.ref b75), .val (.int v80), .unset, .unset] [(.int (1 : Int32))])) (fun _ kq => XS.goto X77.here hx rfl (pc0 := 213) (pc' := 217) rfl (hb hby at_213) (by decide) (by decide) kq) ?_
        exact k
      ·
        rw [if_neg hc209_82] at k
        refine own_st (T' := T77) (F' := (mkF m 216 #[.val (.long x0), .second, .val (.long x1), .second, .val (.long y0), .second, .val (.long y1), .second, .val (.int fl), .val (.int pp), .val (.int v33), .val (.int v35), .val (.int v37), .val (.int v39), .val (.ref b40), .val (.ref b46), .val (.ref b52), .val (.ref b62), .val (.ref b72), .val (.ref b75), .val (.int v80), .unset, .unset] [])) (fun _ kq => XS.ifYes X77.here hx rfl (pc0 := 209) (pc' := 216) rfl (hb hby at_209) rfl ((if0 _ _).trans (feq hc209_82).2) (by decide) (by decide) kq) ?_
        refine own_st (T' := T77) (F' := (mkF m 217 #[.val (.long x0), .second, .val (.long x1), .second, .val (.long y0), .second, .val (.long y1), .second, .val (.int fl), .val (.int pp), .val (.int v33), .val (.int v35), .val (.int v37), .val (.int v39), .val (.ref b40), .val (.ref b46), .val (.ref b52), .val (.ref b62), .val (.ref b72), .val (.ref b75), .val (.int v80), .unset, .unset] [(.int (0 : Int32))])) (fun _ kq => XS.iconst X77.here hx rfl (hb hby at_216) kq) ?_
        exact k
    ·
      rw [if_neg hc204_81] at k
      refine own_st (T' := T77) (F' := (mkF m 216 #[.val (.long x0), .second, .val (.long x1), .second, .val (.long y0), .second, .val (.long y1), .second, .val (.int fl), .val (.int pp), .val (.int v33), .val (.int v35), .val (.int v37), .val (.int v39), .val (.ref b40), .val (.ref b46), .val (.ref b52), .val (.ref b62), .val (.ref b72), .val (.ref b75), .val (.int v80), .unset, .unset] [])) (fun _ kq => XS.ifYes X77.here hx rfl (pc0 := 204) (pc' := 216) rfl (hb hby at_204) rfl ((if0 _ _).trans (feq hc204_81).2) (by decide) (by decide) kq) ?_
      refine own_st (T' := T77) (F' := (mkF m 217 #[.val (.long x0), .second, .val (.long x1), .second, .val (.long y0), .second, .val (.long y1), .second, .val (.int fl), .val (.int pp), .val (.int v33), .val (.int v35), .val (.int v37), .val (.int v39), .val (.ref b40), .val (.ref b46), .val (.ref b52), .val (.ref b62), .val (.ref b72), .val (.ref b75), .val (.int v80), .unset, .unset] [(.int (0 : Int32))])) (fun _ kq => XS.iconst X77.here hx rfl (hb hby at_216) kq) ?_
      exact k
  generalize hv83 : (if v37 = (0 : Int32) then (if v39 = (0 : Int32) then (1 : Int32) else (0 : Int32)) else (0 : Int32)) = v83
  refine own_st (T' := T77) (F' := (mkF m 219 #[.val (.long x0), .second, .val (.long x1), .second, .val (.long y0), .second, .val (.long y1), .second, .val (.int fl), .val (.int pp), .val (.int v33), .val (.int v35), .val (.int v37), .val (.int v39), .val (.ref b40), .val (.ref b46), .val (.ref b52), .val (.ref b62), .val (.ref b72), .val (.ref b75), .val (.int v80), .val (.int v83), .unset] [])) (fun _ kq => XS.istore X77.here hx rfl (hb hby at_217) rfl (l' := #[.val (.long x0), .second, .val (.long x1), .second, .val (.long y0), .second, .val (.long y1), .second, .val (.int fl), .val (.int pp), .val (.int v33), .val (.int v35), .val (.int v37), .val (.int v39), .val (.ref b40), .val (.ref b46), .val (.ref b52), .val (.ref b62), .val (.ref b72), .val (.ref b75), .val (.int v80), .val (.int v83), .unset]) rfl kq) ?_
  refine own_st (T' := T77) (F' := (mkF m 221 #[.val (.long x0), .second, .val (.long x1), .second, .val (.long y0), .second, .val (.long y1), .second, .val (.int fl), .val (.int pp), .val (.int v33), .val (.int v35), .val (.int v37), .val (.int v39), .val (.ref b40), .val (.ref b46), .val (.ref b52), .val (.ref b62), .val (.ref b72), .val (.ref b75), .val (.int v80), .val (.int v83), .unset] [(.int pp)])) (fun _ kq => XS.iload X77.here hx rfl (hb hby at_219) rfl kq) ?_
  suffices k : own_Ends p e below s room_1.cells room_1.slots (fun v h L => v = some (.int 1) ∧ Fr n0 L) T77 (mkF m 245 #[.val (.long x0), .second, .val (.long x1), .second, .val (.long y0), .second, .val (.long y1), .second, .val (.int fl), .val (.int pp), .val (.int v33), .val (.int v35), .val (.int v37), .val (.int v39), .val (.ref b40), .val (.ref b46), .val (.ref b52), .val (.ref b62), .val (.ref b72), .val (.ref b75), .val (.int v80), .val (.int v83), .unset] [(.int (if pp = (0 : Int32) then (if pp = (1 : Int32) then (1 : Int32) else (if v83 = (0 : Int32) then (0 : Int32) else (1 : Int32))) else (if v80 = (0 : Int32) then (0 : Int32) else (if pp = (1 : Int32) then (1 : Int32) else (if v83 = (0 : Int32) then (0 : Int32) else (1 : Int32))))))]) by
    by_cases hc221_84 : pp = (0 : Int32)
    ·
      rw [if_pos hc221_84] at k
      refine own_st (T' := T77) (F' := (mkF m 229 #[.val (.long x0), .second, .val (.long x1), .second, .val (.long y0), .second, .val (.long y1), .second, .val (.int fl), .val (.int pp), .val (.int v33), .val (.int v35), .val (.int v37), .val (.int v39), .val (.ref b40), .val (.ref b46), .val (.ref b52), .val (.ref b62), .val (.ref b72), .val (.ref b75), .val (.int v80), .val (.int v83), .unset] [])) (fun _ kq => XS.ifYes X77.here hx rfl (pc0 := 221) (pc' := 229) rfl (hb hby at_221) rfl ((if0 _ _).trans (teq hc221_84).1) (by decide) (by decide) kq) ?_
      refine own_st (T' := T77) (F' := (mkF m 231 #[.val (.long x0), .second, .val (.long x1), .second, .val (.long y0), .second, .val (.long y1), .second, .val (.int fl), .val (.int pp), .val (.int v33), .val (.int v35), .val (.int v37), .val (.int v39), .val (.ref b40), .val (.ref b46), .val (.ref b52), .val (.ref b62), .val (.ref b72), .val (.ref b75), .val (.int v80), .val (.int v83), .unset] [(.int pp)])) (fun _ kq => XS.iload X77.here hx rfl (hb hby at_229) rfl kq) ?_
      refine own_st (T' := T77) (F' := (mkF m 232 #[.val (.long x0), .second, .val (.long x1), .second, .val (.long y0), .second, .val (.long y1), .second, .val (.int fl), .val (.int pp), .val (.int v33), .val (.int v35), .val (.int v37), .val (.int v39), .val (.ref b40), .val (.ref b46), .val (.ref b52), .val (.ref b62), .val (.ref b72), .val (.ref b75), .val (.int v80), .val (.int v83), .unset] [(.int (1 : Int32)), (.int pp)])) (fun _ kq => XS.iconst X77.here hx rfl (hb hby at_231) kq) ?_
      by_cases hc232_85 : pp = (1 : Int32)
      ·
        rw [if_pos hc232_85] at k
        refine own_st (T' := T77) (F' := (mkF m 240 #[.val (.long x0), .second, .val (.long x1), .second, .val (.long y0), .second, .val (.long y1), .second, .val (.int fl), .val (.int pp), .val (.int v33), .val (.int v35), .val (.int v37), .val (.int v39), .val (.ref b40), .val (.ref b46), .val (.ref b52), .val (.ref b62), .val (.ref b72), .val (.ref b75), .val (.int v80), .val (.int v83), .unset] [])) (fun _ kq => XS.icmpYes X77.here hx rfl (pc0 := 232) (pc' := 240) rfl (hb hby at_232) rfl (teq hc232_85).1 (by decide) (by decide) kq) ?_
        refine own_st (T' := T77) (F' := (mkF m 241 #[.val (.long x0), .second, .val (.long x1), .second, .val (.long y0), .second, .val (.long y1), .second, .val (.int fl), .val (.int pp), .val (.int v33), .val (.int v35), .val (.int v37), .val (.int v39), .val (.ref b40), .val (.ref b46), .val (.ref b52), .val (.ref b62), .val (.ref b72), .val (.ref b75), .val (.int v80), .val (.int v83), .unset] [(.int (1 : Int32))])) (fun _ kq => XS.iconst X77.here hx rfl (hb hby at_240) kq) ?_
        refine own_st (T' := T77) (F' := (mkF m 245 #[.val (.long x0), .second, .val (.long x1), .second, .val (.long y0), .second, .val (.long y1), .second, .val (.int fl), .val (.int pp), .val (.int v33), .val (.int v35), .val (.int v37), .val (.int v39), .val (.ref b40), .val (.ref b46), .val (.ref b52), .val (.ref b62), .val (.ref b72), .val (.ref b75), .val (.int v80), .val (.int v83), .unset] [(.int (1 : Int32))])) (fun _ kq => XS.goto X77.here hx rfl (pc0 := 241) (pc' := 245) rfl (hb hby at_241) (by decide) (by decide) kq) ?_
        exact k
      ·
        rw [if_neg hc232_85] at k
        refine own_st (T' := T77) (F' := (mkF m 235 #[.val (.long x0), .second, .val (.long x1), .second, .val (.long y0), .second, .val (.long y1), .second, .val (.int fl), .val (.int pp), .val (.int v33), .val (.int v35), .val (.int v37), .val (.int v39), .val (.ref b40), .val (.ref b46), .val (.ref b52), .val (.ref b62), .val (.ref b72), .val (.ref b75), .val (.int v80), .val (.int v83), .unset] [])) (fun _ kq => XS.icmpNo X77.here hx rfl (hb hby at_232) rfl (feq hc232_85).1 kq) ?_
        refine own_st (T' := T77) (F' := (mkF m 237 #[.val (.long x0), .second, .val (.long x1), .second, .val (.long y0), .second, .val (.long y1), .second, .val (.int fl), .val (.int pp), .val (.int v33), .val (.int v35), .val (.int v37), .val (.int v39), .val (.ref b40), .val (.ref b46), .val (.ref b52), .val (.ref b62), .val (.ref b72), .val (.ref b75), .val (.int v80), .val (.int v83), .unset] [(.int v83)])) (fun _ kq => XS.iload X77.here hx rfl (hb hby at_235) rfl kq) ?_
        by_cases hc237_86 : v83 = (0 : Int32)
        ·
          rw [if_pos hc237_86] at k
          refine own_st (T' := T77) (F' := (mkF m 244 #[.val (.long x0), .second, .val (.long x1), .second, .val (.long y0), .second, .val (.long y1), .second, .val (.int fl), .val (.int pp), .val (.int v33), .val (.int v35), .val (.int v37), .val (.int v39), .val (.ref b40), .val (.ref b46), .val (.ref b52), .val (.ref b62), .val (.ref b72), .val (.ref b75), .val (.int v80), .val (.int v83), .unset] [])) (fun _ kq => XS.ifYes X77.here hx rfl (pc0 := 237) (pc' := 244) rfl (hb hby at_237) rfl ((if0 _ _).trans (teq hc237_86).1) (by decide) (by decide) kq) ?_
          refine own_st (T' := T77) (F' := (mkF m 245 #[.val (.long x0), .second, .val (.long x1), .second, .val (.long y0), .second, .val (.long y1), .second, .val (.int fl), .val (.int pp), .val (.int v33), .val (.int v35), .val (.int v37), .val (.int v39), .val (.ref b40), .val (.ref b46), .val (.ref b52), .val (.ref b62), .val (.ref b72), .val (.ref b75), .val (.int v80), .val (.int v83), .unset] [(.int (0 : Int32))])) (fun _ kq => XS.iconst X77.here hx rfl (hb hby at_244) kq) ?_
          exact k
        ·
          rw [if_neg hc237_86] at k
          refine own_st (T' := T77) (F' := (mkF m 240 #[.val (.long x0), .second, .val (.long x1), .second, .val (.long y0), .second, .val (.long y1), .second, .val (.int fl), .val (.int pp), .val (.int v33), .val (.int v35), .val (.int v37), .val (.int v39), .val (.ref b40), .val (.ref b46), .val (.ref b52), .val (.ref b62), .val (.ref b72), .val (.ref b75), .val (.int v80), .val (.int v83), .unset] [])) (fun _ kq => XS.ifNo X77.here hx rfl (hb hby at_237) rfl ((if0 _ _).trans (feq hc237_86).1) kq) ?_
          refine own_st (T' := T77) (F' := (mkF m 241 #[.val (.long x0), .second, .val (.long x1), .second, .val (.long y0), .second, .val (.long y1), .second, .val (.int fl), .val (.int pp), .val (.int v33), .val (.int v35), .val (.int v37), .val (.int v39), .val (.ref b40), .val (.ref b46), .val (.ref b52), .val (.ref b62), .val (.ref b72), .val (.ref b75), .val (.int v80), .val (.int v83), .unset] [(.int (1 : Int32))])) (fun _ kq => XS.iconst X77.here hx rfl (hb hby at_240) kq) ?_
          refine own_st (T' := T77) (F' := (mkF m 245 #[.val (.long x0), .second, .val (.long x1), .second, .val (.long y0), .second, .val (.long y1), .second, .val (.int fl), .val (.int pp), .val (.int v33), .val (.int v35), .val (.int v37), .val (.int v39), .val (.ref b40), .val (.ref b46), .val (.ref b52), .val (.ref b62), .val (.ref b72), .val (.ref b75), .val (.int v80), .val (.int v83), .unset] [(.int (1 : Int32))])) (fun _ kq => XS.goto X77.here hx rfl (pc0 := 241) (pc' := 245) rfl (hb hby at_241) (by decide) (by decide) kq) ?_
          exact k
    ·
      rw [if_neg hc221_84] at k
      refine own_st (T' := T77) (F' := (mkF m 224 #[.val (.long x0), .second, .val (.long x1), .second, .val (.long y0), .second, .val (.long y1), .second, .val (.int fl), .val (.int pp), .val (.int v33), .val (.int v35), .val (.int v37), .val (.int v39), .val (.ref b40), .val (.ref b46), .val (.ref b52), .val (.ref b62), .val (.ref b72), .val (.ref b75), .val (.int v80), .val (.int v83), .unset] [])) (fun _ kq => XS.ifNo X77.here hx rfl (hb hby at_221) rfl ((if0 _ _).trans (feq hc221_84).1) kq) ?_
      refine own_st (T' := T77) (F' := (mkF m 226 #[.val (.long x0), .second, .val (.long x1), .second, .val (.long y0), .second, .val (.long y1), .second, .val (.int fl), .val (.int pp), .val (.int v33), .val (.int v35), .val (.int v37), .val (.int v39), .val (.ref b40), .val (.ref b46), .val (.ref b52), .val (.ref b62), .val (.ref b72), .val (.ref b75), .val (.int v80), .val (.int v83), .unset] [(.int v80)])) (fun _ kq => XS.iload X77.here hx rfl (hb hby at_224) rfl kq) ?_
      by_cases hc226_87 : v80 = (0 : Int32)
      ·
        rw [if_pos hc226_87] at k
        refine own_st (T' := T77) (F' := (mkF m 244 #[.val (.long x0), .second, .val (.long x1), .second, .val (.long y0), .second, .val (.long y1), .second, .val (.int fl), .val (.int pp), .val (.int v33), .val (.int v35), .val (.int v37), .val (.int v39), .val (.ref b40), .val (.ref b46), .val (.ref b52), .val (.ref b62), .val (.ref b72), .val (.ref b75), .val (.int v80), .val (.int v83), .unset] [])) (fun _ kq => XS.ifYes X77.here hx rfl (pc0 := 226) (pc' := 244) rfl (hb hby at_226) rfl ((if0 _ _).trans (teq hc226_87).1) (by decide) (by decide) kq) ?_
        refine own_st (T' := T77) (F' := (mkF m 245 #[.val (.long x0), .second, .val (.long x1), .second, .val (.long y0), .second, .val (.long y1), .second, .val (.int fl), .val (.int pp), .val (.int v33), .val (.int v35), .val (.int v37), .val (.int v39), .val (.ref b40), .val (.ref b46), .val (.ref b52), .val (.ref b62), .val (.ref b72), .val (.ref b75), .val (.int v80), .val (.int v83), .unset] [(.int (0 : Int32))])) (fun _ kq => XS.iconst X77.here hx rfl (hb hby at_244) kq) ?_
        exact k
      ·
        rw [if_neg hc226_87] at k
        refine own_st (T' := T77) (F' := (mkF m 229 #[.val (.long x0), .second, .val (.long x1), .second, .val (.long y0), .second, .val (.long y1), .second, .val (.int fl), .val (.int pp), .val (.int v33), .val (.int v35), .val (.int v37), .val (.int v39), .val (.ref b40), .val (.ref b46), .val (.ref b52), .val (.ref b62), .val (.ref b72), .val (.ref b75), .val (.int v80), .val (.int v83), .unset] [])) (fun _ kq => XS.ifNo X77.here hx rfl (hb hby at_226) rfl ((if0 _ _).trans (feq hc226_87).1) kq) ?_
        refine own_st (T' := T77) (F' := (mkF m 231 #[.val (.long x0), .second, .val (.long x1), .second, .val (.long y0), .second, .val (.long y1), .second, .val (.int fl), .val (.int pp), .val (.int v33), .val (.int v35), .val (.int v37), .val (.int v39), .val (.ref b40), .val (.ref b46), .val (.ref b52), .val (.ref b62), .val (.ref b72), .val (.ref b75), .val (.int v80), .val (.int v83), .unset] [(.int pp)])) (fun _ kq => XS.iload X77.here hx rfl (hb hby at_229) rfl kq) ?_
        refine own_st (T' := T77) (F' := (mkF m 232 #[.val (.long x0), .second, .val (.long x1), .second, .val (.long y0), .second, .val (.long y1), .second, .val (.int fl), .val (.int pp), .val (.int v33), .val (.int v35), .val (.int v37), .val (.int v39), .val (.ref b40), .val (.ref b46), .val (.ref b52), .val (.ref b62), .val (.ref b72), .val (.ref b75), .val (.int v80), .val (.int v83), .unset] [(.int (1 : Int32)), (.int pp)])) (fun _ kq => XS.iconst X77.here hx rfl (hb hby at_231) kq) ?_
        by_cases hc232_88 : pp = (1 : Int32)
        ·
          rw [if_pos hc232_88] at k
          refine own_st (T' := T77) (F' := (mkF m 240 #[.val (.long x0), .second, .val (.long x1), .second, .val (.long y0), .second, .val (.long y1), .second, .val (.int fl), .val (.int pp), .val (.int v33), .val (.int v35), .val (.int v37), .val (.int v39), .val (.ref b40), .val (.ref b46), .val (.ref b52), .val (.ref b62), .val (.ref b72), .val (.ref b75), .val (.int v80), .val (.int v83), .unset] [])) (fun _ kq => XS.icmpYes X77.here hx rfl (pc0 := 232) (pc' := 240) rfl (hb hby at_232) rfl (teq hc232_88).1 (by decide) (by decide) kq) ?_
          refine own_st (T' := T77) (F' := (mkF m 241 #[.val (.long x0), .second, .val (.long x1), .second, .val (.long y0), .second, .val (.long y1), .second, .val (.int fl), .val (.int pp), .val (.int v33), .val (.int v35), .val (.int v37), .val (.int v39), .val (.ref b40), .val (.ref b46), .val (.ref b52), .val (.ref b62), .val (.ref b72), .val (.ref b75), .val (.int v80), .val (.int v83), .unset] [(.int (1 : Int32))])) (fun _ kq => XS.iconst X77.here hx rfl (hb hby at_240) kq) ?_
          refine own_st (T' := T77) (F' := (mkF m 245 #[.val (.long x0), .second, .val (.long x1), .second, .val (.long y0), .second, .val (.long y1), .second, .val (.int fl), .val (.int pp), .val (.int v33), .val (.int v35), .val (.int v37), .val (.int v39), .val (.ref b40), .val (.ref b46), .val (.ref b52), .val (.ref b62), .val (.ref b72), .val (.ref b75), .val (.int v80), .val (.int v83), .unset] [(.int (1 : Int32))])) (fun _ kq => XS.goto X77.here hx rfl (pc0 := 241) (pc' := 245) rfl (hb hby at_241) (by decide) (by decide) kq) ?_
          exact k
        ·
          rw [if_neg hc232_88] at k
          refine own_st (T' := T77) (F' := (mkF m 235 #[.val (.long x0), .second, .val (.long x1), .second, .val (.long y0), .second, .val (.long y1), .second, .val (.int fl), .val (.int pp), .val (.int v33), .val (.int v35), .val (.int v37), .val (.int v39), .val (.ref b40), .val (.ref b46), .val (.ref b52), .val (.ref b62), .val (.ref b72), .val (.ref b75), .val (.int v80), .val (.int v83), .unset] [])) (fun _ kq => XS.icmpNo X77.here hx rfl (hb hby at_232) rfl (feq hc232_88).1 kq) ?_
          refine own_st (T' := T77) (F' := (mkF m 237 #[.val (.long x0), .second, .val (.long x1), .second, .val (.long y0), .second, .val (.long y1), .second, .val (.int fl), .val (.int pp), .val (.int v33), .val (.int v35), .val (.int v37), .val (.int v39), .val (.ref b40), .val (.ref b46), .val (.ref b52), .val (.ref b62), .val (.ref b72), .val (.ref b75), .val (.int v80), .val (.int v83), .unset] [(.int v83)])) (fun _ kq => XS.iload X77.here hx rfl (hb hby at_235) rfl kq) ?_
          by_cases hc237_89 : v83 = (0 : Int32)
          ·
            rw [if_pos hc237_89] at k
            refine own_st (T' := T77) (F' := (mkF m 244 #[.val (.long x0), .second, .val (.long x1), .second, .val (.long y0), .second, .val (.long y1), .second, .val (.int fl), .val (.int pp), .val (.int v33), .val (.int v35), .val (.int v37), .val (.int v39), .val (.ref b40), .val (.ref b46), .val (.ref b52), .val (.ref b62), .val (.ref b72), .val (.ref b75), .val (.int v80), .val (.int v83), .unset] [])) (fun _ kq => XS.ifYes X77.here hx rfl (pc0 := 237) (pc' := 244) rfl (hb hby at_237) rfl ((if0 _ _).trans (teq hc237_89).1) (by decide) (by decide) kq) ?_
            refine own_st (T' := T77) (F' := (mkF m 245 #[.val (.long x0), .second, .val (.long x1), .second, .val (.long y0), .second, .val (.long y1), .second, .val (.int fl), .val (.int pp), .val (.int v33), .val (.int v35), .val (.int v37), .val (.int v39), .val (.ref b40), .val (.ref b46), .val (.ref b52), .val (.ref b62), .val (.ref b72), .val (.ref b75), .val (.int v80), .val (.int v83), .unset] [(.int (0 : Int32))])) (fun _ kq => XS.iconst X77.here hx rfl (hb hby at_244) kq) ?_
            exact k
          ·
            rw [if_neg hc237_89] at k
            refine own_st (T' := T77) (F' := (mkF m 240 #[.val (.long x0), .second, .val (.long x1), .second, .val (.long y0), .second, .val (.long y1), .second, .val (.int fl), .val (.int pp), .val (.int v33), .val (.int v35), .val (.int v37), .val (.int v39), .val (.ref b40), .val (.ref b46), .val (.ref b52), .val (.ref b62), .val (.ref b72), .val (.ref b75), .val (.int v80), .val (.int v83), .unset] [])) (fun _ kq => XS.ifNo X77.here hx rfl (hb hby at_237) rfl ((if0 _ _).trans (feq hc237_89).1) kq) ?_
            refine own_st (T' := T77) (F' := (mkF m 241 #[.val (.long x0), .second, .val (.long x1), .second, .val (.long y0), .second, .val (.long y1), .second, .val (.int fl), .val (.int pp), .val (.int v33), .val (.int v35), .val (.int v37), .val (.int v39), .val (.ref b40), .val (.ref b46), .val (.ref b52), .val (.ref b62), .val (.ref b72), .val (.ref b75), .val (.int v80), .val (.int v83), .unset] [(.int (1 : Int32))])) (fun _ kq => XS.iconst X77.here hx rfl (hb hby at_240) kq) ?_
            refine own_st (T' := T77) (F' := (mkF m 245 #[.val (.long x0), .second, .val (.long x1), .second, .val (.long y0), .second, .val (.long y1), .second, .val (.int fl), .val (.int pp), .val (.int v33), .val (.int v35), .val (.int v37), .val (.int v39), .val (.ref b40), .val (.ref b46), .val (.ref b52), .val (.ref b62), .val (.ref b72), .val (.ref b75), .val (.int v80), .val (.int v83), .unset] [(.int (1 : Int32))])) (fun _ kq => XS.goto X77.here hx rfl (pc0 := 241) (pc' := 245) rfl (hb hby at_241) (by decide) (by decide) kq) ?_
            exact k
  generalize hv90 : (if pp = (0 : Int32) then (if pp = (1 : Int32) then (1 : Int32) else (if v83 = (0 : Int32) then (0 : Int32) else (1 : Int32))) else (if v80 = (0 : Int32) then (0 : Int32) else (if pp = (1 : Int32) then (1 : Int32) else (if v83 = (0 : Int32) then (0 : Int32) else (1 : Int32))))) = v90
  refine own_st (T' := T77) (F' := (mkF m 247 #[.val (.long x0), .second, .val (.long x1), .second, .val (.long y0), .second, .val (.long y1), .second, .val (.int fl), .val (.int pp), .val (.int v33), .val (.int v35), .val (.int v37), .val (.int v39), .val (.ref b40), .val (.ref b46), .val (.ref b52), .val (.ref b62), .val (.ref b72), .val (.ref b75), .val (.int v80), .val (.int v83), .val (.int v90)] [])) (fun _ kq => XS.istore X77.here hx rfl (hb hby at_245) rfl (l' := #[.val (.long x0), .second, .val (.long x1), .second, .val (.long y0), .second, .val (.long y1), .second, .val (.int fl), .val (.int pp), .val (.int v33), .val (.int v35), .val (.int v37), .val (.int v39), .val (.ref b40), .val (.ref b46), .val (.ref b52), .val (.ref b62), .val (.ref b72), .val (.ref b75), .val (.int v80), .val (.int v83), .val (.int v90)]) rfl kq) ?_
  refine own_st (T' := T77) (F' := (mkF m 249 #[.val (.long x0), .second, .val (.long x1), .second, .val (.long y0), .second, .val (.long y1), .second, .val (.int fl), .val (.int pp), .val (.int v33), .val (.int v35), .val (.int v37), .val (.int v39), .val (.ref b40), .val (.ref b46), .val (.ref b52), .val (.ref b62), .val (.ref b72), .val (.ref b75), .val (.int v80), .val (.int v83), .val (.int v90)] [(.ref b72)])) (fun _ kq => XS.aload X77.here hx rfl (hb hby at_247) rfl rfl kq) ?_
  refine own_st (T' := T77) (F' := (mkF m 251 #[.val (.long x0), .second, .val (.long x1), .second, .val (.long y0), .second, .val (.long y1), .second, .val (.int fl), .val (.int pp), .val (.int v33), .val (.int v35), .val (.int v37), .val (.int v39), .val (.ref b40), .val (.ref b46), .val (.ref b52), .val (.ref b62), .val (.ref b72), .val (.ref b75), .val (.int v80), .val (.int v83), .val (.int v90)] [(.ref b75), (.ref b72)])) (fun _ kq => XS.aload X77.here hx rfl (hb hby at_249) rfl rfl kq) ?_
  refine own_st (T' := T77) (F' := (mkF m 253 #[.val (.long x0), .second, .val (.long x1), .second, .val (.long y0), .second, .val (.long y1), .second, .val (.int fl), .val (.int pp), .val (.int v33), .val (.int v35), .val (.int v37), .val (.int v39), .val (.ref b40), .val (.ref b46), .val (.ref b52), .val (.ref b62), .val (.ref b72), .val (.ref b75), .val (.int v80), .val (.int v83), .val (.int v90)] [(.int pp), (.ref b75), (.ref b72)])) (fun _ kq => XS.iload X77.here hx rfl (hb hby at_251) rfl kq) ?_
  obtain ⟨v91, T91, L91, X91, hQ91, st91⟩ := own_callV X77 hx hZ 0 hown (hw _ (List.mem_of_getElem? (i := 14) rfl)) (hw _ (List.mem_of_getElem? (i := 15) rfl)) (hw _ (List.mem_of_getElem? (i := 17) rfl)) (hw _ (List.mem_of_getElem? (i := 16) rfl)) (hw _ (List.mem_of_getElem? (i := 3) rfl)) (hw _ (List.mem_of_getElem? (i := 18) rfl)) (by decide) (rm3 l Z a0 hw [] b72 b75 pp b40 b46 b52 b62 x0 x1 y0 y1 v55 v59 v65 v69 T77.heap n0 FAb72_low_77 VAb40_77 FAb72_high_77 VAb46_77 Fl77 VAb52_77 Fh77 VAb62_77) (by decide) (by decide) rfl EAb72_77 (by decide) (by decide) (g := (mkF m 253 #[.val (.long x0), .second, .val (.long x1), .second, .val (.long y0), .second, .val (.long y1), .second, .val (.int fl), .val (.int pp), .val (.int v33), .val (.int v35), .val (.int v37), .val (.int v39), .val (.ref b40), .val (.ref b46), .val (.ref b52), .val (.ref b62), .val (.ref b72), .val (.ref b75), .val (.int v80), .val (.int v83), .val (.int v90)] [(.int pp), (.ref b75), (.ref b72)])) rfl (by rw [hml]; rfl) (argsL := [(.ref b75), (.int pp)]) (rest := []) (lenOf pd1 rfl) rfl rfl (by show 2 * 0 + _ ≤ _; exact Nat.le_of_eq rfl) (hb hby at_253)
  obtain ⟨rfl, NQ91, e91⟩ := hQ91
  have N91 := Fr.app N77 NQ91
  refine own_st (T' := T91) (F' := (mkF m 256 #[.val (.long x0), .second, .val (.long x1), .second, .val (.long y0), .second, .val (.long y1), .second, .val (.int fl), .val (.int pp), .val (.int v33), .val (.int v35), .val (.int v37), .val (.int v39), .val (.ref b40), .val (.ref b46), .val (.ref b52), .val (.ref b62), .val (.ref b72), .val (.ref b75), .val (.int v80), .val (.int v83), .val (.int v90)] [(.int (f3 pp x0 x1 y0 y1 v55 v59 v65 v69))])) (st91) ?_
  refine own_st (T' := T91) (F' := (mkF m 258 #[.val (.long x0), .second, .val (.long x1), .second, .val (.long y0), .second, .val (.long y1), .second, .val (.int fl), .val (.int pp), .val (.int v33), .val (.int v35), .val (.int v37), .val (.int v39), .val (.ref b40), .val (.ref b46), .val (.ref b52), .val (.ref b62), .val (.ref b72), .val (.ref b75), .val (.int v80), .val (.int v83), .val (.int v90)] [(.int v90), (.int (f3 pp x0 x1 y0 y1 v55 v59 v65 v69))])) (fun _ kq => XS.iload X91.here hx rfl (hb hby at_256) rfl kq) ?_
  refine own_st (T' := T91) (F' := (mkF m 261 #[.val (.long x0), .second, .val (.long x1), .second, .val (.long y0), .second, .val (.long y1), .second, .val (.int fl), .val (.int pp), .val (.int v33), .val (.int v35), .val (.int v37), .val (.int v39), .val (.ref b40), .val (.ref b46), .val (.ref b52), .val (.ref b62), .val (.ref b72), .val (.ref b75), .val (.int v80), .val (.int v83), .val (.int v90)] [])) (fun _ kq => XS.icmpNo X91.here hx rfl (hb hby at_258) rfl (teq (own_law hv55 hv59 hv65 hv69 hv80 hv83 hv90)).2 kq) ?_
  refine own_st (T' := T91) (F' := (mkF m 262 #[.val (.long x0), .second, .val (.long x1), .second, .val (.long y0), .second, .val (.long y1), .second, .val (.int fl), .val (.int pp), .val (.int v33), .val (.int v35), .val (.int v37), .val (.int v39), .val (.ref b40), .val (.ref b46), .val (.ref b52), .val (.ref b62), .val (.ref b72), .val (.ref b75), .val (.int v80), .val (.int v83), .val (.int v90)] [(.int (1 : Int32))])) (fun _ kq => XS.iconst X91.here hx rfl (hb hby at_261) kq) ?_
  refine own_st (T' := T91) (F' := (mkF m 266 #[.val (.long x0), .second, .val (.long x1), .second, .val (.long y0), .second, .val (.long y1), .second, .val (.int fl), .val (.int pp), .val (.int v33), .val (.int v35), .val (.int v37), .val (.int v39), .val (.ref b40), .val (.ref b46), .val (.ref b52), .val (.ref b62), .val (.ref b72), .val (.ref b75), .val (.int v80), .val (.int v83), .val (.int v90)] [(.int (1 : Int32))])) (fun _ kq => XS.goto X91.here hx rfl (pc0 := 262) (pc' := 266) rfl (hb hby at_262) (by decide) (by decide) kq) ?_
  exact own_retN X91 hx hlk hret (by simp) (hb hby at_266) (by decide) (by decide) ⟨rfl, N91⟩
set_option maxRecDepth 65536 in
theorem comes_1 {Post : Tables → Env → Array Value → State → Outcome → State → Prop} (hpost : ∀ tb e args s v u, (limb_1_1.after args s (.returned v) u = true ∧ limb_1_2.after args s (.returned v) u = true ∧ True) → FrameEnd s (.returned v) u (Jvm.fieldLocs frame_1_writes args s ++ Jvm.arrayLocs frame_1_arrays args s ++ Jvm.staticLocs frame_1_statics s) 24 128 → Post tb e args s (.returned v) u) :
    ArmFor flags0 classFile x code maxLocals ret World_1 tables_1 room_1 Calls_1 rest_1 Pre_1 Post := by
  intro l hfl _ _ p e ha hc hk s m args below hf hA hF happ hP
  obtain ⟨hcalls, hrest, hpre⟩ := hP
  obtain ⟨-, -, -, hnamed, -, -, -, hat⟩ := (Spec.applies_iff hf).mp happ
  obtain ⟨hg, hn⟩ := and_e (Cond.before_iff.mp (show (Jvm.Cond.and given_1 narrow_1).before args s = true from hpre))
  obtain ⟨g0, r0⟩ := and_e hg
  obtain ⟨g1, r1⟩ := and_e r0
  obtain ⟨g2, r2⟩ := and_e r1
  obtain ⟨g3, r3⟩ := and_e r2
  obtain ⟨g4, r4⟩ := and_e r3
  obtain ⟨g5, r5⟩ := and_e r4
  obtain ⟨w0, w1, w2, w3, w4, w5, rfl⟩ : ∃ w0 w1 w2 w3 w4 w5 : Value, args = #[w0, w1, w2, w3, w4, w5] := by
    have hs : args.size = 6 := by simpa [Cond.value, given_1] using g0
    obtain ⟨L⟩ := args
    match L, hs with
    | [w0, w1, w2, w3, w4, w5], _ => exact ⟨w0, w1, w2, w3, w4, w5, rfl⟩
  have hw := fun d (hd : d ∈ tables_1) => atoms_spec (ws := Jvm.Cond.code x code maxLocals ret :: tables_1) hat d (List.mem_cons_of_mem _ hd)
  obtain ⟨i0, ei0⟩ := isL_v g1
  obtain rfl : w0 = (.long i0) := Option.some.inj ei0
  obtain ⟨i1, ei1⟩ := isL_v g2
  obtain rfl : w1 = (.long i1) := Option.some.inj ei1
  obtain ⟨i2, ei2⟩ := isL_v g3
  obtain rfl : w2 = (.long i2) := Option.some.inj ei2
  obtain ⟨i3, ei3⟩ := isL_v g4
  obtain rfl : w3 = (.long i3) := Option.some.inj ei3
  obtain ⟨i4, ei4⟩ := is_v g5
  obtain rfl : w4 = (.int i4) := Option.some.inj ei4
  obtain ⟨i5, ei5⟩ := is_v r5
  obtain rfl : w5 = (.int i5) := Option.some.inj ei5
  obtain ⟨n, o, h1, h2, h3, _, L, rfl, ⟨rfl, N⟩, hq⟩ := rm0 l s _ hw tables_1 i0 i1 i2 i3 i4 i5 s.heap s.heap.size (Nat.le_refl _) p e ha hc hk s m _ below hf ((Spec.applies_iff_loose hf).mp happ).1 ⟨rfl, State.Warmed39.refl s, rfl⟩ trivial
  refine ⟨n, _, h1, h2, h3, hpost _ _ _ _ _ _ ⟨Cond.after_iff.mpr rfl, Cond.after_iff.mpr (eq_i res_at (Term.int_eval (1)) rfl), trivial⟩ ⟨hq.1, hq.2.1, (hq.2.2.sift fun y hy => Or.inr (N y hy)).mono (by decide) (by decide)⟩⟩
theorem main_1_1 : Claimed_1_1 := comes_1 fun _ _ _ _ _ _ h hF => ⟨h.1, hF⟩
theorem main_1_2 : Claimed_1_2 := comes_1 fun _ _ _ _ _ _ h hF => ⟨h.2.1, hF⟩
end Jvm.Pilot.@@N@@
namespace Jvm.Pilot.@@N@@
open Jvm Jvm.ClassFile Sem Op Lib Jvm.Free Jvm.Stand Jvm.Pilot.@@N@@.Jvm.D
/-! MADE BY PROGRAM (witnessworld.py) out of the Statement's table words and the real class files: 11 classes; the members and pool entries that the words name. The judged class is class 1, her method 1. -/
namespace start1
open Jvm.ClassFile
def u (s : String) : CpInfo := .utf8 (stringToUtf16 s)
/-- a pool by its gaps: so many unusable entries, then the entry; so many at the end -/
def gap : Nat → List CpInfo → List CpInfo
  | 0, r => r
  | n + 1, r => .unusable :: gap n r
def poolList (es : List (Nat × CpInfo)) (last : Nat) : List CpInfo := es.foldr (fun e r => gap e.1 (e.2 :: r)) (gap last [])
def pool (es : List (Nat × CpInfo)) (last : Nat) : Array CpInfo := ⟨poolList es last⟩
def fileOf (pool : Array CpInfo) (this : Nat) (attrs : Array Attribute := #[]) (ms : Array MethodInfo := #[]) (fl : Nat := 33) (sup : Nat := 0) (ifs : Array Nat := #[]) (fds : Array FieldInfo := #[]) : ClassFile where
  minorVersion := 0
  majorVersion := 65
  constantPool := pool
  accessFlags := fl
  thisClass := this
  superClass := sup
  interfaces := ifs
  fields := fds
  methods := ms
  attributes := attrs
def plain (name : String) (sup : Option ClassId) : Class where
  name := name
  kind := .ordinary
  loader := none
  accessFlags := 33
  super := sup
  interfaces := #[]
  cf := none
  fields := #[]
  methods := #[]
  instanceTypes := #[]
  staticTypes := #[]
  resolved := #[]
  callSites := []
  init := .initialized
  statics := none
  mirror := none

def pool0 : Array CpInfo := pool [(5, u "<init>"), (0, u "()V"), (1, .class_ 10), (1, u "java/lang/Object")] 113

def k0c0 : Code := { maxStack := 0, maxLocals := 1, code := object_method_1_code, exceptionTable := #[], attributes := #[] }
def k0m0 : Method := { name := "<init>", desc := "()V", sig := { parameters := [], returnType := none }, accessFlags := 1, code := some k0c0 }
/-- java/lang/Object -/
def k0 : Class := { plain "java/lang/Object" none with
  accessFlags := 33
  interfaces := #[]
  cf := some (fileOf pool0 8 #[] #[{ accessFlags := 1, nameIndex := 5, descriptorIndex := 6, attributes := #[] }] 33 0 #[] #[])
  fields := #[]
  methods := #[k0m0]
  instanceTypes := #[]
  staticTypes := #[]
  resolved := Array.replicate 124 none
  statics := none }

def pool1 : Array CpInfo := pool [(2, .class_ 4), (1, u "java/lang/Object"), (0, u "<init>"), (0, u "()V"), (0, .class_ 8), (0, u "com/example/forest_grammar/forestgrammar/languages/Family$Box"), (0, .methodref 7 10), (0, .nameAndType 5 11), (0, u "([J[J)V"), (0, .methodref 7 13), (0, .nameAndType 14 15), (0, u "wholeBut"), (0, u "(Lcom/example/forest_grammar/forestgrammar/languages/Family$Box;I)Z"), (0, .class_ 17), (0, u "com/example/forest_grammar/forestgrammar/languages/BoxWholeButPinLaw"), (2, u "law"), (0, u "(JJJJII)Z")] 9

def k1m0 : Method := { name := "<init>", desc := "()V", sig := { parameters := [], returnType := none }, accessFlags := 1, code := none }
def k1c1 : Code := { maxStack := 7, maxLocals := 23, code := code, exceptionTable := #[], attributes := #[] }
def k1m1 : Method := { name := "law", desc := "(JJJJII)Z", sig := { parameters := [.long, .long, .long, .long, .int, .int], returnType := some .boolean }, accessFlags := 9, code := some k1c1 }
/-- com/example/forest_grammar/forestgrammar/languages/BoxWholeButPinLaw -/
def k1 : Class := { plain "com/example/forest_grammar/forestgrammar/languages/BoxWholeButPinLaw" (some 0) with
  accessFlags := 49
  interfaces := #[]
  cf := some (fileOf pool1 16 #[] #[{ accessFlags := 1, nameIndex := 5, descriptorIndex := 6, attributes := #[] }, { accessFlags := 9, nameIndex := 20, descriptorIndex := 21, attributes := #[] }] 49 2 #[] #[])
  fields := #[]
  methods := #[k1m0, k1m1]
  instanceTypes := #[]
  staticTypes := #[]
  resolved := Array.replicate 31 none
  statics := none }

def pool2 : Array CpInfo := pool [(1, .methodref 2 3), (0, .class_ 4), (0, .nameAndType 5 6), (0, u "java/lang/Object"), (0, u "<init>"), (0, u "()V"), (0, .fieldref 8 9), (0, .class_ 10), (0, .nameAndType 11 12), (0, u "com/example/forest_grammar/forestgrammar/languages/Family$Box"), (0, u "low"), (0, u "[J"), (0, .fieldref 8 14), (0, .nameAndType 15 12), (0, u "high"), (7, u "([J[J)V"), (66, u "wholeBut"), (0, u "(Lcom/example/forest_grammar/forestgrammar/languages/Family$Box;I)Z"), (10, .class_ 103), (0, u "com/example/forest_grammar/forestgrammar/languages/Family")] 19

def k2c0 : Code := { maxStack := 2, maxLocals := 3, code := prog_139_method_1_code, exceptionTable := #[], attributes := #[] }
def k2m0 : Method := { name := "<init>", desc := "([J[J)V", sig := { parameters := [(.array .long), (.array .long)], returnType := none }, accessFlags := 0, code := some k2c0 }
def k2c1 : Code := { maxStack := 4, maxLocals := 4, code := prog_139_method_8_code, exceptionTable := #[], attributes := #[] }
def k2m1 : Method := { name := "wholeBut", desc := "(Lcom/example/forest_grammar/forestgrammar/languages/Family$Box;I)Z", sig := { parameters := [(.object "com/example/forest_grammar/forestgrammar/languages/Family$Box"), .int], returnType := some .boolean }, accessFlags := 0, code := some k2c1 }
/-- com/example/forest_grammar/forestgrammar/languages/Family$Box -/
def k2 : Class := { plain "com/example/forest_grammar/forestgrammar/languages/Family$Box" (some 0) with
  accessFlags := 48
  interfaces := #[]
  cf := some (fileOf pool2 8 #[.nestHost 102] #[{ accessFlags := 0, nameIndex := 5, descriptorIndex := 23, attributes := #[] }, { accessFlags := 0, nameIndex := 90, descriptorIndex := 91, attributes := #[] }] 48 2 #[] #[{ accessFlags := 16, nameIndex := 11, descriptorIndex := 12, attributes := #[] }, { accessFlags := 16, nameIndex := 15, descriptorIndex := 12, attributes := #[] }])
  fields := #[{ name := "low", type := (.array .long), accessFlags := 16, slot := 0, constantValue := 0 }, { name := "high", type := (.array .long), accessFlags := 16, slot := 1, constantValue := 0 }]
  methods := #[k2m0, k2m1]
  instanceTypes := #[(.array .long), (.array .long)]
  staticTypes := #[]
  resolved := Array.replicate 123 none
  statics := none }

def pool3 : Array CpInfo := pool [(1, u "java/lang/Cloneable"), (0, .class_ 1), (0, u "java/lang/Object"), (0, .class_ 3)] 3

/-- java/lang/Cloneable -/
def k3 : Class := { plain "java/lang/Cloneable" (some 0) with
  accessFlags := 1537
  interfaces := #[]
  cf := some (fileOf pool3 2 #[] #[] 1537 4 #[] #[])
  fields := #[]
  methods := #[]
  instanceTypes := #[]
  staticTypes := #[]
  resolved := Array.replicate 8 none
  statics := none }

def pool4 : Array CpInfo := pool [(1, u "java/io/Serializable"), (0, .class_ 1), (0, u "java/lang/Object"), (0, .class_ 3)] 3

/-- java/io/Serializable -/
def k4 : Class := { plain "java/io/Serializable" (some 0) with
  accessFlags := 1537
  interfaces := #[]
  cf := some (fileOf pool4 2 #[] #[] 1537 4 #[] #[])
  fields := #[]
  methods := #[]
  instanceTypes := #[]
  staticTypes := #[]
  resolved := Array.replicate 8 none
  statics := none }

/-- the primitive byte -/
def k5 : Class := { plain "byte" none with kind := .primitive 'B', accessFlags := 0x411 }
/-- [B -/
def k6 : Class := { plain "[B" (some 0) with kind := .array 5 .byte, interfaces := #[3, 4], accessFlags := 1041 }

/-- the primitive int -/
def k7 : Class := { plain "int" none with kind := .primitive 'I', accessFlags := 0x411 }
/-- [I -/
def k8 : Class := { plain "[I" (some 0) with kind := .array 7 .int, interfaces := #[3, 4], accessFlags := 1041 }

/-- the primitive long -/
def k9 : Class := { plain "long" none with kind := .primitive 'J', accessFlags := 0x411 }
/-- [J -/
def k10 : Class := { plain "[J" (some 0) with kind := .array 9 .long, interfaces := #[3, 4], accessFlags := 1041 }

def heap : Heap := #[]
def classes : Array Class := #[k0, k1, k2, k3, k4, k5, k6, k7, k8, k9, k10]
def interned : List (Array UInt16 × Addr) := []
def slotsUsed : Nat := 0
def theMethod : MethodId := ⟨1, 1⟩
def args0 : Array Value := #[.long 5, .long 5, .long 5, .long 5, .int 5, .int 5]
def aboutOver (below : List Frame) : State where
  vm := { classes := classes, interned := interned.toArray }
  heap := heap
  slotsUsed := slotsUsed
  threads := #[{ frames := .invoking theMethod args0 :: below }]
def below0 : List Frame := [.native { method := ⟨0, 0⟩, args := #[] }]
def about1 : State := aboutOver below0
def p0 : Program := .bare "" "" ""
def e0 : Env := launch0.env 0 0 0
theorem w_frames : about1.frames = Frame.invoking theMethod args0 :: below0 := rfl
set_option maxRecDepth 65536 in
theorem w_args : argsFit about1.vm theMethod args0 = true := by decide +kernel
set_option maxRecDepth 65536 in
theorem w_heap : heapFits about1 = true := by decide +kernel
set_option maxRecDepth 65536 in
theorem w_runnable : about1.curStatus? = some .runnable := by decide +kernel
set_option maxRecDepth 65536 in
theorem w_alone : about1.alone = true := by decide +kernel
set_option maxRecDepth 65536 in
theorem w_named : about1.methodNamed? x = some theMethod := by decide +kernel
set_option maxRecDepth 65536 in
theorem w_hears : about1.hears theMethod below0 = true := by decide +kernel
set_option maxRecDepth 65536 in
theorem w_ripe : about1.ripe theMethod args0 below0 = true := by decide +kernel
theorem w_running : about1.status = .running := rfl
set_option maxRecDepth 65536 in
theorem w_room : about1.hasRoom e0.platform room_1 = true :=
  launch0.hasRoom_least _ room_1 (by decide +kernel) (by decide +kernel) (by decide +kernel) (by decide +kernel) (by decide +kernel) (by decide +kernel)
theorem allAtoms_all (ts : List Jvm.Cond) (a : Array Jvm.Value) (st : Jvm.State) : (allAtoms ts).before a st = ts.all (fun c => c.before a st) := by
  induction ts with
  | nil => rfl
  | cons c t ih =>
    show (Jvm.Cond.and c (allAtoms t)).before a st = _
    rw [Jvm.Cond.before_and, ih, List.all_cons]
def words1 : List Jvm.Cond := Jvm.Cond.code x code maxLocals ret :: tables_1
/-- a 'code' word, met by the world's own term for the bytes: nothing is compared byte by byte -/
theorem code_word {y : MethodName} {bytes : ByteArray} {mx : Nat} {rt : Option FieldType} {a : Array Value} {s : State} {m : MethodId} {meth : Method} {c : Code} (h1 : s.methodNamed? y = some m) (h2 : s.vm.method? m = some meth) (h3 : meth.code = some c) (h4 : c.code = bytes)
    (h5 : (c.maxLocals == mx && c.exceptionTable.isEmpty && decide (c.maxStack ≤ mostOperands) && decide (meth.sig.returnType = rt) && !meth.locks && decide (parseMethodDescriptor y.desc = some meth.sig)) = true) : (Jvm.Cond.code y bytes mx rt).before a s = true := by
  simp only [Bool.and_eq_true, beq_iff_eq, Bool.not_eq_true', decide_eq_true_eq] at h5
  obtain ⟨⟨⟨⟨⟨g1, g2⟩, g3⟩, g4⟩, g5⟩, g6⟩ := h5
  simp [Cond.before, Cond.holds, Cond.value, h1, h2, h3, h4, g1, g2, g3, g4, g5, g6]
def isCode : Jvm.Cond → Bool
  | .code _ _ _ _ => true
  | _ => false
theorem all_split {L : List Jvm.Cond} {P : Jvm.Cond → Bool} (h1 : L.all (fun c => isCode c || P c) = true) (h2 : ∀ c ∈ L.filter isCode, P c = true) : L.all P = true := by
  refine List.all_eq_true.mpr fun c hc => ?_
  have h := List.all_eq_true.mp h1 c hc
  rcases Bool.eq_false_or_eq_true (isCode c) with hi | hi
  · exact h2 c (List.mem_filter.mpr ⟨hc, hi⟩)
  · simpa [hi] using h
set_option maxRecDepth 65536 in
theorem w_c0 : (Jvm.Cond.code x code maxLocals ret).before args0 about1 = true := code_word (m := ⟨1, 1⟩) (meth := k1m1) (c := k1c1) (by decide +kernel) rfl rfl rfl (by decide +kernel)
set_option maxRecDepth 65536 in
theorem w_c1 : (Jvm.Cond.code ({ cls := "com/example/forest_grammar/forestgrammar/languages/Family$Box", name := "<init>", desc := "([J[J)V" } : Jvm.MethodName) prog_139_method_1_code (3 : Nat) (Option.none : Option Jvm.ClassFile.FieldType)).before args0 about1 = true := code_word (m := ⟨2, 0⟩) (meth := k2m0) (c := k2c0) (by decide +kernel) rfl rfl rfl (by decide +kernel)
set_option maxRecDepth 65536 in
theorem w_c2 : (Jvm.Cond.code ({ cls := "java/lang/Object", name := "<init>", desc := "()V" } : Jvm.MethodName) object_method_1_code (1 : Nat) (Option.none : Option Jvm.ClassFile.FieldType)).before args0 about1 = true := code_word (m := ⟨0, 0⟩) (meth := k0m0) (c := k0c0) (by decide +kernel) rfl rfl rfl (by decide +kernel)
set_option maxRecDepth 65536 in
theorem w_c3 : (Jvm.Cond.code ({ cls := "com/example/forest_grammar/forestgrammar/languages/Family$Box", name := "wholeBut", desc := "(Lcom/example/forest_grammar/forestgrammar/languages/Family$Box;I)Z" } : Jvm.MethodName) prog_139_method_8_code (4 : Nat) (Option.some Jvm.ClassFile.FieldType.boolean)).before args0 about1 = true := code_word (m := ⟨2, 1⟩) (meth := k2m1) (c := k2c1) (by decide +kernel) rfl rfl rfl (by decide +kernel)
def codes1 : List Jvm.Cond := [Jvm.Cond.code x code maxLocals ret, Jvm.Cond.code ({ cls := "com/example/forest_grammar/forestgrammar/languages/Family$Box", name := "<init>", desc := "([J[J)V" } : Jvm.MethodName) prog_139_method_1_code (3 : Nat) (Option.none : Option Jvm.ClassFile.FieldType), Jvm.Cond.code ({ cls := "java/lang/Object", name := "<init>", desc := "()V" } : Jvm.MethodName) object_method_1_code (1 : Nat) (Option.none : Option Jvm.ClassFile.FieldType), Jvm.Cond.code ({ cls := "com/example/forest_grammar/forestgrammar/languages/Family$Box", name := "wholeBut", desc := "(Lcom/example/forest_grammar/forestgrammar/languages/Family$Box;I)Z" } : Jvm.MethodName) prog_139_method_8_code (4 : Nat) (Option.some Jvm.ClassFile.FieldType.boolean)]
set_option maxRecDepth 65536 in
theorem codes_eq : words1.filter isCode = codes1 := rfl
theorem w_codes : ∀ c ∈ words1.filter isCode, c.before args0 about1 = true := by
  rw [codes_eq]
  intro c hc
  simp only [codes1, List.mem_cons, List.not_mem_nil, or_false] at hc
  rcases hc with rfl | rfl | rfl | rfl
  · exact w_c0
  · exact w_c1
  · exact w_c2
  · exact w_c3
set_option maxRecDepth 65536 in
theorem w_t1 : words1.all (fun c => isCode c || c.before args0 about1) = true := by decide +kernel
theorem w_tables : (allAtoms (Jvm.Cond.code x code maxLocals ret :: tables_1)).before args0 about1 = true := by
  rw [allAtoms_all]
  show words1.all (fun c => c.before args0 about1) = true
  refine all_split ?_ w_codes
  rw [w_t1]
set_option maxRecDepth 65536 in
theorem w_case : (Jvm.Cond.and given_1 narrow_1).before args0 about1 = true := by decide +kernel
theorem w_applies : (headSpec (Jvm.Cond.code x code maxLocals ret :: tables_1) room_1).applies x e0.platform about1 = true :=
  (Spec.applies_iff w_frames).mpr ⟨w_running, w_runnable, w_alone, w_named, w_hears, w_ripe, w_room, w_tables⟩
theorem atStart : AtStart classFile x code maxLocals ret World_1 tables_1 room_1 Calls_1 rest_1 Pre_1 launch0 p0 e0 about1 theMethod args0 below0 :=
  ⟨lists_1, trivial, launch0.admits_env _ _ _, launch0.least_env, fairChoices_fair.cas, fairChoices_fair.clock, w_frames, w_args, w_heap, w_applies, trivial, trivial, w_case⟩
end start1
theorem witness_1 : WitnessClaimed_1 := ⟨start1.p0, start1.e0, start1.about1, start1.theMethod, start1.args0, start1.below0, start1.atStart⟩
end Jvm.Pilot.@@N@@
