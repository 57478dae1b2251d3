import JvmDerived
import JvmDerived.Pilot.@@N@@Statement
import JvmDerived.Pilot.@@N@@Code
set_option linter.unusedVariables false
set_option linter.unusedSimpArgs false
namespace Jvm.RoadKit
open Sem ClassFile Op Lib Jvm.Stand Jvm.Free Jvm.LawKit
section New
variable {p : Program} {l : Launch} {e : Env} {R : Room} {s : State} {m : MethodId} {args : Array Value} {below : List Frame} {meth : Method} {c : Code} {T : State} {locs : List Loc} {cells slots : Nat}
theorem retI (X : Stand p l e R s m args below meth c T locs cells slots) (hx : p.tables.exec = Jvm.exec) {pc : Nat} {Ls : Array Slot} {z : Int32} {rest : List Value} (hret : meth.sig.returnType = some .int) (hd : decode c.code pc = .ok (.ireturn, 1)) {fs : List Frame}
    (hl : ∀ (f : JFrame) (acts : List Action), f.method = m → f.locked = none → f.entered = [] → (doReturn e (T.setTop f) acts (some (.int z))).1 = T.setFrames fs) : Steps p.tables e below (T.setTop (mkF m pc Ls (.int z :: rest))) (T.setFrames fs) := by
  have hm' : T.vm.method? m = some meth := X.method'
  have hn : narrow .int (.int z) = .int z := rfl
  show Steps p.tables e below (T.setTop { method := m, pc := pc, locals := Ls, stack := _ :: rest, locked := none }) _
  jvm_step X.here [X.here.top, hx, hd, hm', hret, hn]
  first | (intro acts; rw [hl _ acts rfl rfl rfl]) | rw [hl _ _ rfl rfl rfl]
  exact Steps.refl _
end New
end Jvm.RoadKit
namespace Jvm.Pilot.@@N@@
open Jvm Jvm.ClassFile Sem Op Lib Jvm.Free Jvm.Stand Jvm.LawKit Jvm.RoadKit Bundle Jvm.Pilot.@@N@@.Jvm.D
section OwnKit
variable {p : Program} {l : Launch} {e : Env} {R : Room} {s : State} {m : MethodId} {args : Array Value} {below : List Frame} {meth : Method} {c : Code} {T T' : State} {locs : List Loc} {cells slots : Nat} {Z : State} {a0 : Array Value} {h h' : Heap} {n0 : Nat} {a : Addr}
/-- from this frame the walk ends by a return, and leaves what Q says -/
def own_Ends (p : Program) (e : Env) (below : List Frame) (s : State) (k n : Nat) (Q : Option Value → Heap → List Loc → Prop) (T : State) (F : JFrame) : Prop :=
  ∃ s₂ o, Steps p.tables e below (T.setTop F) s₂ ∧ s₂.status = .running ∧ Ended s₂ below o ∧ ∃ v L, o = .returned v ∧ Q v s₂.heap L ∧ FrameEnd s o s₂ L k n
theorem own_st {F F' : JFrame} {k n : Nat} {Q : Option Value → Heap → List Loc → Prop} (q : ∀ t, Steps p.tables e below (T'.setTop F') t → Steps p.tables e below (T.setTop F) t) (r : own_Ends p e below s k n Q T' F') : own_Ends p e below s k n Q T F := by
  obtain ⟨s₂, o, h1, h2⟩ := r
  exact ⟨s₂, o, q _ h1, h2⟩
theorem own_retN (X : Stand p l e R s m args below meth c T locs cells slots) (hx : p.tables.exec = Jvm.exec) (hlk : meth.locks = false) {t : FieldType} (hret : meth.sig.returnType = some t) (ht : t = .boolean ∨ t = .byte ∨ t = .char ∨ t = .short) {pc : Nat} {Ls : Array Slot} {z : Int32} {rest : List Value}
    (hd : decode c.code pc = .ok (.ireturn, 1)) {k n : Nat} {Q : Option Value → Heap → List Loc → Prop} (hk : cells ≤ k) (hn : slots ≤ n) (q : Q (some (.int (nar t z))) T.heap locs) : own_Ends p e below s k n Q T (mkF m pc Ls (.int z :: rest)) := by
  obtain ⟨fs, hr, hrun, hended, hW, hsame⟩ := X.leave (v := some (.int (nar t z))) (fun h => by rw [hret] at h; cases h) hlk
  exact ⟨_, _, retN X hx hret ht hd hr, hrun, hended, _, _, rfl, q, ⟨_, rfl⟩, hW, hsame.mono hk hn⟩
theorem own_retI (X : Stand p l e R s m args below meth c T locs cells slots) (hx : p.tables.exec = Jvm.exec) (hlk : meth.locks = false) (hret : meth.sig.returnType = some .int) {pc : Nat} {Ls : Array Slot} {z : Int32} {rest : List Value}
    (hd : decode c.code pc = .ok (.ireturn, 1)) {k n : Nat} {Q : Option Value → Heap → List Loc → Prop} (hk : cells ≤ k) (hn : slots ≤ n) (q : Q (some (.int z)) T.heap locs) : own_Ends p e below s k n Q T (mkF m pc Ls (.int z :: rest)) := by
  obtain ⟨fs, hr, hrun, hended, hW, hsame⟩ := X.leave (v := some (.int z)) (fun h => by rw [hret] at h; cases h) hlk
  exact ⟨_, _, retI X hx hret hd hr, hrun, hended, _, _, rfl, q, ⟨_, rfl⟩, hW, hsame.mono hk hn⟩
theorem own_retL (X : Stand p l e R s m args below meth c T locs cells slots) (hx : p.tables.exec = Jvm.exec) (hlk : meth.locks = false) (hret : meth.sig.returnType = some .long) {pc : Nat} {Ls : Array Slot} {z : Int64}
    (hd : decode c.code pc = .ok (.lreturn, 1)) {k n : Nat} {Q : Option Value → Heap → List Loc → Prop} (hk : cells ≤ k) (hn : slots ≤ n) (q : Q (some (.long z)) T.heap locs) : own_Ends p e below s k n Q T (mkF m pc Ls [.long z]) := by
  obtain ⟨fs, hr, hrun, hended, hW, hsame⟩ := X.leave (v := some (.long z)) (fun h => by rw [hret] at h; cases h) hlk
  exact ⟨_, _, X.lreturnOut hx hret hd hr, hrun, hended, _, _, rfl, q, ⟨_, rfl⟩, hW, hsame.mono hk hn⟩
theorem own_retV (X : Stand p l e R s m args below meth c T locs cells slots) (hx : p.tables.exec = Jvm.exec) (hlk : meth.locks = false) (hret : meth.sig.returnType = none) {pc : Nat} {Ls : Array Slot}
    (hd : decode c.code pc = .ok (.return_, 1)) {k n : Nat} {Q : Option Value → Heap → List Loc → Prop} (hk : cells ≤ k) (hn : slots ≤ n) (q : Q none T.heap locs) : own_Ends p e below s k n Q T (mkF m pc Ls []) := by
  obtain ⟨fs, hr, hrun, hended, hW, hsame⟩ := X.leave (v := none) (fun _ => rfl) hlk
  exact ⟨_, _, X.returnOut hx hret hd hr, hrun, hended, _, _, rfl, q, ⟨_, rfl⟩, hW, hsame.mono hk hn⟩
/-- a body's contract: called with these values in heap h it returns, and Q holds of what it returns, of the heap and of the places written -/
abbrev own_Met (l : Launch) (Z : State) (y : MethodName) (bytes : ByteArray) (maxL : Nat) (ret : Option FieldType) (ws : List Jvm.Cond) (rm : Room) (as' : Array Value) (h : Heap) (Q : Option Value → Heap → List Loc → Prop) : Prop :=
  MetFree l y (head1 (Jvm.Cond.code y bytes maxL ret :: ws) rm) (fun a U => a = as' ∧ Z.Warmed39 U.vm ∧ U.heap = h) (fun _ _ _ _ _ => True) (fun _ U o U' => ∃ v L, o = .returned v ∧ Q v U'.heap L ∧ FrameEnd U o U' L rm.cells rm.slots)
theorem own_body {y : MethodName} {bytes : ByteArray} {maxL : Nat} {ret : Option FieldType} {ws : List Jvm.Cond} {rm : Room} {as' : Array Value} {Q : Option Value → Heap → List Loc → Prop} (hpf : plainFor y = true)
    (body : ∀ (p : Program) (e : Env) (s : State) (m : MethodId) (below : List Frame) (meth : Method) (c : Code) (T : State), Stand p l e rm s m as' below meth c T [] 0 0 → p.tables.exec = Jvm.exec → c.code = bytes → c.maxLocals = maxL → meth.sig.returnType = ret → meth.locks = false → Z.Warmed39 s.vm → s.vm.findClass y.cls = some m.cls → meth.name = y.name → T.heap = h →
      own_Ends p e below s rm.cells rm.slots Q T (entryFrame m as' maxL)) : own_Met l Z y bytes maxL ret ws rm as' h Q := by
  refine MetFree.of_bodySF hpf hisR ?_
  intro p e s m args below meth c s₁ Bd hml0 hP hK
  obtain ⟨rfl, hZ, hh⟩ := hP
  exact body p e s m below meth c s₁ (Stand.of_body Bd) Bd.exec Bd.bytes hml0 Bd.returns Bd.notSynchronized hZ (findClass_of_methodNamed Bd.named) (name_of_methodNamed Bd.named Bd.method).1 (by rw [← hh, Bd.state]; rfl)
theorem own_entry {F F' : JFrame} {k n : Nat} {Q : Option Value → Heap → List Loc → Prop} (q : F = F') (r : own_Ends p e below s k n Q T F') : own_Ends p e below s k n Q T F := q ▸ r
/-- what a body without effect leaves -/
abbrev own_PQ (w : Value) (h0 : Heap) (n0 : Nat) : Option Value → Heap → List Loc → Prop := fun v h L => v = some w ∧ Fr n0 L ∧ h = h0
theorem own_PQi {w w' : Value} {h0 : Heap} {L : List Loc} (hv : w = w') (N : Fr n0 L) (hh : h = h0) : own_PQ w' h0 n0 (some w) h L := ⟨congrArg some hv, N, hh⟩
/-- a static call by the callee's contract -/
theorem own_callS (X : Stand p l e R s m args below meth c T locs cells slots) (hx : p.tables.exec = Jvm.exec) (hZ : Z.Warmed39 s.vm) {own : String} {index : Nat} {y : MethodName} {bytes : ByteArray} {maxL : Nat} {ret : Option FieldType} {rm : Room} (W : Nat) {as' : Array Value} {Q : Option Value → Heap → List Loc → Prop}
    (hown : s.vm.findClass own = some m.cls) (w1 : (Jvm.Cond.methodLink own index y).before a0 Z = true) (w2 : (Jvm.Cond.static y).before a0 Z = true) (w3 : (Jvm.Cond.initialized y.cls).before a0 Z = true) (w4 : (Jvm.Cond.code y bytes maxL ret).before a0 Z = true)
    (hy : y.cls ≠ "java/lang/invoke/MethodHandle" ∧ y.cls ≠ "java/lang/invoke/VarHandle") (hM : own_Met l Z y bytes maxL ret [] rm as' h Q) (hf : rm.frames + 1 ≤ R.frames) (hl : W + (maxL + 11) + rm.locals ≤ R.locals) (eT : T.heap = h) (hc : cells + rm.cells ≤ R.cells) (hs : slots + rm.slots ≤ R.slots)
    {g : JFrame} (hg : g.method = m) (hsize : g.locals.size = c.maxLocals) {argsL rest : List Value} (hlen : ∀ sig, parseMethodDescriptor y.desc = some sig → argsL.length = sig.parameters.length) (has : argsL.toArray = as') (hst : g.stack = argsL.reverse ++ rest)
    (hW : 2 * g.monitorRoom + (rest.map fun v => v.category).sum ≤ W) (hd : decode c.code g.pc = .ok (.invokestatic index, 3)) :
    ∃ (v : Option Value) (T' : State) (L : List Loc), Stand p l e R s m args below meth c T' (locs ++ L) (cells + rm.cells) (slots + rm.slots) ∧ Q v T'.heap L ∧
      ∀ t, Steps p.tables e below (T'.setTop { g with pc := g.pc + 3, stack := v.toList ++ rest }) t → Steps p.tables e below (T.setTop g) t := by
  obtain ⟨v, _, ⟨T6, L6, k6, n6⟩, -, X6, ⟨Lc6, hQ6, l6, y6, z6⟩, st6⟩ := Jvm.LawKit.callS X hx hown (mvT hZ w1) (mvT hZ w2) (mvT hZ w3) (mvT hZ w4) hy (backOf (W := W) hM hZ w4 w3 hf hl) hg hsize (argsL := argsL) (rest := rest) hlen hst hW hd (fun _ _ => ⟨has, eT, hc, hs⟩)
  dsimp only [Pt.U, Pt.locs, Pt.cells, Pt.slots] at X6 l6 y6 z6 st6 hQ6
  subst l6 y6 z6
  exact ⟨v, T6, Lc6, X6, hQ6, st6⟩
/-- a static call without effect -/
theorem own_callP (X : Stand p l e R s m args below meth c T locs cells slots) (hx : p.tables.exec = Jvm.exec) (hZ : Z.Warmed39 s.vm) {own : String} {index : Nat} {y : MethodName} {bytes : ByteArray} {maxL : Nat} {ret : Option FieldType} {rm : Room} (W : Nat) {as' : Array Value} {w : Value}
    (hown : s.vm.findClass own = some m.cls) (w1 : (Jvm.Cond.methodLink own index y).before a0 Z = true) (w2 : (Jvm.Cond.static y).before a0 Z = true) (w3 : (Jvm.Cond.initialized y.cls).before a0 Z = true) (w4 : (Jvm.Cond.code y bytes maxL ret).before a0 Z = true)
    (hy : y.cls ≠ "java/lang/invoke/MethodHandle" ∧ y.cls ≠ "java/lang/invoke/VarHandle") (hM : own_Met l Z y bytes maxL ret [] rm as' h (own_PQ w h n0)) (hf : rm.frames + 1 ≤ R.frames) (hl : W + (maxL + 11) + rm.locals ≤ R.locals) (rc : rm.cells = 0) (rs : rm.slots = 0) (eT : T.heap = h) (N : Fr n0 locs) (hc : cells ≤ R.cells) (hs : slots ≤ R.slots)
    {g : JFrame} (hg : g.method = m) (hsize : g.locals.size = c.maxLocals) {argsL rest : List Value} (hlen : ∀ sig, parseMethodDescriptor y.desc = some sig → argsL.length = sig.parameters.length) (has : argsL.toArray = as') (hst : g.stack = argsL.reverse ++ rest)
    (hW : 2 * g.monitorRoom + (rest.map fun v => v.category).sum ≤ W) (hd : decode c.code g.pc = .ok (.invokestatic index, 3)) :
    ∃ (T' : State) (locs' : List Loc), Stand p l e R s m args below meth c T' locs' cells slots ∧ T'.heap = h ∧ Fr n0 locs' ∧
      ∀ t, Steps p.tables e below (T'.setTop { g with pc := g.pc + 3, stack := w :: rest }) t → Steps p.tables e below (T.setTop g) t := by
  obtain ⟨v, T', L, X', ⟨rfl, NL, hh⟩, st⟩ := own_callS X hx hZ W hown w1 w2 w3 w4 hy hM hf hl eT (by rw [rc]; exact hc) (by rw [rs]; exact hs) hg hsize hlen has hst hW hd
  rw [rc, rs] at X'
  exact ⟨T', _, X', hh, Fr.app N NL, st⟩
/-- an array of ints, bytes, ..: its length and all its elements -/
def own_AI (Z : State) (h : Heap) (a : Addr) (ty : FieldType) (n : Int32) (xs : List Int32) : Prop := ∃ k, Arv Z h a k ty n (xs.map Value.int) (.int 0) ∧ xs.length = n.toNatClampNeg
def own_AJ (Z : State) (h : Heap) (a : Addr) (n : Int32) (xs : List Int64) : Prop := ∃ k, Arv Z h a k .long n (xs.map Value.long) (.long 0) ∧ xs.length = n.toNatClampNeg
theorem own_AI.ext {ty : FieldType} {n : Int32} {xs : List Int32} (V : own_AI Z h a ty n xs) (E : Ext h h') : own_AI Z h' a ty n xs := by
  obtain ⟨k, V, q⟩ := V; exact ⟨k, V.ext E, q⟩
theorem own_AJ.ext {n : Int32} {xs : List Int64} (V : own_AJ Z h a n xs) (E : Ext h h') : own_AJ Z h' a n xs := by
  obtain ⟨k, V, q⟩ := V; exact ⟨k, V.ext E, q⟩
theorem own_AI.other {ty : FieldType} {n : Int32} {xs : List Int32} {b : Addr} {sl : Nat} {v : Value} (V : own_AI Z h a ty n xs) (W : Wr h h' b sl v) (q : a ≠ b) : own_AI Z h' a ty n xs := by
  obtain ⟨k, V, r⟩ := V; exact ⟨k, V.other W q, r⟩
theorem own_AJ.other {n : Int32} {xs : List Int64} {b : Addr} {sl : Nat} {v : Value} (V : own_AJ Z h a n xs) (W : Wr h h' b sl v) (q : a ≠ b) : own_AJ Z h' a n xs := by
  obtain ⟨k, V, r⟩ := V; exact ⟨k, V.other W q, r⟩
theorem own_AI.keep {ty : FieldType} {n : Int32} {xs : List Int32} {ws : List Addr} (V : own_AI Z h a ty n xs) (K : Keep h h' ws) (q : a ∉ ws) : own_AI Z h' a ty n xs := by
  obtain ⟨k, V, r⟩ := V; exact ⟨k, V.keep K q, r⟩
theorem own_AJ.keep {n : Int32} {xs : List Int64} {ws : List Addr} (V : own_AJ Z h a n xs) (K : Keep h h' ws) (q : a ∉ ws) : own_AJ Z h' a n xs := by
  obtain ⟨k, V, r⟩ := V; exact ⟨k, V.keep K q, r⟩
theorem own_AI.lt {ty : FieldType} {n : Int32} {xs : List Int32} (V : own_AI Z h a ty n xs) : a < h.size := by
  obtain ⟨k, V, q⟩ := V; exact V.lt
theorem own_AJ.lt {n : Int32} {xs : List Int64} (V : own_AJ Z h a n xs) : a < h.size := by
  obtain ⟨k, V, q⟩ := V; exact V.lt
theorem own_AI.len {ty : FieldType} {n : Int32} {xs : List Int32} (V : own_AI Z h a ty n xs) : xs.length = n.toNatClampNeg := by
  obtain ⟨k, V, q⟩ := V; exact q
theorem own_AJ.len {n : Int32} {xs : List Int64} (V : own_AJ Z h a n xs) : xs.length = n.toNatClampNeg := by
  obtain ⟨k, V, q⟩ := V; exact q
theorem own_map_getD {α : Type} (f : α → Value) (d : α) (xs : List α) (i : Nat) : (xs.map f).getD i (f d) = f (xs.getD i d) := by
  simp only [List.getD_eq_getElem?_getD, List.getElem?_map]
  cases xs[i]? <;> rfl
theorem own_bound {j n : Int32} {N : Nat} (hN : N = n.toNatClampNeg) (hj : ¬ j < 0) (hn : ¬ n < 0) (q : j.toNatClampNeg < N) : ¬ j < 0 ∧ j < n := by
  refine ⟨hj, ?_⟩
  rw [hN] at q
  rw [Int32.lt_iff_toInt_lt] at hj hn ⊢
  have e0 : (0 : Int32).toInt = 0 := rfl
  simp only [Int32.toNatClampNeg] at q
  omega
/-- newarray of an int's kind -/
theorem own_newI (X : Stand p l e R s m args below meth c T locs cells slots) (hx : p.tables.exec = Jvm.exec) (hZ : Z.Warmed39 s.vm) {aty : ArrayType} (w : (Jvm.Cond.arrayClass (newarray.typeOf aty)).before a0 Z = true) (eT : T.heap = h) (Z0 : n0 ≤ h.size) {g : JFrame} (hg : g.method = m) {n : Int32} {rest : List Value} (hs : g.stack = .int n :: rest)
    (hd : decode c.code g.pc = .ok (.newarray aty, 2)) (hdv : defaultValue (newarray.typeOf aty) = .int 0) (hn : ¬ n < 0) (cap N : Nat) (hN : n.toNatClampNeg = N) (hcap : N ≤ cap) (hb : cap * 8 ≤ 536870912) (hc : cells + 1 ≤ R.cells) (hl : slots + cap ≤ R.slots) :
    ∃ (T' : State) (h' : Heap) (b : Addr), Stand p l e R s m args below meth c T' locs (cells + 1) (slots + cap) ∧ T'.heap = h' ∧ Ext h h' ∧ b = h.size ∧ n0 ≤ b ∧ n0 ≤ h'.size ∧ own_AI Z h' b (newarray.typeOf aty) n (List.replicate N 0) ∧
      ∀ t, Steps p.tables e below (T'.setTop { g with pc := g.pc + 2, stack := .ref b :: rest }) t → Steps p.tables e below (T.setTop g) t := by
  obtain ⟨T', h', k, X', e', E, A, st⟩ := newP X hx hZ w eT hg hd hs hn (cap := cap) (by rw [hN]; exact hcap) hb hc hl
  refine ⟨T', h', h.size, X', e', E, rfl, Z0, Nat.le_trans Z0 E.1, ⟨k, ?_, by rw [List.length_replicate, hN]⟩, st⟩
  have V := Arv.new A hn
  rw [hdv] at V
  rw [List.map_replicate]
  exact V.pad (vs' := List.replicate N (.int 0)) (fun i => by have q := pad_rep [] (Value.int 0) N i; rw [List.nil_append] at q; exact q)
theorem own_newJ (X : Stand p l e R s m args below meth c T locs cells slots) (hx : p.tables.exec = Jvm.exec) (hZ : Z.Warmed39 s.vm) (w : (Jvm.Cond.arrayClass .long).before a0 Z = true) (eT : T.heap = h) (Z0 : n0 ≤ h.size) {g : JFrame} (hg : g.method = m) {n : Int32} {rest : List Value} (hs : g.stack = .int n :: rest)
    (hd : decode c.code g.pc = .ok (.newarray .long, 2)) (hn : ¬ n < 0) (cap N : Nat) (hN : n.toNatClampNeg = N) (hcap : N ≤ cap) (hb : cap * 8 ≤ 536870912) (hc : cells + 1 ≤ R.cells) (hl : slots + cap ≤ R.slots) :
    ∃ (T' : State) (h' : Heap) (b : Addr), Stand p l e R s m args below meth c T' locs (cells + 1) (slots + cap) ∧ T'.heap = h' ∧ Ext h h' ∧ b = h.size ∧ n0 ≤ b ∧ n0 ≤ h'.size ∧ own_AJ Z h' b n (List.replicate N 0) ∧
      ∀ t, Steps p.tables e below (T'.setTop { g with pc := g.pc + 2, stack := .ref b :: rest }) t → Steps p.tables e below (T.setTop g) t := by
  obtain ⟨T', h', k, X', e', E, A, st⟩ := newP X hx hZ (aty := .long) w eT hg hd hs hn (cap := cap) (by rw [hN]; exact hcap) hb hc hl
  refine ⟨T', h', h.size, X', e', E, rfl, Z0, Nat.le_trans Z0 E.1, ⟨k, ?_, by rw [List.length_replicate, hN]⟩, st⟩
  have V := Arv.new A hn
  rw [List.map_replicate]
  exact V.pad (vs' := List.replicate N (.long 0)) (fun i => by have q := pad_rep [] (Value.long 0) N i; rw [List.nil_append] at q; exact q)
/-- a byte stored -/
theorem own_stB (X : Stand p l e R s m args below meth c T locs cells slots) (hx : p.tables.exec = Jvm.exec) (hZ : Z.Warmed39 s.vm) (eT : T.heap = h) (N : Fr n0 locs) {n : Int32} {xs ys : List Int32} (V : own_AI Z h a .byte n xs) (ga : n0 ≤ a) {g : JFrame} (hg : g.method = m) {j x : Int32} {rest : List Value} (hs : g.stack = .int x :: .int j :: .ref a :: rest)
    (hd : decode c.code g.pc = .ok (.bastore, 1)) (hj : ¬ j < 0) (hi : j.toNatClampNeg < xs.length) (hy : xs.set j.toNatClampNeg (x.toInt8.toInt32) = ys) :
    ∃ (T' : State) (h' : Heap) (locs' : List Loc), Stand p l e R s m args below meth c T' locs' cells slots ∧ T'.heap = h' ∧ Fr n0 locs' ∧ Wr h h' a j.toNatClampNeg (.int (x.toInt8.toInt32)) ∧ own_AI Z h' a .byte n ys ∧
      ∀ t, Steps p.tables e below (T'.setTop { g with pc := g.pc + 1, stack := rest }) t → Steps p.tables e below (T.setTop g) t := by
  obtain ⟨k, ⟨cl, Ar, q, S, M, H, G⟩, hl⟩ := V
  obtain ⟨T', h', X', e', W, st⟩ := stB X hx hZ eT Ar (j := j) (x := x) (inb_of S (own_bound hl hj M hi)) hg hs hd
  refine ⟨T', h', _, X', e', Fr.snoc X' N ga, W, ?_, st⟩
  subst hy
  refine ⟨k, ?_, by rw [List.length_set]; exact hl⟩
  have := Arv.set Ar q S M H G (fits_nar_byte x) W j.toNatClampNeg rfl (by rw [List.length_map]; exact hi)
  rw [List.map_set]
  exact this
theorem own_stI (X : Stand p l e R s m args below meth c T locs cells slots) (hx : p.tables.exec = Jvm.exec) (hZ : Z.Warmed39 s.vm) (eT : T.heap = h) (N : Fr n0 locs) {n : Int32} {xs ys : List Int32} (V : own_AI Z h a .int n xs) (ga : n0 ≤ a) {g : JFrame} (hg : g.method = m) {j x : Int32} {rest : List Value} (hs : g.stack = .int x :: .int j :: .ref a :: rest)
    (hd : decode c.code g.pc = .ok (.iastore, 1)) (hj : ¬ j < 0) (hi : j.toNatClampNeg < xs.length) (hy : xs.set j.toNatClampNeg x = ys) :
    ∃ (T' : State) (h' : Heap) (locs' : List Loc), Stand p l e R s m args below meth c T' locs' cells slots ∧ T'.heap = h' ∧ Fr n0 locs' ∧ Wr h h' a j.toNatClampNeg (.int x) ∧ own_AI Z h' a .int n ys ∧
      ∀ t, Steps p.tables e below (T'.setTop { g with pc := g.pc + 1, stack := rest }) t → Steps p.tables e below (T.setTop g) t := by
  obtain ⟨k, ⟨cl, Ar, q, S, M, H, G⟩, hl⟩ := V
  obtain ⟨T', h', X', e', W, st⟩ := stI X hx hZ eT Ar (j := j) (x := x) (inb_of S (own_bound hl hj M hi)) hg hs hd
  refine ⟨T', h', _, X', e', Fr.snoc X' N ga, W, ?_, st⟩
  subst hy
  refine ⟨k, ?_, by rw [List.length_set]; exact hl⟩
  have := Arv.set Ar q S M H G (v := .int x) rfl W j.toNatClampNeg rfl (by rw [List.length_map]; exact hi)
  rw [List.map_set]
  exact this
theorem own_stJ (X : Stand p l e R s m args below meth c T locs cells slots) (hx : p.tables.exec = Jvm.exec) (hZ : Z.Warmed39 s.vm) (eT : T.heap = h) (N : Fr n0 locs) {n : Int32} {xs ys : List Int64} (V : own_AJ Z h a n xs) (ga : n0 ≤ a) {g : JFrame} (hg : g.method = m) {j : Int32} {x : Int64} {rest : List Value} (hs : g.stack = .long x :: .int j :: .ref a :: rest)
    (hd : decode c.code g.pc = .ok (.lastore, 1)) (hj : ¬ j < 0) (hi : j.toNatClampNeg < xs.length) (hy : xs.set j.toNatClampNeg x = ys) :
    ∃ (T' : State) (h' : Heap) (locs' : List Loc), Stand p l e R s m args below meth c T' locs' cells slots ∧ T'.heap = h' ∧ Fr n0 locs' ∧ Wr h h' a j.toNatClampNeg (.long x) ∧ own_AJ Z h' a n ys ∧
      ∀ t, Steps p.tables e below (T'.setTop { g with pc := g.pc + 1, stack := rest }) t → Steps p.tables e below (T.setTop g) t := by
  obtain ⟨k, ⟨cl, Ar, q, S, M, H, G⟩, hl⟩ := V
  obtain ⟨T', h', X', e', W, st⟩ := stJ X hx hZ eT Ar (j := j) (x := x) (inb_of S (own_bound hl hj M hi)) hg hs hd
  refine ⟨T', h', _, X', e', Fr.snoc X' N ga, W, ?_, st⟩
  subst hy
  refine ⟨k, ?_, by rw [List.length_set]; exact hl⟩
  have := Arv.set Ar q S M H G (v := .long x) rfl W j.toNatClampNeg rfl (by rw [List.length_map]; exact hi)
  rw [List.map_set]
  exact this
theorem own_baload (X : Stand p l e R s m args below meth c T locs cells slots) (hx : p.tables.exec = Jvm.exec) (hZ : Z.Warmed39 s.vm) (eT : T.heap = h) {n : Int32} {xs : List Int32} (V : own_AI Z h a .byte n xs) {g : JFrame} (hg : g.method = m) {j : Int32} {rest : List Value} (hs : g.stack = .int j :: .ref a :: rest)
    (hd : decode c.code g.pc = .ok (.baload, 1)) (hj : ¬ j < 0) (hi : j.toNatClampNeg < xs.length) {w : Int32} (hv : xs.getD j.toNatClampNeg 0 = w) :
    ∀ t, Steps p.tables e below (T.setTop { g with pc := g.pc + 1, stack := .int w :: rest }) t → Steps p.tables e below (T.setTop g) t := by
  obtain ⟨k, ⟨cl, Ar, q, S, M, H, G⟩, hl⟩ := V
  have hin := inb_of (j := j) S (own_bound hl hj M hi)
  have hat := Has.at H hin (v := .int w) (by rw [own_map_getD Value.int 0, hv])
  exact fun t k => X.baloadBytes hx (j := j) (v := .int w) (by rw [eT]; exact Ar.1) (State.isArrayOf_alike hZ.alike Ar.2.1) Ar.2.2 hin hat hg hs hd _ k
theorem own_iaload (X : Stand p l e R s m args below meth c T locs cells slots) (hx : p.tables.exec = Jvm.exec) (hZ : Z.Warmed39 s.vm) (eT : T.heap = h) {n : Int32} {xs : List Int32} (V : own_AI Z h a .int n xs) {g : JFrame} (hg : g.method = m) {j : Int32} {rest : List Value} (hs : g.stack = .int j :: .ref a :: rest)
    (hd : decode c.code g.pc = .ok (.iaload, 1)) (hj : ¬ j < 0) (hi : j.toNatClampNeg < xs.length) {w : Int32} (hv : xs.getD j.toNatClampNeg 0 = w) :
    ∀ t, Steps p.tables e below (T.setTop { g with pc := g.pc + 1, stack := .int w :: rest }) t → Steps p.tables e below (T.setTop g) t := by
  obtain ⟨k, ⟨cl, Ar, q, S, M, H, G⟩, hl⟩ := V
  have hin := inb_of (j := j) S (own_bound hl hj M hi)
  have hat := Has.at H hin (v := .int w) (by rw [own_map_getD Value.int 0, hv])
  exact fun t k => X.iaload hx (j := j) (v := .int w) (by rw [eT]; exact Ar.1) (State.isArrayOf_alike hZ.alike Ar.2.1) Ar.2.2 hin hat hg hs hd _ k
theorem own_laload (X : Stand p l e R s m args below meth c T locs cells slots) (hx : p.tables.exec = Jvm.exec) (hZ : Z.Warmed39 s.vm) (eT : T.heap = h) {n : Int32} {xs : List Int64} (V : own_AJ Z h a n xs) {g : JFrame} (hg : g.method = m) {j : Int32} {rest : List Value} (hs : g.stack = .int j :: .ref a :: rest)
    (hd : decode c.code g.pc = .ok (.laload, 1)) (hj : ¬ j < 0) (hi : j.toNatClampNeg < xs.length) {w : Int64} (hv : xs.getD j.toNatClampNeg 0 = w) :
    ∀ t, Steps p.tables e below (T.setTop { g with pc := g.pc + 1, stack := .long w :: rest }) t → Steps p.tables e below (T.setTop g) t := by
  obtain ⟨k, ⟨cl, Ar, q, S, M, H, G⟩, hl⟩ := V
  have hin := inb_of (j := j) S (own_bound hl hj M hi)
  have hat := Has.at H hin (v := .long w) (by rw [own_map_getD Value.long 0, hv])
  exact fun t k => X.laload hx (j := j) (v := .long w) (by rw [eT]; exact Ar.1) (State.isArrayOf_alike hZ.alike Ar.2.1) Ar.2.2 hin hat hg hs hd _ k
theorem own_lenI (X : Stand p l e R s m args below meth c T locs cells slots) (hx : p.tables.exec = Jvm.exec) (hZ : Z.Warmed39 s.vm) (eT : T.heap = h) {ty : FieldType} {n : Int32} {xs : List Int32} (V : own_AI Z h a ty n xs) {g : JFrame} (hg : g.method = m) {rest : List Value} (hs : g.stack = .ref a :: rest)
    (hd : decode c.code g.pc = .ok (.arraylength, 1)) :
    ∀ t, Steps p.tables e below (T.setTop { g with pc := g.pc + 1, stack := .int n :: rest }) t → Steps p.tables e below (T.setTop g) t := by
  obtain ⟨k, ⟨cl, Ar, q, S, M, H, G⟩, hl⟩ := V
  intro t k
  refine X.arraylength hx (cell := cl) (by rw [eT]; exact Ar.1) (State.isArrayOf_alike hZ.alike Ar.2.1) hg hs hd _ ?_
  rw [len_of S M]
  exact k
theorem own_lenJ (X : Stand p l e R s m args below meth c T locs cells slots) (hx : p.tables.exec = Jvm.exec) (hZ : Z.Warmed39 s.vm) (eT : T.heap = h) {n : Int32} {xs : List Int64} (V : own_AJ Z h a n xs) {g : JFrame} (hg : g.method = m) {rest : List Value} (hs : g.stack = .ref a :: rest)
    (hd : decode c.code g.pc = .ok (.arraylength, 1)) :
    ∀ t, Steps p.tables e below (T.setTop { g with pc := g.pc + 1, stack := .int n :: rest }) t → Steps p.tables e below (T.setTop g) t := by
  obtain ⟨k, ⟨cl, Ar, q, S, M, H, G⟩, hl⟩ := V
  intro t k
  refine X.arraylength hx (cell := cl) (by rw [eT]; exact Ar.1) (State.isArrayOf_alike hZ.alike Ar.2.1) hg hs hd _ ?_
  rw [len_of S M]
  exact k
end OwnKit
section OwnObj
variable {p : Program} {l : Launch} {e : Env} {R : Room} {s : State} {m : MethodId} {args : Array Value} {below : List Frame} {meth : Method} {c : Code} {T T' : State} {locs : List Loc} {cells slots : Nat} {Z : State} {a0 : Array Value} {h h' : Heap} {n0 : Nat} {a : Addr}
/-- an instance method by its contract -/
theorem own_callV (X : Stand p l e R s m args below meth c T locs cells slots) (hx : p.tables.exec = Jvm.exec) (hZ : Z.Warmed39 s.vm) {own C : String} {index : Nat} {y : MethodName} {bytes : ByteArray} {maxL : Nat} {ret : Option FieldType} {rm : Room} (W : Nat) {as' : Array Value} {Q : Option Value → Heap → List Loc → Prop}
    (hown : s.vm.findClass own = some m.cls) (w1 : (Jvm.Cond.methodLink own index y).before a0 Z = true) (w2 : (Jvm.Cond.declares y).before a0 Z = true) (w3 : (Jvm.Cond.selects C y y).before a0 Z = true) (w4 : (Jvm.Cond.instanceMethod y).before a0 Z = true) (w5 : (Jvm.Cond.initialized y.cls).before a0 Z = true) (w6 : (Jvm.Cond.code y bytes maxL ret).before a0 Z = true)
    (hy : y.cls ≠ "java/lang/invoke/MethodHandle" ∧ y.cls ≠ "java/lang/invoke/VarHandle") (hM : own_Met l Z y bytes maxL ret [] rm as' h Q) (hf : rm.frames + 1 ≤ R.frames) (hl : W + (maxL + 11) + rm.locals ≤ R.locals) (eT : T.heap = h) (E : Exa Z h a C) (hc : cells + rm.cells ≤ R.cells) (hs : slots + rm.slots ≤ R.slots)
    {g : JFrame} (hg : g.method = m) (hsize : g.locals.size = c.maxLocals) {argsL rest : List Value} (hlen : ∀ sig, parseMethodDescriptor y.desc = some sig → argsL.length = sig.parameters.length) (has : (Value.ref a :: argsL).toArray = as') (hst : g.stack = argsL.reverse ++ .ref a :: rest)
    (hW : 2 * g.monitorRoom + (rest.map fun v => v.category).sum ≤ W) (hd : decode c.code g.pc = .ok (.invokevirtual index, 3)) :
    ∃ (v : Option Value) (T' : State) (L : List Loc), Stand p l e R s m args below meth c T' (locs ++ L) (cells + rm.cells) (slots + rm.slots) ∧ Q v T'.heap L ∧
      ∀ t, Steps p.tables e below (T'.setTop { g with pc := g.pc + 3, stack := v.toList ++ rest }) t → Steps p.tables e below (T.setTop g) t := by
  obtain ⟨cq, kq, qa, qb, qc⟩ := isOf hZ eT E
  obtain ⟨v, _, ⟨T6, L6, k6, n6⟩, -, X6, ⟨Lc6, hQ6, l6, y6, z6⟩, st6⟩ := X.virtualBack hx (y := y) (z := y) hown (mvT hZ w1) (mvT hZ w2) (notFace_of_selects (args := #[]) (mvT hZ w3)) (mvT hZ w3) (mvT hZ w4) hy (backOf (W := W) hM hZ w6 w5 hf hl) qa qc hg hsize (Steps.refl _) (argsL := argsL) (rest := rest) hlen hst hW hd (fun _ _ => ⟨has, eT, hc, hs⟩)
  dsimp only [Pt.U, Pt.locs, Pt.cells, Pt.slots] at X6 l6 y6 z6 st6 hQ6
  subst l6 y6 z6
  exact ⟨v, T6, Lc6, X6, hQ6, fun t k => st6.trans k⟩
/-- a constructor by its contract -/
theorem own_callI (X : Stand p l e R s m args below meth c T locs cells slots) (hx : p.tables.exec = Jvm.exec) (hZ : Z.Warmed39 s.vm) {own : String} {index : Nat} {y : MethodName} {bytes : ByteArray} {maxL : Nat} {rm : Room} (W : Nat) {as' : Array Value} {Q : Option Value → Heap → List Loc → Prop} (hi : y.name = "<init>")
    (hown : s.vm.findClass own = some m.cls) (w1 : (Jvm.Cond.methodLink own index y).before a0 Z = true) (w2 : (Jvm.Cond.instanceMethod y).before a0 Z = true) (w3 : (Jvm.Cond.initialized y.cls).before a0 Z = true) (w4 : (Jvm.Cond.code y bytes maxL none).before a0 Z = true)
    (hy : y.cls ≠ "java/lang/invoke/MethodHandle" ∧ y.cls ≠ "java/lang/invoke/VarHandle") (hM : own_Met l Z y bytes maxL none [] rm as' h Q) (hf : rm.frames + 1 ≤ R.frames) (hl : W + (maxL + 11) + rm.locals ≤ R.locals) (eT : T.heap = h) (hc : cells + rm.cells ≤ R.cells) (hs : slots + rm.slots ≤ R.slots)
    {g : JFrame} (hg : g.method = m) (hsize : g.locals.size = c.maxLocals) {argsL rest : List Value} (hlen : ∀ sig, parseMethodDescriptor y.desc = some sig → argsL.length = sig.parameters.length) (has : (Value.ref a :: argsL).toArray = as') (hst : g.stack = argsL.reverse ++ .ref a :: rest)
    (hW : 2 * g.monitorRoom + (rest.map fun v => v.category).sum ≤ W) (hd : decode c.code g.pc = .ok (.invokespecial index, 3)) :
    ∃ (v : Option Value) (T' : State) (L : List Loc), Stand p l e R s m args below meth c T' (locs ++ L) (cells + rm.cells) (slots + rm.slots) ∧ Q v T'.heap L ∧
      ∀ t, Steps p.tables e below (T'.setTop { g with pc := g.pc + 3, stack := v.toList ++ rest }) t → Steps p.tables e below (T.setTop g) t := by
  obtain ⟨v, _, ⟨T6, L6, k6, n6⟩, -, X6, ⟨Lc6, hQ6, l6, y6, z6⟩, st6⟩ := X.specialBack hx (y := y) hi hown (mvT hZ w1) (mvT hZ w2) (mvT hZ w4) hy (backOf (W := W) hM hZ w4 w3 hf hl) hg hsize (Steps.refl _) (a := a) (argsL := argsL) (rest := rest) hlen hst hW hd (fun _ _ => ⟨has, eT, hc, hs⟩)
  dsimp only [Pt.U, Pt.locs, Pt.cells, Pt.slots] at X6 l6 y6 z6 st6 hQ6
  subst l6 y6 z6
  exact ⟨v, T6, Lc6, X6, hQ6, fun t k => st6.trans k⟩
/-- a private method by its contract; y0: a method of the same class that isn't private -/
theorem own_callX (X : Stand p l e R s m args below meth c T locs cells slots) (hx : p.tables.exec = Jvm.exec) (hZ : Z.Warmed39 s.vm) {own C C0 : String} {index : Nat} {y y0 : MethodName} {bytes : ByteArray} {maxL : Nat} {ret : Option FieldType} {rm : Room} (W : Nat) {as' : Array Value} {Q : Option Value → Heap → List Loc → Prop}
    (hown : s.vm.findClass own = some m.cls) (w1 : (Jvm.Cond.methodLink own index y).before a0 Z = true) (w2 : (Jvm.Cond.instanceMethod y).before a0 Z = true) (w3 : (Jvm.Cond.privateMethod y).before a0 Z = true) (w4 : (Jvm.Cond.selects C0 y0 y0).before a0 Z = true) (hcls : y0.cls = y.cls) (w5 : (Jvm.Cond.initialized y.cls).before a0 Z = true) (w6 : (Jvm.Cond.code y bytes maxL ret).before a0 Z = true)
    (hy : y.cls ≠ "java/lang/invoke/MethodHandle" ∧ y.cls ≠ "java/lang/invoke/VarHandle") (hM : own_Met l Z y bytes maxL ret [] rm as' h Q) (hf : rm.frames + 1 ≤ R.frames) (hl : W + (maxL + 11) + rm.locals ≤ R.locals) (eT : T.heap = h) (E : Exa Z h a C) (hc : cells + rm.cells ≤ R.cells) (hs : slots + rm.slots ≤ R.slots)
    {g : JFrame} (hg : g.method = m) (hsize : g.locals.size = c.maxLocals) {argsL rest : List Value} (hlen : ∀ sig, parseMethodDescriptor y.desc = some sig → argsL.length = sig.parameters.length) (has : (Value.ref a :: argsL).toArray = as') (hst : g.stack = argsL.reverse ++ .ref a :: rest)
    (hW : 2 * g.monitorRoom + (rest.map fun v => v.category).sum ≤ W) (hd : decode c.code g.pc = .ok (.invokevirtual index, 3)) :
    ∃ (v : Option Value) (T' : State) (L : List Loc), Stand p l e R s m args below meth c T' (locs ++ L) (cells + rm.cells) (slots + rm.slots) ∧ Q v T'.heap L ∧
      ∀ t, Steps p.tables e below (T'.setTop { g with pc := g.pc + 3, stack := v.toList ++ rest }) t → Steps p.tables e below (T.setTop g) t := by
  obtain ⟨cq, q1, q2⟩ := E.cell
  have hp := Cond.privateMethod_at (mvP hZ w3 (args := #[]))
  obtain ⟨c2, r2, m2, -, -, b3, -, kP, hkP, hkPi⟩ := Cond.selects_spec (mvT hZ w4 (args := #[]))
  have hcc := findClass_of_methodNamed b3
  rw [hcls] at hcc
  have hsel := selects_self_of_private hcc hkP hkPi hp (mvT hZ w2) hy (args := args)
  obtain ⟨v, _, ⟨T6, L6, k6, n6⟩, -, X6, ⟨Lc6, hQ6, l6, y6, z6⟩, st6⟩ := X.privateBack hx (y := y) hown (mvT hZ w1) (mvT hZ w2) hsel hp (mvT hZ w6) hy (backOf (W := W) hM hZ w6 w5 hf hl) hg hsize (Steps.refl _) (a := a) (by rw [eT]; exact q1) q2 (argsL := argsL) (rest := rest) hlen hst hW hd (fun _ _ => ⟨has, eT, hc, hs⟩)
  dsimp only [Pt.U, Pt.locs, Pt.cells, Pt.slots] at X6 l6 y6 z6 st6 hQ6
  subst l6 y6 z6
  exact ⟨v, T6, Lc6, X6, hQ6, fun t k => st6.trans k⟩
end OwnObj
theorem d1_0 : decode jdk_29_method_70_code 0 = .ok (.lload_n 0, 1) := by decide +kernel
theorem d1_1 : decode jdk_29_method_70_code 1 = .ok (.lload_n 2, 1) := by decide +kernel
theorem d1_2 : decode jdk_29_method_70_code 2 = .ok (.lcmp, 1) := by decide +kernel
theorem d1_10 : decode jdk_29_method_70_code 10 = .ok (.lload_n 2, 1) := by decide +kernel
theorem d1_6 : decode jdk_29_method_70_code 6 = .ok (.lload_n 0, 1) := by decide +kernel
theorem d1_7 : decode jdk_29_method_70_code 7 = .ok (.goto 4, 3) := by decide +kernel
theorem ef1 (m : MethodId) (x0 : Int64) (x1 : Int64) : entryFrame m #[(.long x0), (.long x1)] 4 = mkF m 0 #[.val (.long x0), .second, .val (.long x1), .second] [] := by first | (simp [entryFrame, mkF, argsToLocals, Value.category]; done) | rfl
theorem d1_3 : decode jdk_29_method_70_code 3 = .ok (.ifCond .gt 7, 3) := by decide +kernel
theorem d1_11 : decode jdk_29_method_70_code 11 = .ok (.lreturn, 1) := by decide +kernel
theorem pf0 : plainFor (⟨"java/lang/Math", "min", "(JJ)J"⟩ : MethodName) = true := by decide +kernel
def f1 (y : Int64) (z : Int64) : Int64 := if z < y then (z) else (y)
set_option maxRecDepth 65536 in
set_option maxHeartbeats 40000000 in
theorem rm1 (l : Launch) (Z : State) (a0 : Array Value) (hw : ∀ d ∈ tables_1, d.before a0 Z = true) (ws : List Jvm.Cond) (y : Int64) (z : Int64) (h0 : Heap) (n0 : Nat) :
    own_Met l Z (⟨"java/lang/Math", "min", "(JJ)J"⟩ : MethodName) jdk_29_method_70_code 4 (some .long) ws ({ frames := 0, cells := 0, slots := 0, locals := 0 } : Room) #[(.long y), (.long z)] h0 (own_PQ (.long (f1 y z)) h0 n0) := by
  refine own_body pf0 ?_
  intro p e s m below meth c T X hx hby hml hret hlk hZ hown hnm eT
  have N := Fr.nil n0
  refine own_entry (ef1 m y z) ?_
  unfold f1
  refine own_st (T' := T) (F' := (mkF m 1 #[.val (.long y), .second, .val (.long z), .second] [(.long y)])) (fun _ kq => XS.lloadN X.here hx rfl (hb hby d1_0) rfl kq) ?_
  refine own_st (T' := T) (F' := (mkF m 2 #[.val (.long y), .second, .val (.long z), .second] [(.long z), (.long y)])) (fun _ kq => XS.lloadN X.here hx rfl (hb hby d1_1) rfl kq) ?_
  refine own_st (T' := T) (F' := (mkF m 3 #[.val (.long y), .second, .val (.long z), .second] [(.int (lcmpW y z))])) (fun _ kq => XS.lcmp X.here hx rfl (hb hby d1_2) rfl kq) ?_
  by_cases hc3_1 : z < y
  ·
    rw [if_pos hc3_1]
    refine own_st (T' := T) (F' := (mkF m 10 #[.val (.long y), .second, .val (.long z), .second] [])) (fun _ kq => XS.ifYes X.here hx rfl (pc0 := 3) (pc' := 10) rfl (hb hby d1_3) rfl ((if0 _ _).trans (tlt ((lw_gt y z).mpr hc3_1)).2.2.1) (by decide) (by decide) kq) ?_
    refine own_st (T' := T) (F' := (mkF m 11 #[.val (.long y), .second, .val (.long z), .second] [(.long z)])) (fun _ kq => XS.lloadN X.here hx rfl (hb hby d1_10) rfl kq) ?_
    exact own_retL X hx hlk hret (hb hby d1_11) (by decide) (by decide) (own_PQi rfl N eT)
  ·
    rw [if_neg hc3_1]
    refine own_st (T' := T) (F' := (mkF m 6 #[.val (.long y), .second, .val (.long z), .second] [])) (fun _ kq => XS.ifNo X.here hx rfl (hb hby d1_3) rfl ((if0 _ _).trans (flt (mt (lw_gt y z).mp hc3_1)).2.2.1) kq) ?_
    refine own_st (T' := T) (F' := (mkF m 7 #[.val (.long y), .second, .val (.long z), .second] [(.long y)])) (fun _ kq => XS.lloadN X.here hx rfl (hb hby d1_6) rfl kq) ?_
    refine own_st (T' := T) (F' := (mkF m 11 #[.val (.long y), .second, .val (.long z), .second] [(.long y)])) (fun _ kq => XS.goto X.here hx rfl (pc0 := 7) (pc' := 11) rfl (hb hby d1_7) (by decide) (by decide) kq) ?_
    exact own_retL X hx hlk hret (hb hby d1_11) (by decide) (by decide) (own_PQi rfl N eT)
theorem d2_0 : decode jdk_29_method_66_code 0 = .ok (.lload_n 0, 1) := by decide +kernel
theorem d2_1 : decode jdk_29_method_66_code 1 = .ok (.lload_n 2, 1) := by decide +kernel
theorem d2_2 : decode jdk_29_method_66_code 2 = .ok (.lcmp, 1) := by decide +kernel
theorem d2_10 : decode jdk_29_method_66_code 10 = .ok (.lload_n 2, 1) := by decide +kernel
theorem d2_6 : decode jdk_29_method_66_code 6 = .ok (.lload_n 0, 1) := by decide +kernel
theorem d2_7 : decode jdk_29_method_66_code 7 = .ok (.goto 4, 3) := by decide +kernel
theorem ef2 (m : MethodId) (x0 : Int64) (x1 : Int64) : entryFrame m #[(.long x0), (.long x1)] 4 = mkF m 0 #[.val (.long x0), .second, .val (.long x1), .second] [] := by first | (simp [entryFrame, mkF, argsToLocals, Value.category]; done) | rfl
theorem d2_3 : decode jdk_29_method_66_code 3 = .ok (.ifCond .lt 7, 3) := by decide +kernel
theorem d2_11 : decode jdk_29_method_66_code 11 = .ok (.lreturn, 1) := by decide +kernel
theorem pf1 : plainFor (⟨"java/lang/Math", "max", "(JJ)J"⟩ : MethodName) = true := by decide +kernel
def f2 (y : Int64) (z : Int64) : Int64 := if y < z then (z) else (y)
set_option maxRecDepth 65536 in
set_option maxHeartbeats 40000000 in
theorem rm2 (l : Launch) (Z : State) (a0 : Array Value) (hw : ∀ d ∈ tables_1, d.before a0 Z = true) (ws : List Jvm.Cond) (y : Int64) (z : Int64) (h0 : Heap) (n0 : Nat) :
    own_Met l Z (⟨"java/lang/Math", "max", "(JJ)J"⟩ : MethodName) jdk_29_method_66_code 4 (some .long) ws ({ frames := 0, cells := 0, slots := 0, locals := 0 } : Room) #[(.long y), (.long z)] h0 (own_PQ (.long (f2 y z)) h0 n0) := by
  refine own_body pf1 ?_
  intro p e s m below meth c T X hx hby hml hret hlk hZ hown hnm eT
  have N := Fr.nil n0
  refine own_entry (ef2 m y z) ?_
  unfold f2
  refine own_st (T' := T) (F' := (mkF m 1 #[.val (.long y), .second, .val (.long z), .second] [(.long y)])) (fun _ kq => XS.lloadN X.here hx rfl (hb hby d2_0) rfl kq) ?_
  refine own_st (T' := T) (F' := (mkF m 2 #[.val (.long y), .second, .val (.long z), .second] [(.long z), (.long y)])) (fun _ kq => XS.lloadN X.here hx rfl (hb hby d2_1) rfl kq) ?_
  refine own_st (T' := T) (F' := (mkF m 3 #[.val (.long y), .second, .val (.long z), .second] [(.int (lcmpW y z))])) (fun _ kq => XS.lcmp X.here hx rfl (hb hby d2_2) rfl kq) ?_
  by_cases hc3_2 : y < z
  ·
    rw [if_pos hc3_2]
    refine own_st (T' := T) (F' := (mkF m 10 #[.val (.long y), .second, .val (.long z), .second] [])) (fun _ kq => XS.ifYes X.here hx rfl (pc0 := 3) (pc' := 10) rfl (hb hby d2_3) rfl ((if0 _ _).trans (tlt ((lw_lt y z).mpr hc3_2)).1) (by decide) (by decide) kq) ?_
    refine own_st (T' := T) (F' := (mkF m 11 #[.val (.long y), .second, .val (.long z), .second] [(.long z)])) (fun _ kq => XS.lloadN X.here hx rfl (hb hby d2_10) rfl kq) ?_
    exact own_retL X hx hlk hret (hb hby d2_11) (by decide) (by decide) (own_PQi rfl N eT)
  ·
    rw [if_neg hc3_2]
    refine own_st (T' := T) (F' := (mkF m 6 #[.val (.long y), .second, .val (.long z), .second] [])) (fun _ kq => XS.ifNo X.here hx rfl (hb hby d2_3) rfl ((if0 _ _).trans (flt (mt (lw_lt y z).mp hc3_2)).1) kq) ?_
    refine own_st (T' := T) (F' := (mkF m 7 #[.val (.long y), .second, .val (.long z), .second] [(.long y)])) (fun _ kq => XS.lloadN X.here hx rfl (hb hby d2_6) rfl kq) ?_
    refine own_st (T' := T) (F' := (mkF m 11 #[.val (.long y), .second, .val (.long z), .second] [(.long y)])) (fun _ kq => XS.goto X.here hx rfl (pc0 := 7) (pc' := 11) rfl (hb hby d2_7) (by decide) (by decide) kq) ?_
    exact own_retL X hx hlk hret (hb hby d2_11) (by decide) (by decide) (own_PQi rfl N eT)
theorem d3_0 : decode method_2_code 0 = .ok (.lload_n 0, 1) := by decide +kernel
theorem d3_1 : decode method_2_code 1 = .ok (.lload 4, 2) := by decide +kernel
theorem pd0 : parseMethodDescriptor "(JJ)J" = some ⟨[.long, .long], some .long⟩ := by decide +kernel
theorem d3_3 : decode method_2_code 3 = .ok (.invokestatic 7, 3) := by decide +kernel
theorem d3_6 : decode method_2_code 6 = .ok (.lload_n 2, 1) := by decide +kernel
theorem d3_7 : decode method_2_code 7 = .ok (.lload 6, 2) := by decide +kernel
theorem d3_9 : decode method_2_code 9 = .ok (.invokestatic 13, 3) := by decide +kernel
theorem d3_12 : decode method_2_code 12 = .ok (.lcmp, 1) := by decide +kernel
theorem d3_20 : decode method_2_code 20 = .ok (.iconst 0, 1) := by decide +kernel
theorem d3_16 : decode method_2_code 16 = .ok (.iconst 1, 1) := by decide +kernel
theorem d3_17 : decode method_2_code 17 = .ok (.goto 4, 3) := by decide +kernel
theorem ef3 (m : MethodId) (x0 : Int64) (x1 : Int64) (x2 : Int64) (x3 : Int64) : entryFrame m #[(.long x0), (.long x1), (.long x2), (.long x3)] 8 = mkF m 0 #[.val (.long x0), .second, .val (.long x1), .second, .val (.long x2), .second, .val (.long x3), .second] [] := by first | (simp [entryFrame, mkF, argsToLocals, Value.category]; done) | rfl
theorem d3_13 : decode method_2_code 13 = .ok (.ifCond .gt 7, 3) := by decide +kernel
theorem d3_21 : decode method_2_code 21 = .ok (.ireturn, 1) := by decide +kernel
theorem pn2 : plainName "com/example/forest_grammar/forestgrammar/languages/BoxOverlapsPinLaw" = true := by first | (simp [plainName, overriddenIn]; done) | decide +kernel
def f3 (ua : Int64) (va : Int64) (ub : Int64) (vb : Int64) : Int32 := if (f1 va vb) < (f2 ua ub) then ((0 : Int32)) else ((1 : Int32))
set_option maxRecDepth 65536 in
set_option maxHeartbeats 40000000 in
theorem rm3 (l : Launch) (Z : State) (a0 : Array Value) (hw : ∀ d ∈ tables_1, d.before a0 Z = true) (ws : List Jvm.Cond) (ua : Int64) (va : Int64) (ub : Int64) (vb : Int64) (h0 : Heap) (n0 : Nat) :
    own_Met l Z (⟨"com/example/forest_grammar/forestgrammar/languages/BoxOverlapsPinLaw", "meet", "(JJJJ)Z"⟩ : MethodName) method_2_code 8 (some .boolean) ws ({ frames := 1, cells := 0, slots := 0, locals := 17 } : Room) #[(.long ua), (.long va), (.long ub), (.long vb)] h0 (own_PQ (.int (f3 ua va ub vb)) h0 n0) := by
  refine own_body (plainFor_of_name pn2) ?_
  intro p e s m below meth c T X hx hby hml hret hlk hZ hown hnm eT
  have N := Fr.nil n0
  refine own_entry (ef3 m ua va ub vb) ?_
  unfold f3
  refine own_st (T' := T) (F' := (mkF m 1 #[.val (.long ua), .second, .val (.long va), .second, .val (.long ub), .second, .val (.long vb), .second] [(.long ua)])) (fun _ kq => XS.lloadN X.here hx rfl (hb hby d3_0) rfl kq) ?_
  refine own_st (T' := T) (F' := (mkF m 3 #[.val (.long ua), .second, .val (.long va), .second, .val (.long ub), .second, .val (.long vb), .second] [(.long ub), (.long ua)])) (fun _ kq => XS.lload X.here hx rfl (hb hby d3_1) rfl kq) ?_
  obtain ⟨T5, locs5, X5, e5, N5, st5⟩ := own_callP X hx hZ 0 hown (hw _ (List.mem_of_getElem? (i := 5) rfl)) (hw _ (List.mem_of_getElem? (i := 6) rfl)) (hw _ (List.mem_of_getElem? (i := 3) rfl)) (hw _ (List.mem_of_getElem? (i := 7) rfl)) (by decide) (rm2 l Z a0 hw [] ua ub h0 n0) (by decide) (by decide) rfl rfl eT N (by decide) (by decide) (g := (mkF m 3 #[.val (.long ua), .second, .val (.long va), .second, .val (.long ub), .second, .val (.long vb), .second] [(.long ub), (.long ua)])) rfl (by rw [hml]; rfl) (argsL := [(.long ua), (.long ub)]) (rest := []) (lenOf pd0 rfl) rfl rfl (by show 2 * 0 + _ ≤ _; exact Nat.le_of_eq rfl) (hb hby d3_3)
  refine own_st (T' := T5) (F' := (mkF m 6 #[.val (.long ua), .second, .val (.long va), .second, .val (.long ub), .second, .val (.long vb), .second] [(.long (f2 ua ub))])) (st5) ?_
  refine own_st (T' := T5) (F' := (mkF m 7 #[.val (.long ua), .second, .val (.long va), .second, .val (.long ub), .second, .val (.long vb), .second] [(.long va), (.long (f2 ua ub))])) (fun _ kq => XS.lloadN X5.here hx rfl (hb hby d3_6) rfl kq) ?_
  refine own_st (T' := T5) (F' := (mkF m 9 #[.val (.long ua), .second, .val (.long va), .second, .val (.long ub), .second, .val (.long vb), .second] [(.long vb), (.long va), (.long (f2 ua ub))])) (fun _ kq => XS.lload X5.here hx rfl (hb hby d3_7) rfl kq) ?_
  obtain ⟨T6, locs6, X6, e6, N6, st6⟩ := own_callP X5 hx hZ 2 hown (hw _ (List.mem_of_getElem? (i := 1) rfl)) (hw _ (List.mem_of_getElem? (i := 2) rfl)) (hw _ (List.mem_of_getElem? (i := 3) rfl)) (hw _ (List.mem_of_getElem? (i := 4) rfl)) (by decide) (rm1 l Z a0 hw [] va vb h0 n0) (by decide) (by decide) rfl rfl e5 N5 (by decide) (by decide) (g := (mkF m 9 #[.val (.long ua), .second, .val (.long va), .second, .val (.long ub), .second, .val (.long vb), .second] [(.long vb), (.long va), (.long (f2 ua ub))])) rfl (by rw [hml]; rfl) (argsL := [(.long va), (.long vb)]) (rest := [(.long (f2 ua ub))]) (lenOf pd0 rfl) rfl rfl (by show 2 * 0 + _ ≤ _; exact Nat.le_of_eq rfl) (hb hby d3_9)
  refine own_st (T' := T6) (F' := (mkF m 12 #[.val (.long ua), .second, .val (.long va), .second, .val (.long ub), .second, .val (.long vb), .second] [(.long (f1 va vb)), (.long (f2 ua ub))])) (st6) ?_
  refine own_st (T' := T6) (F' := (mkF m 13 #[.val (.long ua), .second, .val (.long va), .second, .val (.long ub), .second, .val (.long vb), .second] [(.int (lcmpW (f2 ua ub) (f1 va vb)))])) (fun _ kq => XS.lcmp X6.here hx rfl (hb hby d3_12) rfl kq) ?_
  by_cases hc13_7 : (f1 va vb) < (f2 ua ub)
  ·
    rw [if_pos hc13_7]
    refine own_st (T' := T6) (F' := (mkF m 20 #[.val (.long ua), .second, .val (.long va), .second, .val (.long ub), .second, .val (.long vb), .second] [])) (fun _ kq => XS.ifYes X6.here hx rfl (pc0 := 13) (pc' := 20) rfl (hb hby d3_13) rfl ((if0 _ _).trans (tlt ((lw_gt (f2 ua ub) (f1 va vb)).mpr hc13_7)).2.2.1) (by decide) (by decide) kq) ?_
    refine own_st (T' := T6) (F' := (mkF m 21 #[.val (.long ua), .second, .val (.long va), .second, .val (.long ub), .second, .val (.long vb), .second] [(.int (0 : Int32))])) (fun _ kq => XS.iconst X6.here hx rfl (hb hby d3_20) kq) ?_
    exact own_retN X6 hx hlk hret (by simp) (hb hby d3_21) (by decide) (by decide) (own_PQi rfl N6 e6)
  ·
    rw [if_neg hc13_7]
    refine own_st (T' := T6) (F' := (mkF m 16 #[.val (.long ua), .second, .val (.long va), .second, .val (.long ub), .second, .val (.long vb), .second] [])) (fun _ kq => XS.ifNo X6.here hx rfl (hb hby d3_13) rfl ((if0 _ _).trans (flt (mt (lw_gt (f2 ua ub) (f1 va vb)).mp hc13_7)).2.2.1) kq) ?_
    refine own_st (T' := T6) (F' := (mkF m 17 #[.val (.long ua), .second, .val (.long va), .second, .val (.long ub), .second, .val (.long vb), .second] [(.int (1 : Int32))])) (fun _ kq => XS.iconst X6.here hx rfl (hb hby d3_16) kq) ?_
    refine own_st (T' := T6) (F' := (mkF m 21 #[.val (.long ua), .second, .val (.long va), .second, .val (.long ub), .second, .val (.long vb), .second] [(.int (1 : Int32))])) (fun _ kq => XS.goto X6.here hx rfl (pc0 := 17) (pc' := 21) rfl (hb hby d3_17) (by decide) (by decide) kq) ?_
    exact own_retN X6 hx hlk hret (by simp) (hb hby d3_21) (by decide) (by decide) (own_PQi rfl N6 e6)
theorem pn3 : plainName "com/example/forest_grammar/forestgrammar/languages/Family$Box" = true := by first | (simp [plainName, overriddenIn]; done) | decide +kernel
theorem ef4 (m : MethodId) (x0 : Addr) (x1 : Addr) (x2 : Addr) : entryFrame m #[(.ref x0), (.ref x1), (.ref x2)] 3 = mkF m 0 #[.val (.ref x0), .val (.ref x1), .val (.ref x2)] [] := by first | (simp [entryFrame, mkF, argsToLocals, Value.category]; done) | rfl
theorem d4_0 : decode prog_139_method_1_code 0 = .ok (.aload_n 0, 1) := by decide +kernel
theorem d4_1 : decode prog_139_method_1_code 1 = .ok (.invokespecial 1, 3) := by decide +kernel
theorem d4_4 : decode prog_139_method_1_code 4 = .ok (.aload_n 0, 1) := by decide +kernel
theorem d4_5 : decode prog_139_method_1_code 5 = .ok (.aload_n 1, 1) := by decide +kernel
theorem d4_6 : decode prog_139_method_1_code 6 = .ok (.putfield 7, 3) := by decide +kernel
theorem d4_9 : decode prog_139_method_1_code 9 = .ok (.aload_n 0, 1) := by decide +kernel
theorem d4_10 : decode prog_139_method_1_code 10 = .ok (.aload_n 2, 1) := by decide +kernel
theorem d4_11 : decode prog_139_method_1_code 11 = .ok (.putfield 13, 3) := by decide +kernel
theorem d4_14 : decode prog_139_method_1_code 14 = .ok (.return_, 1) := by decide +kernel
set_option maxRecDepth 65536 in
set_option maxHeartbeats 40000000 in
theorem rm4 (l : Launch) (Z : State) (a0 : Array Value) (hw : ∀ d ∈ tables_1, d.before a0 Z = true) (ws : List Jvm.Cond) (a : Addr) (lo : Addr) (hi : Addr) (h0 : Heap) (n0 : Nat) (Z0 : n0 ≤ h0.size) (ga : n0 ≤ a) (E0 : Exa Z h0 a "com/example/forest_grammar/forestgrammar/languages/Family$Box") (Fl : Fld Z h0 a "com/example/forest_grammar/forestgrammar/languages/Family$Box" "low" "[J" .null) (Fh : Fld Z h0 a "com/example/forest_grammar/forestgrammar/languages/Family$Box" "high" "[J" .null) :
    own_Met l Z (⟨"com/example/forest_grammar/forestgrammar/languages/Family$Box", "<init>", "([J[J)V"⟩ : MethodName) prog_139_method_1_code 3 (none) ws ({ frames := 1, cells := 0, slots := 0, locals := 12 } : Room) #[(.ref a), (.ref lo), (.ref hi)] h0 (fun v h L => v = none ∧ Fr n0 L ∧ Keep h0 h [a] ∧ Exa Z h a "com/example/forest_grammar/forestgrammar/languages/Family$Box" ∧ Fld Z h a "com/example/forest_grammar/forestgrammar/languages/Family$Box" "low" "[J" (.ref lo) ∧ Fld Z h a "com/example/forest_grammar/forestgrammar/languages/Family$Box" "high" "[J" (.ref hi)) := by
  refine own_body (plainFor_of_name pn3) ?_
  intro p e s m below meth c T X hx hby hml hret hlk hZ hown hnm eT
  have N := Fr.nil n0
  refine own_entry (ef4 m a lo hi) ?_
  have K0 := Keep.refl h0 [a]
  refine own_st (T' := T) (F' := (mkF m 1 #[.val (.ref a), .val (.ref lo), .val (.ref hi)] [(.ref a)])) (fun _ kq => XS.aloadN X.here hx rfl (hb hby d4_0) rfl rfl kq) ?_
  obtain ⟨T8, X8, e8, st8⟩ := initO X hx hZ hown (hw _ (List.mem_of_getElem? (i := 18) rfl)) (hw _ (List.mem_of_getElem? (i := 19) rfl)) (hw _ (List.mem_of_getElem? (i := 20) rfl)) eT (g := (mkF m 1 #[.val (.ref a), .val (.ref lo), .val (.ref hi)] [(.ref a)])) rfl (by rw [hml]; rfl) rfl (hb hby d4_1) (by decide) (W := 0) (by show 2 * 0 + _ ≤ _; exact Nat.le_of_eq rfl) (by decide)
  refine own_st (T' := T8) (F' := (mkF m 4 #[.val (.ref a), .val (.ref lo), .val (.ref hi)] [])) (st8) ?_
  refine own_st (T' := T8) (F' := (mkF m 5 #[.val (.ref a), .val (.ref lo), .val (.ref hi)] [(.ref a)])) (fun _ kq => XS.aloadN X8.here hx rfl (hb hby d4_4) rfl rfl kq) ?_
  refine own_st (T' := T8) (F' := (mkF m 6 #[.val (.ref a), .val (.ref lo), .val (.ref hi)] [(.ref lo), (.ref a)])) (fun _ kq => XS.aloadN X8.here hx rfl (hb hby d4_5) rfl rfl kq) ?_
  obtain ⟨T9, h9, X9, e9, W9, st9⟩ := putF X8 hx hZ hown (host := "") (Or.inl (hw _ (List.mem_of_getElem? (i := 21) rfl))) Via.refl e8 Fl E0 (Or.inr ⟨(hw _ (List.mem_of_getElem? (i := 22) rfl)), rfl, hnm⟩) (hw _ (List.mem_of_getElem? (i := 13) rfl)) (ty := (.array .long)) (by decide) rfl rfl (g := (mkF m 6 #[.val (.ref a), .val (.ref lo), .val (.ref hi)] [(.ref lo), (.ref a)])) rfl rfl (hb hby d4_6)
  have FAa_low_9 := Fl.same W9
  have FAa_high_9 := Fh.other W9 (Or.inr (slot_ne (a0 := a0) (C := "com/example/forest_grammar/forestgrammar/languages/Family$Box") (Or.inr (hw _ (List.mem_of_getElem? (i := 24) rfl))) (Or.inr (hw _ (List.mem_of_getElem? (i := 22) rfl))) (by decide) (t := (.array .long)) (t' := (.array .long)) (by decide) (by decide)))
  have EAa_9 := Exa.wr W9 E0
  have K9 := K0.wr W9 (Or.inl (List.mem_singleton.mpr rfl))
  have N9 := Fr.snoc X9 N ga
  have Z9 : n0 ≤ h9.size := by rw [W9.size]; exact Z0
  refine own_st (T' := T9) (F' := (mkF m 9 #[.val (.ref a), .val (.ref lo), .val (.ref hi)] [])) (st9) ?_
  refine own_st (T' := T9) (F' := (mkF m 10 #[.val (.ref a), .val (.ref lo), .val (.ref hi)] [(.ref a)])) (fun _ kq => XS.aloadN X9.here hx rfl (hb hby d4_9) rfl rfl kq) ?_
  refine own_st (T' := T9) (F' := (mkF m 11 #[.val (.ref a), .val (.ref lo), .val (.ref hi)] [(.ref hi), (.ref a)])) (fun _ kq => XS.aloadN X9.here hx rfl (hb hby d4_10) rfl rfl kq) ?_
  obtain ⟨T10, h10, X10, e10, W10, st10⟩ := putF X9 hx hZ hown (host := "") (Or.inl (hw _ (List.mem_of_getElem? (i := 23) rfl))) Via.refl e9 FAa_high_9 EAa_9 (Or.inr ⟨(hw _ (List.mem_of_getElem? (i := 24) rfl)), rfl, hnm⟩) (hw _ (List.mem_of_getElem? (i := 13) rfl)) (ty := (.array .long)) (by decide) rfl rfl (g := (mkF m 11 #[.val (.ref a), .val (.ref lo), .val (.ref hi)] [(.ref hi), (.ref a)])) rfl rfl (hb hby d4_11)
  have FAa_low_10 := FAa_low_9.other W10 (Or.inr (slot_ne (a0 := a0) (C := "com/example/forest_grammar/forestgrammar/languages/Family$Box") (Or.inr (hw _ (List.mem_of_getElem? (i := 22) rfl))) (Or.inr (hw _ (List.mem_of_getElem? (i := 24) rfl))) (by decide) (t := (.array .long)) (t' := (.array .long)) (by decide) (by decide)))
  have FAa_high_10 := FAa_high_9.same W10
  have EAa_10 := Exa.wr W10 EAa_9
  have K10 := K9.wr W10 (Or.inl (List.mem_singleton.mpr rfl))
  have N10 := Fr.snoc X10 N9 ga
  have Z10 : n0 ≤ h10.size := by rw [W10.size]; exact Z9
  refine own_st (T' := T10) (F' := (mkF m 14 #[.val (.ref a), .val (.ref lo), .val (.ref hi)] [])) (st10) ?_
  exact own_retV X10 hx hlk hret (hb hby d4_14) (by decide) (by decide) (by rw [e10]; exact ⟨rfl, N10, K10, EAa_10, FAa_low_10, FAa_high_10⟩)
theorem d6_0 : decode prog_139_method_5_code 0 = .ok (.iconst 0, 1) := by decide +kernel
theorem d6_1 : decode prog_139_method_5_code 1 = .ok (.istore_n 2, 1) := by decide +kernel
theorem d6_2 : decode prog_139_method_5_code 2 = .ok (.iload_n 2, 1) := by decide +kernel
theorem d6_3 : decode prog_139_method_5_code 3 = .ok (.aload_n 0, 1) := by decide +kernel
theorem d6_4 : decode prog_139_method_5_code 4 = .ok (.getfield 7, 3) := by decide +kernel
theorem d6_7 : decode prog_139_method_5_code 7 = .ok (.arraylength, 1) := by decide +kernel
theorem d6_11 : decode prog_139_method_5_code 11 = .ok (.aload_n 0, 1) := by decide +kernel
theorem d6_12 : decode prog_139_method_5_code 12 = .ok (.getfield 7, 3) := by decide +kernel
theorem d6_15 : decode prog_139_method_5_code 15 = .ok (.iload_n 2, 1) := by decide +kernel
theorem d6_16 : decode prog_139_method_5_code 16 = .ok (.laload, 1) := by decide +kernel
theorem d6_17 : decode prog_139_method_5_code 17 = .ok (.aload_n 1, 1) := by decide +kernel
theorem d6_18 : decode prog_139_method_5_code 18 = .ok (.getfield 13, 3) := by decide +kernel
theorem d6_21 : decode prog_139_method_5_code 21 = .ok (.iload_n 2, 1) := by decide +kernel
theorem d6_22 : decode prog_139_method_5_code 22 = .ok (.laload, 1) := by decide +kernel
theorem d6_23 : decode prog_139_method_5_code 23 = .ok (.lcmp, 1) := by decide +kernel
theorem d6_43 : decode prog_139_method_5_code 43 = .ok (.iconst 0, 1) := by decide +kernel
theorem d6_27 : decode prog_139_method_5_code 27 = .ok (.aload_n 1, 1) := by decide +kernel
theorem d6_28 : decode prog_139_method_5_code 28 = .ok (.getfield 7, 3) := by decide +kernel
theorem d6_31 : decode prog_139_method_5_code 31 = .ok (.iload_n 2, 1) := by decide +kernel
theorem d6_32 : decode prog_139_method_5_code 32 = .ok (.laload, 1) := by decide +kernel
theorem d6_33 : decode prog_139_method_5_code 33 = .ok (.aload_n 0, 1) := by decide +kernel
theorem d6_34 : decode prog_139_method_5_code 34 = .ok (.getfield 13, 3) := by decide +kernel
theorem d6_37 : decode prog_139_method_5_code 37 = .ok (.iload_n 2, 1) := by decide +kernel
theorem d6_38 : decode prog_139_method_5_code 38 = .ok (.laload, 1) := by decide +kernel
theorem d6_39 : decode prog_139_method_5_code 39 = .ok (.lcmp, 1) := by decide +kernel
theorem d6_45 : decode prog_139_method_5_code 45 = .ok (.iinc 2 1, 3) := by decide +kernel
theorem d6_48 : decode prog_139_method_5_code 48 = .ok (.goto (-46), 3) := by decide +kernel
theorem d6_51 : decode prog_139_method_5_code 51 = .ok (.iconst 1, 1) := by decide +kernel
theorem d6_8 : decode prog_139_method_5_code 8 = .ok (.if_icmp .ge 43, 3) := by decide +kernel
theorem d6_52 : decode prog_139_method_5_code 52 = .ok (.ireturn, 1) := by decide +kernel
theorem d6_24 : decode prog_139_method_5_code 24 = .ok (.ifCond .gt 19, 3) := by decide +kernel
theorem d6_44 : decode prog_139_method_5_code 44 = .ok (.ireturn, 1) := by decide +kernel
theorem d6_40 : decode prog_139_method_5_code 40 = .ok (.ifCond .le 5, 3) := by decide +kernel
theorem ef6 (m : MethodId) (x0 : Addr) (x1 : Addr) : entryFrame m #[(.ref x0), (.ref x1)] 3 = mkF m 0 #[.val (.ref x0), .val (.ref x1), .unset] [] := by first | (simp [entryFrame, mkF, argsToLocals, Value.category]; done) | rfl
def f6_2k2  : Int32 := (1 : Int32)
def f6_2k1 (al1 : Int64) (ah1 : Int64) (ol1 : Int64) (oh1 : Int64) : Int32 := if oh1 < al1 then ((0 : Int32)) else (if ah1 < ol1 then ((0 : Int32)) else (f6_2k2 ))
def f6_2k0 (al0 : Int64) (al1 : Int64) (ah0 : Int64) (ah1 : Int64) (ol0 : Int64) (ol1 : Int64) (oh0 : Int64) (oh1 : Int64) : Int32 := if oh0 < al0 then ((0 : Int32)) else (if ah0 < ol0 then ((0 : Int32)) else (f6_2k1 al1 ah1 ol1 oh1))
def f6 (al0 : Int64) (al1 : Int64) (ah0 : Int64) (ah1 : Int64) (ol0 : Int64) (ol1 : Int64) (oh0 : Int64) (oh1 : Int64) : Int32 := f6_2k0 al0 al1 ah0 ah1 ol0 ol1 oh0 oh1
set_option maxRecDepth 65536 in
set_option maxHeartbeats 40000000 in
theorem rm6 (l : Launch) (Z : State) (a0 : Array Value) (hw : ∀ d ∈ tables_1, d.before a0 Z = true) (ws : List Jvm.Cond) (a : Addr) (o : Addr) (al ah ol oh : Addr) (al0 : Int64) (al1 : Int64) (ah0 : Int64) (ah1 : Int64) (ol0 : Int64) (ol1 : Int64) (oh0 : Int64) (oh1 : Int64) (h0 : Heap) (n0 : Nat) (Fal : Fld Z h0 a "com/example/forest_grammar/forestgrammar/languages/Family$Box" "low" "[J" (.ref al)) (Val : own_AJ Z h0 al (2 : Int32) [al0, al1]) (Fah : Fld Z h0 a "com/example/forest_grammar/forestgrammar/languages/Family$Box" "high" "[J" (.ref ah)) (Vah : own_AJ Z h0 ah (2 : Int32) [ah0, ah1]) (Fol : Fld Z h0 o "com/example/forest_grammar/forestgrammar/languages/Family$Box" "low" "[J" (.ref ol)) (Vol : own_AJ Z h0 ol (2 : Int32) [ol0, ol1]) (Foh : Fld Z h0 o "com/example/forest_grammar/forestgrammar/languages/Family$Box" "high" "[J" (.ref oh)) (Voh : own_AJ Z h0 oh (2 : Int32) [oh0, oh1]) :
    own_Met l Z (⟨"com/example/forest_grammar/forestgrammar/languages/Family$Box", "overlaps", "(Lcom/example/forest_grammar/forestgrammar/languages/Family$Box;)Z"⟩ : MethodName) prog_139_method_5_code 3 (some .boolean) ws ({ frames := 0, cells := 0, slots := 0, locals := 0 } : Room) #[(.ref a), (.ref o)] h0 (own_PQ (.int (f6 al0 al1 ah0 ah1 ol0 ol1 oh0 oh1)) h0 n0) := by
  refine own_body (plainFor_of_name pn3) ?_
  intro p e s m below meth c T X hx hby hml hret hlk hZ hown hnm eT
  have J2k2 : ∀ (T : State) (locs : List Loc) (X : Stand p l e ({ frames := 0, cells := 0, slots := 0, locals := 0 } : Room) s m #[(.ref a), (.ref o)] below meth c T locs 0 0) (eT : T.heap = h0) (N : Fr n0 locs), own_Ends p e below s 0 0 (own_PQ (.int (f6_2k2 )) h0 n0) T (mkF m 2 #[.val (.ref a), .val (.ref o), .val (.int (2 : Int32))] []) := by
    intro T locs X eT N
    unfold f6_2k2
    refine own_st (T' := T) (F' := (mkF m 3 #[.val (.ref a), .val (.ref o), .val (.int (2 : Int32))] [(.int (2 : Int32))])) (fun _ kq => XS.iloadN X.here hx rfl (hb hby d6_2) rfl kq) ?_
    refine own_st (T' := T) (F' := (mkF m 4 #[.val (.ref a), .val (.ref o), .val (.int (2 : Int32))] [(.ref a), (.int (2 : Int32))])) (fun _ kq => XS.aloadN X.here hx rfl (hb hby d6_3) rfl rfl kq) ?_
    obtain ⟨T22, X22, e22, st22⟩ := getF X hx hZ hown (host := "") (Or.inl (hw _ (List.mem_of_getElem? (i := 21) rfl))) Via.refl eT Fal (g := (mkF m 4 #[.val (.ref a), .val (.ref o), .val (.int (2 : Int32))] [(.ref a), (.int (2 : Int32))])) rfl rfl (hb hby d6_4)
    refine own_st (T' := T22) (F' := (mkF m 7 #[.val (.ref a), .val (.ref o), .val (.int (2 : Int32))] [(.ref al), (.int (2 : Int32))])) (st22) ?_
    refine own_st (T' := T22) (F' := (mkF m 8 #[.val (.ref a), .val (.ref o), .val (.int (2 : Int32))] [(.int (2 : Int32)), (.int (2 : Int32))])) (own_lenJ X22 hx hZ e22 Val (g := (mkF m 7 #[.val (.ref a), .val (.ref o), .val (.int (2 : Int32))] [(.ref al), (.int (2 : Int32))])) rfl rfl (hb hby d6_7)) ?_
    refine own_st (T' := T22) (F' := (mkF m 51 #[.val (.ref a), .val (.ref o), .val (.int (2 : Int32))] [])) (fun _ kq => XS.icmpYes X22.here hx rfl (pc0 := 8) (pc' := 51) rfl (hb hby d6_8) rfl (flt (by decide : ¬ ((2 : Int32) < (2 : Int32)))).2.1 (by decide) (by decide) kq) ?_
    refine own_st (T' := T22) (F' := (mkF m 52 #[.val (.ref a), .val (.ref o), .val (.int (2 : Int32))] [(.int (1 : Int32))])) (fun _ kq => XS.iconst X22.here hx rfl (hb hby d6_51) kq) ?_
    exact own_retN X22 hx hlk hret (by simp) (hb hby d6_52) (by decide) (by decide) (own_PQi rfl N e22)
  have J2k1 : ∀ (T : State) (locs : List Loc) (X : Stand p l e ({ frames := 0, cells := 0, slots := 0, locals := 0 } : Room) s m #[(.ref a), (.ref o)] below meth c T locs 0 0) (eT : T.heap = h0) (N : Fr n0 locs), own_Ends p e below s 0 0 (own_PQ (.int (f6_2k1 al1 ah1 ol1 oh1)) h0 n0) T (mkF m 2 #[.val (.ref a), .val (.ref o), .val (.int (1 : Int32))] []) := by
    intro T locs X eT N
    unfold f6_2k1
    refine own_st (T' := T) (F' := (mkF m 3 #[.val (.ref a), .val (.ref o), .val (.int (1 : Int32))] [(.int (1 : Int32))])) (fun _ kq => XS.iloadN X.here hx rfl (hb hby d6_2) rfl kq) ?_
    refine own_st (T' := T) (F' := (mkF m 4 #[.val (.ref a), .val (.ref o), .val (.int (1 : Int32))] [(.ref a), (.int (1 : Int32))])) (fun _ kq => XS.aloadN X.here hx rfl (hb hby d6_3) rfl rfl kq) ?_
    obtain ⟨T23, X23, e23, st23⟩ := getF X hx hZ hown (host := "") (Or.inl (hw _ (List.mem_of_getElem? (i := 21) rfl))) Via.refl eT Fal (g := (mkF m 4 #[.val (.ref a), .val (.ref o), .val (.int (1 : Int32))] [(.ref a), (.int (1 : Int32))])) rfl rfl (hb hby d6_4)
    refine own_st (T' := T23) (F' := (mkF m 7 #[.val (.ref a), .val (.ref o), .val (.int (1 : Int32))] [(.ref al), (.int (1 : Int32))])) (st23) ?_
    refine own_st (T' := T23) (F' := (mkF m 8 #[.val (.ref a), .val (.ref o), .val (.int (1 : Int32))] [(.int (2 : Int32)), (.int (1 : Int32))])) (own_lenJ X23 hx hZ e23 Val (g := (mkF m 7 #[.val (.ref a), .val (.ref o), .val (.int (1 : Int32))] [(.ref al), (.int (1 : Int32))])) rfl rfl (hb hby d6_7)) ?_
    refine own_st (T' := T23) (F' := (mkF m 11 #[.val (.ref a), .val (.ref o), .val (.int (1 : Int32))] [])) (fun _ kq => XS.icmpNo X23.here hx rfl (hb hby d6_8) rfl (tlt (by decide : (1 : Int32) < (2 : Int32))).2.1 kq) ?_
    refine own_st (T' := T23) (F' := (mkF m 12 #[.val (.ref a), .val (.ref o), .val (.int (1 : Int32))] [(.ref a)])) (fun _ kq => XS.aloadN X23.here hx rfl (hb hby d6_11) rfl rfl kq) ?_
    obtain ⟨T24, X24, e24, st24⟩ := getF X23 hx hZ hown (host := "") (Or.inl (hw _ (List.mem_of_getElem? (i := 21) rfl))) Via.refl e23 Fal (g := (mkF m 12 #[.val (.ref a), .val (.ref o), .val (.int (1 : Int32))] [(.ref a)])) rfl rfl (hb hby d6_12)
    refine own_st (T' := T24) (F' := (mkF m 15 #[.val (.ref a), .val (.ref o), .val (.int (1 : Int32))] [(.ref al)])) (st24) ?_
    refine own_st (T' := T24) (F' := (mkF m 16 #[.val (.ref a), .val (.ref o), .val (.int (1 : Int32))] [(.int (1 : Int32)), (.ref al)])) (fun _ kq => XS.iloadN X24.here hx rfl (hb hby d6_15) rfl kq) ?_
    refine own_st (T' := T24) (F' := (mkF m 17 #[.val (.ref a), .val (.ref o), .val (.int (1 : Int32))] [(.long al1)])) (own_laload X24 hx hZ e24 Val (g := (mkF m 16 #[.val (.ref a), .val (.ref o), .val (.int (1 : Int32))] [(.int (1 : Int32)), (.ref al)])) rfl rfl (hb hby d6_16) (by decide) (Nat.le_of_ble_eq_true rfl) (w := al1) rfl) ?_
    refine own_st (T' := T24) (F' := (mkF m 18 #[.val (.ref a), .val (.ref o), .val (.int (1 : Int32))] [(.ref o), (.long al1)])) (fun _ kq => XS.aloadN X24.here hx rfl (hb hby d6_17) rfl rfl kq) ?_
    obtain ⟨T25, X25, e25, st25⟩ := getF X24 hx hZ hown (host := "") (Or.inl (hw _ (List.mem_of_getElem? (i := 23) rfl))) Via.refl e24 Foh (g := (mkF m 18 #[.val (.ref a), .val (.ref o), .val (.int (1 : Int32))] [(.ref o), (.long al1)])) rfl rfl (hb hby d6_18)
    refine own_st (T' := T25) (F' := (mkF m 21 #[.val (.ref a), .val (.ref o), .val (.int (1 : Int32))] [(.ref oh), (.long al1)])) (st25) ?_
    refine own_st (T' := T25) (F' := (mkF m 22 #[.val (.ref a), .val (.ref o), .val (.int (1 : Int32))] [(.int (1 : Int32)), (.ref oh), (.long al1)])) (fun _ kq => XS.iloadN X25.here hx rfl (hb hby d6_21) rfl kq) ?_
    refine own_st (T' := T25) (F' := (mkF m 23 #[.val (.ref a), .val (.ref o), .val (.int (1 : Int32))] [(.long oh1), (.long al1)])) (own_laload X25 hx hZ e25 Voh (g := (mkF m 22 #[.val (.ref a), .val (.ref o), .val (.int (1 : Int32))] [(.int (1 : Int32)), (.ref oh), (.long al1)])) rfl rfl (hb hby d6_22) (by decide) (Nat.le_of_ble_eq_true rfl) (w := oh1) rfl) ?_
    refine own_st (T' := T25) (F' := (mkF m 24 #[.val (.ref a), .val (.ref o), .val (.int (1 : Int32))] [(.int (lcmpW al1 oh1))])) (fun _ kq => XS.lcmp X25.here hx rfl (hb hby d6_23) rfl kq) ?_
    by_cases hc24_26 : oh1 < al1
    ·
      rw [if_pos hc24_26]
      refine own_st (T' := T25) (F' := (mkF m 43 #[.val (.ref a), .val (.ref o), .val (.int (1 : Int32))] [])) (fun _ kq => XS.ifYes X25.here hx rfl (pc0 := 24) (pc' := 43) rfl (hb hby d6_24) rfl ((if0 _ _).trans (tlt ((lw_gt al1 oh1).mpr hc24_26)).2.2.1) (by decide) (by decide) kq) ?_
      refine own_st (T' := T25) (F' := (mkF m 44 #[.val (.ref a), .val (.ref o), .val (.int (1 : Int32))] [(.int (0 : Int32))])) (fun _ kq => XS.iconst X25.here hx rfl (hb hby d6_43) kq) ?_
      exact own_retN X25 hx hlk hret (by simp) (hb hby d6_44) (by decide) (by decide) (own_PQi rfl N e25)
    ·
      rw [if_neg hc24_26]
      refine own_st (T' := T25) (F' := (mkF m 27 #[.val (.ref a), .val (.ref o), .val (.int (1 : Int32))] [])) (fun _ kq => XS.ifNo X25.here hx rfl (hb hby d6_24) rfl ((if0 _ _).trans (flt (mt (lw_gt al1 oh1).mp hc24_26)).2.2.1) kq) ?_
      refine own_st (T' := T25) (F' := (mkF m 28 #[.val (.ref a), .val (.ref o), .val (.int (1 : Int32))] [(.ref o)])) (fun _ kq => XS.aloadN X25.here hx rfl (hb hby d6_27) rfl rfl kq) ?_
      obtain ⟨T27, X27, e27, st27⟩ := getF X25 hx hZ hown (host := "") (Or.inl (hw _ (List.mem_of_getElem? (i := 21) rfl))) Via.refl e25 Fol (g := (mkF m 28 #[.val (.ref a), .val (.ref o), .val (.int (1 : Int32))] [(.ref o)])) rfl rfl (hb hby d6_28)
      refine own_st (T' := T27) (F' := (mkF m 31 #[.val (.ref a), .val (.ref o), .val (.int (1 : Int32))] [(.ref ol)])) (st27) ?_
      refine own_st (T' := T27) (F' := (mkF m 32 #[.val (.ref a), .val (.ref o), .val (.int (1 : Int32))] [(.int (1 : Int32)), (.ref ol)])) (fun _ kq => XS.iloadN X27.here hx rfl (hb hby d6_31) rfl kq) ?_
      refine own_st (T' := T27) (F' := (mkF m 33 #[.val (.ref a), .val (.ref o), .val (.int (1 : Int32))] [(.long ol1)])) (own_laload X27 hx hZ e27 Vol (g := (mkF m 32 #[.val (.ref a), .val (.ref o), .val (.int (1 : Int32))] [(.int (1 : Int32)), (.ref ol)])) rfl rfl (hb hby d6_32) (by decide) (Nat.le_of_ble_eq_true rfl) (w := ol1) rfl) ?_
      refine own_st (T' := T27) (F' := (mkF m 34 #[.val (.ref a), .val (.ref o), .val (.int (1 : Int32))] [(.ref a), (.long ol1)])) (fun _ kq => XS.aloadN X27.here hx rfl (hb hby d6_33) rfl rfl kq) ?_
      obtain ⟨T28, X28, e28, st28⟩ := getF X27 hx hZ hown (host := "") (Or.inl (hw _ (List.mem_of_getElem? (i := 23) rfl))) Via.refl e27 Fah (g := (mkF m 34 #[.val (.ref a), .val (.ref o), .val (.int (1 : Int32))] [(.ref a), (.long ol1)])) rfl rfl (hb hby d6_34)
      refine own_st (T' := T28) (F' := (mkF m 37 #[.val (.ref a), .val (.ref o), .val (.int (1 : Int32))] [(.ref ah), (.long ol1)])) (st28) ?_
      refine own_st (T' := T28) (F' := (mkF m 38 #[.val (.ref a), .val (.ref o), .val (.int (1 : Int32))] [(.int (1 : Int32)), (.ref ah), (.long ol1)])) (fun _ kq => XS.iloadN X28.here hx rfl (hb hby d6_37) rfl kq) ?_
      refine own_st (T' := T28) (F' := (mkF m 39 #[.val (.ref a), .val (.ref o), .val (.int (1 : Int32))] [(.long ah1), (.long ol1)])) (own_laload X28 hx hZ e28 Vah (g := (mkF m 38 #[.val (.ref a), .val (.ref o), .val (.int (1 : Int32))] [(.int (1 : Int32)), (.ref ah), (.long ol1)])) rfl rfl (hb hby d6_38) (by decide) (Nat.le_of_ble_eq_true rfl) (w := ah1) rfl) ?_
      refine own_st (T' := T28) (F' := (mkF m 40 #[.val (.ref a), .val (.ref o), .val (.int (1 : Int32))] [(.int (lcmpW ol1 ah1))])) (fun _ kq => XS.lcmp X28.here hx rfl (hb hby d6_39) rfl kq) ?_
      by_cases hc40_29 : ah1 < ol1
      ·
        rw [if_pos hc40_29]
        refine own_st (T' := T28) (F' := (mkF m 43 #[.val (.ref a), .val (.ref o), .val (.int (1 : Int32))] [])) (fun _ kq => XS.ifNo X28.here hx rfl (hb hby d6_40) rfl ((if0 _ _).trans (tlt ((lw_gt ol1 ah1).mpr hc40_29)).2.2.2) kq) ?_
        refine own_st (T' := T28) (F' := (mkF m 44 #[.val (.ref a), .val (.ref o), .val (.int (1 : Int32))] [(.int (0 : Int32))])) (fun _ kq => XS.iconst X28.here hx rfl (hb hby d6_43) kq) ?_
        exact own_retN X28 hx hlk hret (by simp) (hb hby d6_44) (by decide) (by decide) (own_PQi rfl N e28)
      ·
        rw [if_neg hc40_29]
        refine own_st (T' := T28) (F' := (mkF m 45 #[.val (.ref a), .val (.ref o), .val (.int (1 : Int32))] [])) (fun _ kq => XS.ifYes X28.here hx rfl (pc0 := 40) (pc' := 45) rfl (hb hby d6_40) rfl ((if0 _ _).trans (flt (mt (lw_gt ol1 ah1).mp hc40_29)).2.2.2) (by decide) (by decide) kq) ?_
        refine own_st (T' := T28) (F' := (mkF m 48 #[.val (.ref a), .val (.ref o), .val (.int (2 : Int32))] [])) (fun _ kq => XS.iinc X28.here hx rfl (hb hby d6_45) rfl (l' := #[.val (.ref a), .val (.ref o), .val (.int (2 : Int32))]) rfl kq) ?_
        refine own_st (T' := T28) (F' := (mkF m 2 #[.val (.ref a), .val (.ref o), .val (.int (2 : Int32))] [])) (fun _ kq => XS.goto X28.here hx rfl (pc0 := 48) (pc' := 2) rfl (hb hby d6_48) (by decide) (by decide) kq) ?_
        exact J2k2  T28 _ X28 e28 N
  have J2k0 : ∀ (T : State) (locs : List Loc) (X : Stand p l e ({ frames := 0, cells := 0, slots := 0, locals := 0 } : Room) s m #[(.ref a), (.ref o)] below meth c T locs 0 0) (eT : T.heap = h0) (N : Fr n0 locs), own_Ends p e below s 0 0 (own_PQ (.int (f6_2k0 al0 al1 ah0 ah1 ol0 ol1 oh0 oh1)) h0 n0) T (mkF m 2 #[.val (.ref a), .val (.ref o), .val (.int (0 : Int32))] []) := by
    intro T locs X eT N
    unfold f6_2k0
    refine own_st (T' := T) (F' := (mkF m 3 #[.val (.ref a), .val (.ref o), .val (.int (0 : Int32))] [(.int (0 : Int32))])) (fun _ kq => XS.iloadN X.here hx rfl (hb hby d6_2) rfl kq) ?_
    refine own_st (T' := T) (F' := (mkF m 4 #[.val (.ref a), .val (.ref o), .val (.int (0 : Int32))] [(.ref a), (.int (0 : Int32))])) (fun _ kq => XS.aloadN X.here hx rfl (hb hby d6_3) rfl rfl kq) ?_
    obtain ⟨T30, X30, e30, st30⟩ := getF X hx hZ hown (host := "") (Or.inl (hw _ (List.mem_of_getElem? (i := 21) rfl))) Via.refl eT Fal (g := (mkF m 4 #[.val (.ref a), .val (.ref o), .val (.int (0 : Int32))] [(.ref a), (.int (0 : Int32))])) rfl rfl (hb hby d6_4)
    refine own_st (T' := T30) (F' := (mkF m 7 #[.val (.ref a), .val (.ref o), .val (.int (0 : Int32))] [(.ref al), (.int (0 : Int32))])) (st30) ?_
    refine own_st (T' := T30) (F' := (mkF m 8 #[.val (.ref a), .val (.ref o), .val (.int (0 : Int32))] [(.int (2 : Int32)), (.int (0 : Int32))])) (own_lenJ X30 hx hZ e30 Val (g := (mkF m 7 #[.val (.ref a), .val (.ref o), .val (.int (0 : Int32))] [(.ref al), (.int (0 : Int32))])) rfl rfl (hb hby d6_7)) ?_
    refine own_st (T' := T30) (F' := (mkF m 11 #[.val (.ref a), .val (.ref o), .val (.int (0 : Int32))] [])) (fun _ kq => XS.icmpNo X30.here hx rfl (hb hby d6_8) rfl (tlt (by decide : (0 : Int32) < (2 : Int32))).2.1 kq) ?_
    refine own_st (T' := T30) (F' := (mkF m 12 #[.val (.ref a), .val (.ref o), .val (.int (0 : Int32))] [(.ref a)])) (fun _ kq => XS.aloadN X30.here hx rfl (hb hby d6_11) rfl rfl kq) ?_
    obtain ⟨T31, X31, e31, st31⟩ := getF X30 hx hZ hown (host := "") (Or.inl (hw _ (List.mem_of_getElem? (i := 21) rfl))) Via.refl e30 Fal (g := (mkF m 12 #[.val (.ref a), .val (.ref o), .val (.int (0 : Int32))] [(.ref a)])) rfl rfl (hb hby d6_12)
    refine own_st (T' := T31) (F' := (mkF m 15 #[.val (.ref a), .val (.ref o), .val (.int (0 : Int32))] [(.ref al)])) (st31) ?_
    refine own_st (T' := T31) (F' := (mkF m 16 #[.val (.ref a), .val (.ref o), .val (.int (0 : Int32))] [(.int (0 : Int32)), (.ref al)])) (fun _ kq => XS.iloadN X31.here hx rfl (hb hby d6_15) rfl kq) ?_
    refine own_st (T' := T31) (F' := (mkF m 17 #[.val (.ref a), .val (.ref o), .val (.int (0 : Int32))] [(.long al0)])) (own_laload X31 hx hZ e31 Val (g := (mkF m 16 #[.val (.ref a), .val (.ref o), .val (.int (0 : Int32))] [(.int (0 : Int32)), (.ref al)])) rfl rfl (hb hby d6_16) (by decide) (Nat.le_of_ble_eq_true rfl) (w := al0) rfl) ?_
    refine own_st (T' := T31) (F' := (mkF m 18 #[.val (.ref a), .val (.ref o), .val (.int (0 : Int32))] [(.ref o), (.long al0)])) (fun _ kq => XS.aloadN X31.here hx rfl (hb hby d6_17) rfl rfl kq) ?_
    obtain ⟨T32, X32, e32, st32⟩ := getF X31 hx hZ hown (host := "") (Or.inl (hw _ (List.mem_of_getElem? (i := 23) rfl))) Via.refl e31 Foh (g := (mkF m 18 #[.val (.ref a), .val (.ref o), .val (.int (0 : Int32))] [(.ref o), (.long al0)])) rfl rfl (hb hby d6_18)
    refine own_st (T' := T32) (F' := (mkF m 21 #[.val (.ref a), .val (.ref o), .val (.int (0 : Int32))] [(.ref oh), (.long al0)])) (st32) ?_
    refine own_st (T' := T32) (F' := (mkF m 22 #[.val (.ref a), .val (.ref o), .val (.int (0 : Int32))] [(.int (0 : Int32)), (.ref oh), (.long al0)])) (fun _ kq => XS.iloadN X32.here hx rfl (hb hby d6_21) rfl kq) ?_
    refine own_st (T' := T32) (F' := (mkF m 23 #[.val (.ref a), .val (.ref o), .val (.int (0 : Int32))] [(.long oh0), (.long al0)])) (own_laload X32 hx hZ e32 Voh (g := (mkF m 22 #[.val (.ref a), .val (.ref o), .val (.int (0 : Int32))] [(.int (0 : Int32)), (.ref oh), (.long al0)])) rfl rfl (hb hby d6_22) (by decide) (Nat.le_of_ble_eq_true rfl) (w := oh0) rfl) ?_
    refine own_st (T' := T32) (F' := (mkF m 24 #[.val (.ref a), .val (.ref o), .val (.int (0 : Int32))] [(.int (lcmpW al0 oh0))])) (fun _ kq => XS.lcmp X32.here hx rfl (hb hby d6_23) rfl kq) ?_
    by_cases hc24_33 : oh0 < al0
    ·
      rw [if_pos hc24_33]
      refine own_st (T' := T32) (F' := (mkF m 43 #[.val (.ref a), .val (.ref o), .val (.int (0 : Int32))] [])) (fun _ kq => XS.ifYes X32.here hx rfl (pc0 := 24) (pc' := 43) rfl (hb hby d6_24) rfl ((if0 _ _).trans (tlt ((lw_gt al0 oh0).mpr hc24_33)).2.2.1) (by decide) (by decide) kq) ?_
      refine own_st (T' := T32) (F' := (mkF m 44 #[.val (.ref a), .val (.ref o), .val (.int (0 : Int32))] [(.int (0 : Int32))])) (fun _ kq => XS.iconst X32.here hx rfl (hb hby d6_43) kq) ?_
      exact own_retN X32 hx hlk hret (by simp) (hb hby d6_44) (by decide) (by decide) (own_PQi rfl N e32)
    ·
      rw [if_neg hc24_33]
      refine own_st (T' := T32) (F' := (mkF m 27 #[.val (.ref a), .val (.ref o), .val (.int (0 : Int32))] [])) (fun _ kq => XS.ifNo X32.here hx rfl (hb hby d6_24) rfl ((if0 _ _).trans (flt (mt (lw_gt al0 oh0).mp hc24_33)).2.2.1) kq) ?_
      refine own_st (T' := T32) (F' := (mkF m 28 #[.val (.ref a), .val (.ref o), .val (.int (0 : Int32))] [(.ref o)])) (fun _ kq => XS.aloadN X32.here hx rfl (hb hby d6_27) rfl rfl kq) ?_
      obtain ⟨T34, X34, e34, st34⟩ := getF X32 hx hZ hown (host := "") (Or.inl (hw _ (List.mem_of_getElem? (i := 21) rfl))) Via.refl e32 Fol (g := (mkF m 28 #[.val (.ref a), .val (.ref o), .val (.int (0 : Int32))] [(.ref o)])) rfl rfl (hb hby d6_28)
      refine own_st (T' := T34) (F' := (mkF m 31 #[.val (.ref a), .val (.ref o), .val (.int (0 : Int32))] [(.ref ol)])) (st34) ?_
      refine own_st (T' := T34) (F' := (mkF m 32 #[.val (.ref a), .val (.ref o), .val (.int (0 : Int32))] [(.int (0 : Int32)), (.ref ol)])) (fun _ kq => XS.iloadN X34.here hx rfl (hb hby d6_31) rfl kq) ?_
      refine own_st (T' := T34) (F' := (mkF m 33 #[.val (.ref a), .val (.ref o), .val (.int (0 : Int32))] [(.long ol0)])) (own_laload X34 hx hZ e34 Vol (g := (mkF m 32 #[.val (.ref a), .val (.ref o), .val (.int (0 : Int32))] [(.int (0 : Int32)), (.ref ol)])) rfl rfl (hb hby d6_32) (by decide) (Nat.le_of_ble_eq_true rfl) (w := ol0) rfl) ?_
      refine own_st (T' := T34) (F' := (mkF m 34 #[.val (.ref a), .val (.ref o), .val (.int (0 : Int32))] [(.ref a), (.long ol0)])) (fun _ kq => XS.aloadN X34.here hx rfl (hb hby d6_33) rfl rfl kq) ?_
      obtain ⟨T35, X35, e35, st35⟩ := getF X34 hx hZ hown (host := "") (Or.inl (hw _ (List.mem_of_getElem? (i := 23) rfl))) Via.refl e34 Fah (g := (mkF m 34 #[.val (.ref a), .val (.ref o), .val (.int (0 : Int32))] [(.ref a), (.long ol0)])) rfl rfl (hb hby d6_34)
      refine own_st (T' := T35) (F' := (mkF m 37 #[.val (.ref a), .val (.ref o), .val (.int (0 : Int32))] [(.ref ah), (.long ol0)])) (st35) ?_
      refine own_st (T' := T35) (F' := (mkF m 38 #[.val (.ref a), .val (.ref o), .val (.int (0 : Int32))] [(.int (0 : Int32)), (.ref ah), (.long ol0)])) (fun _ kq => XS.iloadN X35.here hx rfl (hb hby d6_37) rfl kq) ?_
      refine own_st (T' := T35) (F' := (mkF m 39 #[.val (.ref a), .val (.ref o), .val (.int (0 : Int32))] [(.long ah0), (.long ol0)])) (own_laload X35 hx hZ e35 Vah (g := (mkF m 38 #[.val (.ref a), .val (.ref o), .val (.int (0 : Int32))] [(.int (0 : Int32)), (.ref ah), (.long ol0)])) rfl rfl (hb hby d6_38) (by decide) (Nat.le_of_ble_eq_true rfl) (w := ah0) rfl) ?_
      refine own_st (T' := T35) (F' := (mkF m 40 #[.val (.ref a), .val (.ref o), .val (.int (0 : Int32))] [(.int (lcmpW ol0 ah0))])) (fun _ kq => XS.lcmp X35.here hx rfl (hb hby d6_39) rfl kq) ?_
      by_cases hc40_36 : ah0 < ol0
      ·
        rw [if_pos hc40_36]
        refine own_st (T' := T35) (F' := (mkF m 43 #[.val (.ref a), .val (.ref o), .val (.int (0 : Int32))] [])) (fun _ kq => XS.ifNo X35.here hx rfl (hb hby d6_40) rfl ((if0 _ _).trans (tlt ((lw_gt ol0 ah0).mpr hc40_36)).2.2.2) kq) ?_
        refine own_st (T' := T35) (F' := (mkF m 44 #[.val (.ref a), .val (.ref o), .val (.int (0 : Int32))] [(.int (0 : Int32))])) (fun _ kq => XS.iconst X35.here hx rfl (hb hby d6_43) kq) ?_
        exact own_retN X35 hx hlk hret (by simp) (hb hby d6_44) (by decide) (by decide) (own_PQi rfl N e35)
      ·
        rw [if_neg hc40_36]
        refine own_st (T' := T35) (F' := (mkF m 45 #[.val (.ref a), .val (.ref o), .val (.int (0 : Int32))] [])) (fun _ kq => XS.ifYes X35.here hx rfl (pc0 := 40) (pc' := 45) rfl (hb hby d6_40) rfl ((if0 _ _).trans (flt (mt (lw_gt ol0 ah0).mp hc40_36)).2.2.2) (by decide) (by decide) kq) ?_
        refine own_st (T' := T35) (F' := (mkF m 48 #[.val (.ref a), .val (.ref o), .val (.int (1 : Int32))] [])) (fun _ kq => XS.iinc X35.here hx rfl (hb hby d6_45) rfl (l' := #[.val (.ref a), .val (.ref o), .val (.int (1 : Int32))]) rfl kq) ?_
        refine own_st (T' := T35) (F' := (mkF m 2 #[.val (.ref a), .val (.ref o), .val (.int (1 : Int32))] [])) (fun _ kq => XS.goto X35.here hx rfl (pc0 := 48) (pc' := 2) rfl (hb hby d6_48) (by decide) (by decide) kq) ?_
        exact J2k1  T35 _ X35 e35 N
  have N := Fr.nil n0
  refine own_entry (ef6 m a o) ?_
  unfold f6
  refine own_st (T' := T) (F' := (mkF m 1 #[.val (.ref a), .val (.ref o), .unset] [(.int (0 : Int32))])) (fun _ kq => XS.iconst X.here hx rfl (hb hby d6_0) kq) ?_
  refine own_st (T' := T) (F' := (mkF m 2 #[.val (.ref a), .val (.ref o), .val (.int (0 : Int32))] [])) (fun _ kq => XS.istoreN X.here hx rfl (hb hby d6_1) rfl (l' := #[.val (.ref a), .val (.ref o), .val (.int (0 : Int32))]) rfl kq) ?_
  exact J2k0  T _ X eT N
theorem own_mm {y z lo hi : Int64} (h1 : f1 y z = lo) (h2 : f2 y z = hi) : lo.toInt ≤ hi.toInt := by
  subst h1 h2
  unfold f1 f2
  by_cases a : z < y
  · rw [if_pos a]; rw [Int64.lt_iff_toInt_lt] at a
    by_cases b : y < z
    · rw [if_pos b]; omega
    · rw [if_neg b]; omega
  · rw [if_neg a]; rw [Int64.lt_iff_toInt_lt] at a
    by_cases b : y < z
    · rw [if_pos b]; rw [Int64.lt_iff_toInt_lt] at b; omega
    · rw [if_neg b]; omega
theorem own_meet (ua va ub vb : Int64) (hA : ua.toInt ≤ va.toInt) (hB : ub.toInt ≤ vb.toInt) : (f3 ua va ub vb = 1 ∧ ua.toInt ≤ vb.toInt ∧ ub.toInt ≤ va.toInt) ∨ (f3 ua va ub vb = 0 ∧ ¬ (ua.toInt ≤ vb.toInt ∧ ub.toInt ≤ va.toInt)) := by
  unfold f3 f1 f2
  by_cases a : vb < va <;> by_cases b : ua < ub <;> simp only [if_pos, if_neg, a, b, not_false_eq_true] <;> rw [Int64.lt_iff_toInt_lt] at a b
  · by_cases c : vb < ub
    · rw [if_pos c]; rw [Int64.lt_iff_toInt_lt] at c; right; exact ⟨rfl, by omega⟩
    · rw [if_neg c]; rw [Int64.lt_iff_toInt_lt] at c; left; exact ⟨rfl, by omega, by omega⟩
  · by_cases c : vb < ua
    · rw [if_pos c]; rw [Int64.lt_iff_toInt_lt] at c; right; exact ⟨rfl, by omega⟩
    · rw [if_neg c]; rw [Int64.lt_iff_toInt_lt] at c; left; exact ⟨rfl, by omega, by omega⟩
  · by_cases c : va < ub
    · rw [if_pos c]; rw [Int64.lt_iff_toInt_lt] at c; right; exact ⟨rfl, by omega⟩
    · rw [if_neg c]; rw [Int64.lt_iff_toInt_lt] at c; left; exact ⟨rfl, by omega, by omega⟩
  · by_cases c : va < ua
    · rw [if_pos c]; rw [Int64.lt_iff_toInt_lt] at c; right; exact ⟨rfl, by omega⟩
    · rw [if_neg c]; rw [Int64.lt_iff_toInt_lt] at c; left; exact ⟨rfl, by omega, by omega⟩
theorem own_f6 (al0 al1 ah0 ah1 ol0 ol1 oh0 oh1 : Int64) (v : Int32) (h : (v = 1 ∧ al0.toInt ≤ oh0.toInt ∧ ol0.toInt ≤ ah0.toInt ∧ al1.toInt ≤ oh1.toInt ∧ ol1.toInt ≤ ah1.toInt) ∨ (v = 0 ∧ ¬ (al0.toInt ≤ oh0.toInt ∧ ol0.toInt ≤ ah0.toInt ∧ al1.toInt ≤ oh1.toInt ∧ ol1.toInt ≤ ah1.toInt))) : f6 al0 al1 ah0 ah1 ol0 ol1 oh0 oh1 = v := by
  unfold f6 f6_2k0 f6_2k1 f6_2k2
  simp only [Int64.lt_iff_toInt_lt]
  rcases h with ⟨rfl, h⟩ | ⟨rfl, h⟩
  · rw [if_neg (by omega), if_neg (by omega), if_neg (by omega), if_neg (by omega)]
  · by_cases a : oh0.toInt < al0.toInt
    · rw [if_pos a]
    rw [if_neg a]
    by_cases b : ah0.toInt < ol0.toInt
    · rw [if_pos b]
    rw [if_neg b]
    by_cases c : oh1.toInt < al1.toInt
    · rw [if_pos c]
    rw [if_neg c, if_pos (by omega)]
theorem own_law {a b c d e1 e2 f1' f2' la0 ha0 lb0 hb0 la1 ha1 lb1 hb1 : Int64} {v : Int32} (h1 : f1 a b = la0) (h2 : f2 a b = ha0) (h3 : f1 c d = lb0) (h4 : f2 c d = hb0) (h5 : f1 e1 e2 = la1) (h6 : f2 e1 e2 = ha1) (h7 : f1 f1' f2' = lb1) (h8 : f2 f1' f2' = hb1)
    (hv : v = (if (f3 la0 ha0 lb0 hb0) = (0 : Int32) then (0 : Int32) else (if (f3 la1 ha1 lb1 hb1) = (0 : Int32) then (0 : Int32) else (1 : Int32)))) : f6 la0 la1 ha0 ha1 lb0 lb1 hb0 hb1 = v ∧ f6 lb0 lb1 hb0 hb1 la0 la1 ha0 ha1 = v := by
  have m1 := own_mm h1 h2
  have m2 := own_mm h3 h4
  have m3 := own_mm h5 h6
  have m4 := own_mm h7 h8
  have q1 := own_meet la0 ha0 lb0 hb0 m1 m2
  have q2 := own_meet la1 ha1 lb1 hb1 m3 m4
  have hd : (v = 1 ∧ la0.toInt ≤ hb0.toInt ∧ lb0.toInt ≤ ha0.toInt ∧ la1.toInt ≤ hb1.toInt ∧ lb1.toInt ≤ ha1.toInt) ∨ (v = 0 ∧ ¬ (la0.toInt ≤ hb0.toInt ∧ lb0.toInt ≤ ha0.toInt ∧ la1.toInt ≤ hb1.toInt ∧ lb1.toInt ≤ ha1.toInt)) := by
    rcases q1 with ⟨e, q1⟩ | ⟨e, q1⟩
    · rw [e, if_neg (by decide)] at hv
      rcases q2 with ⟨e', q2⟩ | ⟨e', q2⟩
      · rw [e', if_neg (by decide)] at hv; left; exact ⟨hv, by omega, by omega, by omega, by omega⟩
      · rw [e', if_pos rfl] at hv; right; exact ⟨hv, by omega⟩
    · rw [e, if_pos rfl] at hv; right; exact ⟨hv, by omega⟩
  refine ⟨own_f6 _ _ _ _ _ _ _ _ _ hd, own_f6 _ _ _ _ _ _ _ _ _ ?_⟩
  rcases hd with ⟨e, q⟩ | ⟨e, q⟩
  · left; exact ⟨e, by omega, by omega, by omega, by omega⟩
  · right; exact ⟨e, by omega⟩
theorem ef0 (m : MethodId) (x0 : Int64) (x1 : Int64) (x2 : Int64) (x3 : Int64) (x4 : Int64) (x5 : Int64) : entryFrame m #[(.long x0), (.long x1), (.long x2), (.long x3), (.long x4), (.long x5)] maxLocals = mkF m 0 #[.val (.long x0), .second, .val (.long x1), .second, .val (.long x2), .second, .val (.long x3), .second, .val (.long x4), .second, .val (.long x5), .second, .unset, .unset, .unset, .unset, .unset, .unset, .unset, .unset, .unset, .unset, .unset, .unset, .unset, .unset, .unset, .unset, .unset] [] := by first | (simp [entryFrame, mkF, argsToLocals, Value.category, maxLocals]; done) | rfl
theorem pd1 : parseMethodDescriptor "([J[J)V" = some ⟨[(.array .long), (.array .long)], none⟩ := by decide +kernel
theorem pd2 : parseMethodDescriptor "(Lcom/example/forest_grammar/forestgrammar/languages/Family$Box;)Z" = some ⟨[(.object "com/example/forest_grammar/forestgrammar/languages/Family$Box")], some .boolean⟩ := by decide +kernel
theorem pd3 : parseMethodDescriptor "(JJJJ)Z" = some ⟨[.long, .long, .long, .long], some .boolean⟩ := by decide +kernel
set_option maxRecDepth 65536 in
set_option maxHeartbeats 80000000 in
theorem rm0 (l : Launch) (Z : State) (a0 : Array Value) (hw : ∀ d ∈ tables_1, d.before a0 Z = true) (ws : List Jvm.Cond) (qa : Int64) (qb : Int64) (qc : Int64) (qd : Int64) (qe : Int64) (qf : Int64) (h0 : Heap) (n0 : Nat) (Z0 : n0 ≤ h0.size) :
    own_Met l Z x code maxLocals ret ws room_1 #[(.long qa), (.long qb), (.long qc), (.long qd), (.long qe), (.long qf)] h0 (fun v h L => v = some (.int 1) ∧ Fr n0 L) := by
  refine own_body (plainFor_of_name pn2) ?_
  intro p e s m below meth c T0 X0 hx hby hml hret hlk hZ hown hnm e0
  replace hml : c.maxLocals = 29 := hml
  have N0 := Fr.nil n0
  refine own_entry (ef0 m qa qb qc qd qe qf) ?_
  refine own_st (T' := T0) (F' := (mkF m 2 #[.val (.long qa), .second, .val (.long qb), .second, .val (.long qc), .second, .val (.long qd), .second, .val (.long qe), .second, .val (.long qf), .second, .unset, .unset, .unset, .unset, .unset, .unset, .unset, .unset, .unset, .unset, .unset, .unset, .unset, .unset, .unset, .unset, .unset] [(.long qe)])) (fun _ kq => XS.lload X0.here hx rfl (hb hby at_0) rfl kq) ?_
  refine own_st (T' := T0) (F' := (mkF m 3 #[.val (.long qa), .second, .val (.long qb), .second, .val (.long qc), .second, .val (.long qd), .second, .val (.long qe), .second, .val (.long qf), .second, .unset, .unset, .unset, .unset, .unset, .unset, .unset, .unset, .unset, .unset, .unset, .unset, .unset, .unset, .unset, .unset, .unset] [(.int (qe.toInt32))])) (fun _ kq => XS.l2i X0.here hx rfl (hb hby at_2) rfl kq) ?_
  refine own_st (T' := T0) (F' := (mkF m 4 #[.val (.long qa), .second, .val (.long qb), .second, .val (.long qc), .second, .val (.long qd), .second, .val (.long qe), .second, .val (.long qf), .second, .unset, .unset, .unset, .unset, .unset, .unset, .unset, .unset, .unset, .unset, .unset, .unset, .unset, .unset, .unset, .unset, .unset] [(.long ((qe.toInt32).toInt64))])) (fun _ kq => XS.i2l X0.here hx rfl (hb hby at_3) rfl kq) ?_
  generalize hv37 : ((qe.toInt32).toInt64) = v37
  refine own_st (T' := T0) (F' := (mkF m 6 #[.val (.long qa), .second, .val (.long qb), .second, .val (.long qc), .second, .val (.long qd), .second, .val (.long qe), .second, .val (.long qf), .second, .val (.long v37), .second, .unset, .unset, .unset, .unset, .unset, .unset, .unset, .unset, .unset, .unset, .unset, .unset, .unset, .unset, .unset] [])) (fun _ kq => XS.lstore X0.here hx rfl (hb hby at_4) rfl (l' := #[.val (.long qa), .second, .val (.long qb), .second, .val (.long qc), .second, .val (.long qd), .second, .val (.long qe), .second, .val (.long qf), .second, .val (.long v37), .second, .unset, .unset, .unset, .unset, .unset, .unset, .unset, .unset, .unset, .unset, .unset, .unset, .unset, .unset, .unset]) rfl kq) ?_
  refine own_st (T' := T0) (F' := (mkF m 8 #[.val (.long qa), .second, .val (.long qb), .second, .val (.long qc), .second, .val (.long qd), .second, .val (.long qe), .second, .val (.long qf), .second, .val (.long v37), .second, .unset, .unset, .unset, .unset, .unset, .unset, .unset, .unset, .unset, .unset, .unset, .unset, .unset, .unset, .unset] [(.long qe)])) (fun _ kq => XS.lload X0.here hx rfl (hb hby at_6) rfl kq) ?_
  refine own_st (T' := T0) (F' := (mkF m 10 #[.val (.long qa), .second, .val (.long qb), .second, .val (.long qc), .second, .val (.long qd), .second, .val (.long qe), .second, .val (.long qf), .second, .val (.long v37), .second, .unset, .unset, .unset, .unset, .unset, .unset, .unset, .unset, .unset, .unset, .unset, .unset, .unset, .unset, .unset] [(.int (32 : Int32)), (.long qe)])) (fun _ kq => XS.bipush X0.here hx rfl (hb hby at_8) kq) ?_
  refine own_st (T' := T0) (F' := (mkF m 11 #[.val (.long qa), .second, .val (.long qb), .second, .val (.long qc), .second, .val (.long qd), .second, .val (.long qe), .second, .val (.long qf), .second, .val (.long v37), .second, .unset, .unset, .unset, .unset, .unset, .unset, .unset, .unset, .unset, .unset, .unset, .unset, .unset, .unset, .unset] [(.long ((qe.toUInt64 >>> ((32 : Int32) &&& 0x3f).toInt64.toUInt64).toInt64))])) (fun _ kq => XS.lushr X0.here hx rfl (hb hby at_10) rfl kq) ?_
  refine own_st (T' := T0) (F' := (mkF m 12 #[.val (.long qa), .second, .val (.long qb), .second, .val (.long qc), .second, .val (.long qd), .second, .val (.long qe), .second, .val (.long qf), .second, .val (.long v37), .second, .unset, .unset, .unset, .unset, .unset, .unset, .unset, .unset, .unset, .unset, .unset, .unset, .unset, .unset, .unset] [(.int (((qe.toUInt64 >>> ((32 : Int32) &&& 0x3f).toInt64.toUInt64).toInt64).toInt32))])) (fun _ kq => XS.l2i X0.here hx rfl (hb hby at_11) rfl kq) ?_
  refine own_st (T' := T0) (F' := (mkF m 13 #[.val (.long qa), .second, .val (.long qb), .second, .val (.long qc), .second, .val (.long qd), .second, .val (.long qe), .second, .val (.long qf), .second, .val (.long v37), .second, .unset, .unset, .unset, .unset, .unset, .unset, .unset, .unset, .unset, .unset, .unset, .unset, .unset, .unset, .unset] [(.long ((((qe.toUInt64 >>> ((32 : Int32) &&& 0x3f).toInt64.toUInt64).toInt64).toInt32).toInt64))])) (fun _ kq => XS.i2l X0.here hx rfl (hb hby at_12) rfl kq) ?_
  generalize hv38 : ((((qe.toUInt64 >>> ((32 : Int32) &&& 0x3f).toInt64.toUInt64).toInt64).toInt32).toInt64) = v38
  refine own_st (T' := T0) (F' := (mkF m 15 #[.val (.long qa), .second, .val (.long qb), .second, .val (.long qc), .second, .val (.long qd), .second, .val (.long qe), .second, .val (.long qf), .second, .val (.long v37), .second, .val (.long v38), .second, .unset, .unset, .unset, .unset, .unset, .unset, .unset, .unset, .unset, .unset, .unset, .unset, .unset] [])) (fun _ kq => XS.lstore X0.here hx rfl (hb hby at_13) rfl (l' := #[.val (.long qa), .second, .val (.long qb), .second, .val (.long qc), .second, .val (.long qd), .second, .val (.long qe), .second, .val (.long qf), .second, .val (.long v37), .second, .val (.long v38), .second, .unset, .unset, .unset, .unset, .unset, .unset, .unset, .unset, .unset, .unset, .unset, .unset, .unset]) rfl kq) ?_
  refine own_st (T' := T0) (F' := (mkF m 17 #[.val (.long qa), .second, .val (.long qb), .second, .val (.long qc), .second, .val (.long qd), .second, .val (.long qe), .second, .val (.long qf), .second, .val (.long v37), .second, .val (.long v38), .second, .unset, .unset, .unset, .unset, .unset, .unset, .unset, .unset, .unset, .unset, .unset, .unset, .unset] [(.long qf)])) (fun _ kq => XS.lload X0.here hx rfl (hb hby at_15) rfl kq) ?_
  refine own_st (T' := T0) (F' := (mkF m 18 #[.val (.long qa), .second, .val (.long qb), .second, .val (.long qc), .second, .val (.long qd), .second, .val (.long qe), .second, .val (.long qf), .second, .val (.long v37), .second, .val (.long v38), .second, .unset, .unset, .unset, .unset, .unset, .unset, .unset, .unset, .unset, .unset, .unset, .unset, .unset] [(.int (qf.toInt32))])) (fun _ kq => XS.l2i X0.here hx rfl (hb hby at_17) rfl kq) ?_
  refine own_st (T' := T0) (F' := (mkF m 19 #[.val (.long qa), .second, .val (.long qb), .second, .val (.long qc), .second, .val (.long qd), .second, .val (.long qe), .second, .val (.long qf), .second, .val (.long v37), .second, .val (.long v38), .second, .unset, .unset, .unset, .unset, .unset, .unset, .unset, .unset, .unset, .unset, .unset, .unset, .unset] [(.long ((qf.toInt32).toInt64))])) (fun _ kq => XS.i2l X0.here hx rfl (hb hby at_18) rfl kq) ?_
  generalize hv39 : ((qf.toInt32).toInt64) = v39
  refine own_st (T' := T0) (F' := (mkF m 21 #[.val (.long qa), .second, .val (.long qb), .second, .val (.long qc), .second, .val (.long qd), .second, .val (.long qe), .second, .val (.long qf), .second, .val (.long v37), .second, .val (.long v38), .second, .val (.long v39), .second, .unset, .unset, .unset, .unset, .unset, .unset, .unset, .unset, .unset, .unset, .unset] [])) (fun _ kq => XS.lstore X0.here hx rfl (hb hby at_19) rfl (l' := #[.val (.long qa), .second, .val (.long qb), .second, .val (.long qc), .second, .val (.long qd), .second, .val (.long qe), .second, .val (.long qf), .second, .val (.long v37), .second, .val (.long v38), .second, .val (.long v39), .second, .unset, .unset, .unset, .unset, .unset, .unset, .unset, .unset, .unset, .unset, .unset]) rfl kq) ?_
  refine own_st (T' := T0) (F' := (mkF m 23 #[.val (.long qa), .second, .val (.long qb), .second, .val (.long qc), .second, .val (.long qd), .second, .val (.long qe), .second, .val (.long qf), .second, .val (.long v37), .second, .val (.long v38), .second, .val (.long v39), .second, .unset, .unset, .unset, .unset, .unset, .unset, .unset, .unset, .unset, .unset, .unset] [(.long qf)])) (fun _ kq => XS.lload X0.here hx rfl (hb hby at_21) rfl kq) ?_
  refine own_st (T' := T0) (F' := (mkF m 25 #[.val (.long qa), .second, .val (.long qb), .second, .val (.long qc), .second, .val (.long qd), .second, .val (.long qe), .second, .val (.long qf), .second, .val (.long v37), .second, .val (.long v38), .second, .val (.long v39), .second, .unset, .unset, .unset, .unset, .unset, .unset, .unset, .unset, .unset, .unset, .unset] [(.int (32 : Int32)), (.long qf)])) (fun _ kq => XS.bipush X0.here hx rfl (hb hby at_23) kq) ?_
  refine own_st (T' := T0) (F' := (mkF m 26 #[.val (.long qa), .second, .val (.long qb), .second, .val (.long qc), .second, .val (.long qd), .second, .val (.long qe), .second, .val (.long qf), .second, .val (.long v37), .second, .val (.long v38), .second, .val (.long v39), .second, .unset, .unset, .unset, .unset, .unset, .unset, .unset, .unset, .unset, .unset, .unset] [(.long ((qf.toUInt64 >>> ((32 : Int32) &&& 0x3f).toInt64.toUInt64).toInt64))])) (fun _ kq => XS.lushr X0.here hx rfl (hb hby at_25) rfl kq) ?_
  refine own_st (T' := T0) (F' := (mkF m 27 #[.val (.long qa), .second, .val (.long qb), .second, .val (.long qc), .second, .val (.long qd), .second, .val (.long qe), .second, .val (.long qf), .second, .val (.long v37), .second, .val (.long v38), .second, .val (.long v39), .second, .unset, .unset, .unset, .unset, .unset, .unset, .unset, .unset, .unset, .unset, .unset] [(.int (((qf.toUInt64 >>> ((32 : Int32) &&& 0x3f).toInt64.toUInt64).toInt64).toInt32))])) (fun _ kq => XS.l2i X0.here hx rfl (hb hby at_26) rfl kq) ?_
  refine own_st (T' := T0) (F' := (mkF m 28 #[.val (.long qa), .second, .val (.long qb), .second, .val (.long qc), .second, .val (.long qd), .second, .val (.long qe), .second, .val (.long qf), .second, .val (.long v37), .second, .val (.long v38), .second, .val (.long v39), .second, .unset, .unset, .unset, .unset, .unset, .unset, .unset, .unset, .unset, .unset, .unset] [(.long ((((qf.toUInt64 >>> ((32 : Int32) &&& 0x3f).toInt64.toUInt64).toInt64).toInt32).toInt64))])) (fun _ kq => XS.i2l X0.here hx rfl (hb hby at_27) rfl kq) ?_
  generalize hv40 : ((((qf.toUInt64 >>> ((32 : Int32) &&& 0x3f).toInt64.toUInt64).toInt64).toInt32).toInt64) = v40
  refine own_st (T' := T0) (F' := (mkF m 30 #[.val (.long qa), .second, .val (.long qb), .second, .val (.long qc), .second, .val (.long qd), .second, .val (.long qe), .second, .val (.long qf), .second, .val (.long v37), .second, .val (.long v38), .second, .val (.long v39), .second, .val (.long v40), .second, .unset, .unset, .unset, .unset, .unset, .unset, .unset, .unset, .unset] [])) (fun _ kq => XS.lstore X0.here hx rfl (hb hby at_28) rfl (l' := #[.val (.long qa), .second, .val (.long qb), .second, .val (.long qc), .second, .val (.long qd), .second, .val (.long qe), .second, .val (.long qf), .second, .val (.long v37), .second, .val (.long v38), .second, .val (.long v39), .second, .val (.long v40), .second, .unset, .unset, .unset, .unset, .unset, .unset, .unset, .unset, .unset]) rfl kq) ?_
  refine own_st (T' := T0) (F' := (mkF m 31 #[.val (.long qa), .second, .val (.long qb), .second, .val (.long qc), .second, .val (.long qd), .second, .val (.long qe), .second, .val (.long qf), .second, .val (.long v37), .second, .val (.long v38), .second, .val (.long v39), .second, .val (.long v40), .second, .unset, .unset, .unset, .unset, .unset, .unset, .unset, .unset, .unset] [(.int (2 : Int32))])) (fun _ kq => XS.iconst X0.here hx rfl (hb hby at_30) kq) ?_
  obtain ⟨T41, h41, b41, X41, e41, E41, g41, gb41, Z41, V41, st41⟩ := own_newJ X0 hx hZ (hw _ (List.mem_of_getElem? (i := 0) rfl)) e0 Z0 (g := (mkF m 31 #[.val (.long qa), .second, .val (.long qb), .second, .val (.long qc), .second, .val (.long qd), .second, .val (.long qe), .second, .val (.long qf), .second, .val (.long v37), .second, .val (.long v38), .second, .val (.long v39), .second, .val (.long v40), .second, .unset, .unset, .unset, .unset, .unset, .unset, .unset, .unset, .unset] [(.int (2 : Int32))])) rfl rfl (hb hby at_31) (by decide) 2 2 rfl (by decide) (by decide) (by decide) (by decide)
  refine own_st (T' := T41) (F' := (mkF m 33 #[.val (.long qa), .second, .val (.long qb), .second, .val (.long qc), .second, .val (.long qd), .second, .val (.long qe), .second, .val (.long qf), .second, .val (.long v37), .second, .val (.long v38), .second, .val (.long v39), .second, .val (.long v40), .second, .unset, .unset, .unset, .unset, .unset, .unset, .unset, .unset, .unset] [(.ref b41)])) (st41) ?_
  refine own_st (T' := T41) (F' := (mkF m 34 #[.val (.long qa), .second, .val (.long qb), .second, .val (.long qc), .second, .val (.long qd), .second, .val (.long qe), .second, .val (.long qf), .second, .val (.long v37), .second, .val (.long v38), .second, .val (.long v39), .second, .val (.long v40), .second, .unset, .unset, .unset, .unset, .unset, .unset, .unset, .unset, .unset] [(.ref b41), (.ref b41)])) (fun _ kq => XS.dup X41.here hx rfl (hb hby at_33) rfl rfl kq) ?_
  refine own_st (T' := T41) (F' := (mkF m 35 #[.val (.long qa), .second, .val (.long qb), .second, .val (.long qc), .second, .val (.long qd), .second, .val (.long qe), .second, .val (.long qf), .second, .val (.long v37), .second, .val (.long v38), .second, .val (.long v39), .second, .val (.long v40), .second, .unset, .unset, .unset, .unset, .unset, .unset, .unset, .unset, .unset] [(.int (0 : Int32)), (.ref b41), (.ref b41)])) (fun _ kq => XS.iconst X41.here hx rfl (hb hby at_34) kq) ?_
  refine own_st (T' := T41) (F' := (mkF m 36 #[.val (.long qa), .second, .val (.long qb), .second, .val (.long qc), .second, .val (.long qd), .second, .val (.long qe), .second, .val (.long qf), .second, .val (.long v37), .second, .val (.long v38), .second, .val (.long v39), .second, .val (.long v40), .second, .unset, .unset, .unset, .unset, .unset, .unset, .unset, .unset, .unset] [(.long qa), (.int (0 : Int32)), (.ref b41), (.ref b41)])) (fun _ kq => XS.lloadN X41.here hx rfl (hb hby at_35) rfl kq) ?_
  refine own_st (T' := T41) (F' := (mkF m 37 #[.val (.long qa), .second, .val (.long qb), .second, .val (.long qc), .second, .val (.long qd), .second, .val (.long qe), .second, .val (.long qf), .second, .val (.long v37), .second, .val (.long v38), .second, .val (.long v39), .second, .val (.long v40), .second, .unset, .unset, .unset, .unset, .unset, .unset, .unset, .unset, .unset] [(.long qb), (.long qa), (.int (0 : Int32)), (.ref b41), (.ref b41)])) (fun _ kq => XS.lloadN X41.here hx rfl (hb hby at_36) rfl kq) ?_
  obtain ⟨T43, locs43, X43, e43, N43, st43⟩ := own_callP X41 hx hZ 3 hown (hw _ (List.mem_of_getElem? (i := 1) rfl)) (hw _ (List.mem_of_getElem? (i := 2) rfl)) (hw _ (List.mem_of_getElem? (i := 3) rfl)) (hw _ (List.mem_of_getElem? (i := 4) rfl)) (by decide) (rm1 l Z a0 hw [] qa qb h41 n0) (by decide) (by decide) rfl rfl e41 N0 (by decide) (by decide) (g := (mkF m 37 #[.val (.long qa), .second, .val (.long qb), .second, .val (.long qc), .second, .val (.long qd), .second, .val (.long qe), .second, .val (.long qf), .second, .val (.long v37), .second, .val (.long v38), .second, .val (.long v39), .second, .val (.long v40), .second, .unset, .unset, .unset, .unset, .unset, .unset, .unset, .unset, .unset] [(.long qb), (.long qa), (.int (0 : Int32)), (.ref b41), (.ref b41)])) rfl (by rw [hml]; rfl) (argsL := [(.long qa), (.long qb)]) (rest := [(.int (0 : Int32)), (.ref b41), (.ref b41)]) (lenOf pd0 rfl) rfl rfl (by show 2 * 0 + _ ≤ _; exact Nat.le_of_eq rfl) (hb hby at_37)
  refine own_st (T' := T43) (F' := (mkF m 40 #[.val (.long qa), .second, .val (.long qb), .second, .val (.long qc), .second, .val (.long qd), .second, .val (.long qe), .second, .val (.long qf), .second, .val (.long v37), .second, .val (.long v38), .second, .val (.long v39), .second, .val (.long v40), .second, .unset, .unset, .unset, .unset, .unset, .unset, .unset, .unset, .unset] [(.long (f1 qa qb)), (.int (0 : Int32)), (.ref b41), (.ref b41)])) (st43) ?_
  generalize hv44 : (f1 qa qb) = v44
  obtain ⟨T45, h45, locs45, X45, e45, N45, W45, V45, st45⟩ := own_stJ X43 hx hZ e43 N43 (ys := [v44, (0 : Int64)]) V41 gb41 (g := (mkF m 40 #[.val (.long qa), .second, .val (.long qb), .second, .val (.long qc), .second, .val (.long qd), .second, .val (.long qe), .second, .val (.long qf), .second, .val (.long v37), .second, .val (.long v38), .second, .val (.long v39), .second, .val (.long v40), .second, .unset, .unset, .unset, .unset, .unset, .unset, .unset, .unset, .unset] [(.long v44), (.int (0 : Int32)), (.ref b41), (.ref b41)])) rfl rfl (hb hby at_40) (by decide) (Nat.le_of_ble_eq_true rfl) rfl
  have Z45 : n0 ≤ h45.size := by rw [W45.size]; exact Z41
  refine own_st (T' := T45) (F' := (mkF m 41 #[.val (.long qa), .second, .val (.long qb), .second, .val (.long qc), .second, .val (.long qd), .second, .val (.long qe), .second, .val (.long qf), .second, .val (.long v37), .second, .val (.long v38), .second, .val (.long v39), .second, .val (.long v40), .second, .unset, .unset, .unset, .unset, .unset, .unset, .unset, .unset, .unset] [(.ref b41)])) (st45) ?_
  refine own_st (T' := T45) (F' := (mkF m 42 #[.val (.long qa), .second, .val (.long qb), .second, .val (.long qc), .second, .val (.long qd), .second, .val (.long qe), .second, .val (.long qf), .second, .val (.long v37), .second, .val (.long v38), .second, .val (.long v39), .second, .val (.long v40), .second, .unset, .unset, .unset, .unset, .unset, .unset, .unset, .unset, .unset] [(.ref b41), (.ref b41)])) (fun _ kq => XS.dup X45.here hx rfl (hb hby at_41) rfl rfl kq) ?_
  refine own_st (T' := T45) (F' := (mkF m 43 #[.val (.long qa), .second, .val (.long qb), .second, .val (.long qc), .second, .val (.long qd), .second, .val (.long qe), .second, .val (.long qf), .second, .val (.long v37), .second, .val (.long v38), .second, .val (.long v39), .second, .val (.long v40), .second, .unset, .unset, .unset, .unset, .unset, .unset, .unset, .unset, .unset] [(.int (1 : Int32)), (.ref b41), (.ref b41)])) (fun _ kq => XS.iconst X45.here hx rfl (hb hby at_42) kq) ?_
  refine own_st (T' := T45) (F' := (mkF m 45 #[.val (.long qa), .second, .val (.long qb), .second, .val (.long qc), .second, .val (.long qd), .second, .val (.long qe), .second, .val (.long qf), .second, .val (.long v37), .second, .val (.long v38), .second, .val (.long v39), .second, .val (.long v40), .second, .unset, .unset, .unset, .unset, .unset, .unset, .unset, .unset, .unset] [(.long v37), (.int (1 : Int32)), (.ref b41), (.ref b41)])) (fun _ kq => XS.lload X45.here hx rfl (hb hby at_43) rfl kq) ?_
  refine own_st (T' := T45) (F' := (mkF m 47 #[.val (.long qa), .second, .val (.long qb), .second, .val (.long qc), .second, .val (.long qd), .second, .val (.long qe), .second, .val (.long qf), .second, .val (.long v37), .second, .val (.long v38), .second, .val (.long v39), .second, .val (.long v40), .second, .unset, .unset, .unset, .unset, .unset, .unset, .unset, .unset, .unset] [(.long v38), (.long v37), (.int (1 : Int32)), (.ref b41), (.ref b41)])) (fun _ kq => XS.lload X45.here hx rfl (hb hby at_45) rfl kq) ?_
  obtain ⟨T47, locs47, X47, e47, N47, st47⟩ := own_callP X45 hx hZ 3 hown (hw _ (List.mem_of_getElem? (i := 1) rfl)) (hw _ (List.mem_of_getElem? (i := 2) rfl)) (hw _ (List.mem_of_getElem? (i := 3) rfl)) (hw _ (List.mem_of_getElem? (i := 4) rfl)) (by decide) (rm1 l Z a0 hw [] v37 v38 h45 n0) (by decide) (by decide) rfl rfl e45 N45 (by decide) (by decide) (g := (mkF m 47 #[.val (.long qa), .second, .val (.long qb), .second, .val (.long qc), .second, .val (.long qd), .second, .val (.long qe), .second, .val (.long qf), .second, .val (.long v37), .second, .val (.long v38), .second, .val (.long v39), .second, .val (.long v40), .second, .unset, .unset, .unset, .unset, .unset, .unset, .unset, .unset, .unset] [(.long v38), (.long v37), (.int (1 : Int32)), (.ref b41), (.ref b41)])) rfl (by rw [hml]; rfl) (argsL := [(.long v37), (.long v38)]) (rest := [(.int (1 : Int32)), (.ref b41), (.ref b41)]) (lenOf pd0 rfl) rfl rfl (by show 2 * 0 + _ ≤ _; exact Nat.le_of_eq rfl) (hb hby at_47)
  refine own_st (T' := T47) (F' := (mkF m 50 #[.val (.long qa), .second, .val (.long qb), .second, .val (.long qc), .second, .val (.long qd), .second, .val (.long qe), .second, .val (.long qf), .second, .val (.long v37), .second, .val (.long v38), .second, .val (.long v39), .second, .val (.long v40), .second, .unset, .unset, .unset, .unset, .unset, .unset, .unset, .unset, .unset] [(.long (f1 v37 v38)), (.int (1 : Int32)), (.ref b41), (.ref b41)])) (st47) ?_
  generalize hv48 : (f1 v37 v38) = v48
  obtain ⟨T49, h49, locs49, X49, e49, N49, W49, V49, st49⟩ := own_stJ X47 hx hZ e47 N47 (ys := [v44, v48]) V45 gb41 (g := (mkF m 50 #[.val (.long qa), .second, .val (.long qb), .second, .val (.long qc), .second, .val (.long qd), .second, .val (.long qe), .second, .val (.long qf), .second, .val (.long v37), .second, .val (.long v38), .second, .val (.long v39), .second, .val (.long v40), .second, .unset, .unset, .unset, .unset, .unset, .unset, .unset, .unset, .unset] [(.long v48), (.int (1 : Int32)), (.ref b41), (.ref b41)])) rfl rfl (hb hby at_50) (by decide) (Nat.le_of_ble_eq_true rfl) rfl
  have Z49 : n0 ≤ h49.size := by rw [W49.size]; exact Z45
  refine own_st (T' := T49) (F' := (mkF m 51 #[.val (.long qa), .second, .val (.long qb), .second, .val (.long qc), .second, .val (.long qd), .second, .val (.long qe), .second, .val (.long qf), .second, .val (.long v37), .second, .val (.long v38), .second, .val (.long v39), .second, .val (.long v40), .second, .unset, .unset, .unset, .unset, .unset, .unset, .unset, .unset, .unset] [(.ref b41)])) (st49) ?_
  refine own_st (T' := T49) (F' := (mkF m 53 #[.val (.long qa), .second, .val (.long qb), .second, .val (.long qc), .second, .val (.long qd), .second, .val (.long qe), .second, .val (.long qf), .second, .val (.long v37), .second, .val (.long v38), .second, .val (.long v39), .second, .val (.long v40), .second, .val (.ref b41), .unset, .unset, .unset, .unset, .unset, .unset, .unset, .unset] [])) (fun _ kq => XS.astore X49.here hx rfl (hb hby at_51) rfl rfl (l' := #[.val (.long qa), .second, .val (.long qb), .second, .val (.long qc), .second, .val (.long qd), .second, .val (.long qe), .second, .val (.long qf), .second, .val (.long v37), .second, .val (.long v38), .second, .val (.long v39), .second, .val (.long v40), .second, .val (.ref b41), .unset, .unset, .unset, .unset, .unset, .unset, .unset, .unset]) rfl kq) ?_
  refine own_st (T' := T49) (F' := (mkF m 54 #[.val (.long qa), .second, .val (.long qb), .second, .val (.long qc), .second, .val (.long qd), .second, .val (.long qe), .second, .val (.long qf), .second, .val (.long v37), .second, .val (.long v38), .second, .val (.long v39), .second, .val (.long v40), .second, .val (.ref b41), .unset, .unset, .unset, .unset, .unset, .unset, .unset, .unset] [(.int (2 : Int32))])) (fun _ kq => XS.iconst X49.here hx rfl (hb hby at_53) kq) ?_
  obtain ⟨T51, h51, b51, X51, e51, E51, g51, gb51, Z51, V51, st51⟩ := own_newJ X49 hx hZ (hw _ (List.mem_of_getElem? (i := 0) rfl)) e49 Z49 (g := (mkF m 54 #[.val (.long qa), .second, .val (.long qb), .second, .val (.long qc), .second, .val (.long qd), .second, .val (.long qe), .second, .val (.long qf), .second, .val (.long v37), .second, .val (.long v38), .second, .val (.long v39), .second, .val (.long v40), .second, .val (.ref b41), .unset, .unset, .unset, .unset, .unset, .unset, .unset, .unset] [(.int (2 : Int32))])) rfl rfl (hb hby at_54) (by decide) 2 2 rfl (by decide) (by decide) (by decide) (by decide)
  have VAb41_52 := V49.ext E51
  have ne_b41_b51 : b41 ≠ b51 := by rw [g51]; exact Nat.ne_of_lt V49.lt
  refine own_st (T' := T51) (F' := (mkF m 56 #[.val (.long qa), .second, .val (.long qb), .second, .val (.long qc), .second, .val (.long qd), .second, .val (.long qe), .second, .val (.long qf), .second, .val (.long v37), .second, .val (.long v38), .second, .val (.long v39), .second, .val (.long v40), .second, .val (.ref b41), .unset, .unset, .unset, .unset, .unset, .unset, .unset, .unset] [(.ref b51)])) (st51) ?_
  refine own_st (T' := T51) (F' := (mkF m 57 #[.val (.long qa), .second, .val (.long qb), .second, .val (.long qc), .second, .val (.long qd), .second, .val (.long qe), .second, .val (.long qf), .second, .val (.long v37), .second, .val (.long v38), .second, .val (.long v39), .second, .val (.long v40), .second, .val (.ref b41), .unset, .unset, .unset, .unset, .unset, .unset, .unset, .unset] [(.ref b51), (.ref b51)])) (fun _ kq => XS.dup X51.here hx rfl (hb hby at_56) rfl rfl kq) ?_
  refine own_st (T' := T51) (F' := (mkF m 58 #[.val (.long qa), .second, .val (.long qb), .second, .val (.long qc), .second, .val (.long qd), .second, .val (.long qe), .second, .val (.long qf), .second, .val (.long v37), .second, .val (.long v38), .second, .val (.long v39), .second, .val (.long v40), .second, .val (.ref b41), .unset, .unset, .unset, .unset, .unset, .unset, .unset, .unset] [(.int (0 : Int32)), (.ref b51), (.ref b51)])) (fun _ kq => XS.iconst X51.here hx rfl (hb hby at_57) kq) ?_
  refine own_st (T' := T51) (F' := (mkF m 59 #[.val (.long qa), .second, .val (.long qb), .second, .val (.long qc), .second, .val (.long qd), .second, .val (.long qe), .second, .val (.long qf), .second, .val (.long v37), .second, .val (.long v38), .second, .val (.long v39), .second, .val (.long v40), .second, .val (.ref b41), .unset, .unset, .unset, .unset, .unset, .unset, .unset, .unset] [(.long qa), (.int (0 : Int32)), (.ref b51), (.ref b51)])) (fun _ kq => XS.lloadN X51.here hx rfl (hb hby at_58) rfl kq) ?_
  refine own_st (T' := T51) (F' := (mkF m 60 #[.val (.long qa), .second, .val (.long qb), .second, .val (.long qc), .second, .val (.long qd), .second, .val (.long qe), .second, .val (.long qf), .second, .val (.long v37), .second, .val (.long v38), .second, .val (.long v39), .second, .val (.long v40), .second, .val (.ref b41), .unset, .unset, .unset, .unset, .unset, .unset, .unset, .unset] [(.long qb), (.long qa), (.int (0 : Int32)), (.ref b51), (.ref b51)])) (fun _ kq => XS.lloadN X51.here hx rfl (hb hby at_59) rfl kq) ?_
  obtain ⟨T53, locs53, X53, e53, N53, st53⟩ := own_callP X51 hx hZ 3 hown (hw _ (List.mem_of_getElem? (i := 5) rfl)) (hw _ (List.mem_of_getElem? (i := 6) rfl)) (hw _ (List.mem_of_getElem? (i := 3) rfl)) (hw _ (List.mem_of_getElem? (i := 7) rfl)) (by decide) (rm2 l Z a0 hw [] qa qb h51 n0) (by decide) (by decide) rfl rfl e51 N49 (by decide) (by decide) (g := (mkF m 60 #[.val (.long qa), .second, .val (.long qb), .second, .val (.long qc), .second, .val (.long qd), .second, .val (.long qe), .second, .val (.long qf), .second, .val (.long v37), .second, .val (.long v38), .second, .val (.long v39), .second, .val (.long v40), .second, .val (.ref b41), .unset, .unset, .unset, .unset, .unset, .unset, .unset, .unset] [(.long qb), (.long qa), (.int (0 : Int32)), (.ref b51), (.ref b51)])) rfl (by rw [hml]; rfl) (argsL := [(.long qa), (.long qb)]) (rest := [(.int (0 : Int32)), (.ref b51), (.ref b51)]) (lenOf pd0 rfl) rfl rfl (by show 2 * 0 + _ ≤ _; exact Nat.le_of_eq rfl) (hb hby at_60)
  refine own_st (T' := T53) (F' := (mkF m 63 #[.val (.long qa), .second, .val (.long qb), .second, .val (.long qc), .second, .val (.long qd), .second, .val (.long qe), .second, .val (.long qf), .second, .val (.long v37), .second, .val (.long v38), .second, .val (.long v39), .second, .val (.long v40), .second, .val (.ref b41), .unset, .unset, .unset, .unset, .unset, .unset, .unset, .unset] [(.long (f2 qa qb)), (.int (0 : Int32)), (.ref b51), (.ref b51)])) (st53) ?_
  generalize hv54 : (f2 qa qb) = v54
  obtain ⟨T55, h55, locs55, X55, e55, N55, W55, V55, st55⟩ := own_stJ X53 hx hZ e53 N53 (ys := [v54, (0 : Int64)]) V51 gb51 (g := (mkF m 63 #[.val (.long qa), .second, .val (.long qb), .second, .val (.long qc), .second, .val (.long qd), .second, .val (.long qe), .second, .val (.long qf), .second, .val (.long v37), .second, .val (.long v38), .second, .val (.long v39), .second, .val (.long v40), .second, .val (.ref b41), .unset, .unset, .unset, .unset, .unset, .unset, .unset, .unset] [(.long v54), (.int (0 : Int32)), (.ref b51), (.ref b51)])) rfl rfl (hb hby at_63) (by decide) (Nat.le_of_ble_eq_true rfl) rfl
  have VAb41_56 := VAb41_52.other W55 ne_b41_b51
  have Z55 : n0 ≤ h55.size := by rw [W55.size]; exact Z51
  refine own_st (T' := T55) (F' := (mkF m 64 #[.val (.long qa), .second, .val (.long qb), .second, .val (.long qc), .second, .val (.long qd), .second, .val (.long qe), .second, .val (.long qf), .second, .val (.long v37), .second, .val (.long v38), .second, .val (.long v39), .second, .val (.long v40), .second, .val (.ref b41), .unset, .unset, .unset, .unset, .unset, .unset, .unset, .unset] [(.ref b51)])) (st55) ?_
  refine own_st (T' := T55) (F' := (mkF m 65 #[.val (.long qa), .second, .val (.long qb), .second, .val (.long qc), .second, .val (.long qd), .second, .val (.long qe), .second, .val (.long qf), .second, .val (.long v37), .second, .val (.long v38), .second, .val (.long v39), .second, .val (.long v40), .second, .val (.ref b41), .unset, .unset, .unset, .unset, .unset, .unset, .unset, .unset] [(.ref b51), (.ref b51)])) (fun _ kq => XS.dup X55.here hx rfl (hb hby at_64) rfl rfl kq) ?_
  refine own_st (T' := T55) (F' := (mkF m 66 #[.val (.long qa), .second, .val (.long qb), .second, .val (.long qc), .second, .val (.long qd), .second, .val (.long qe), .second, .val (.long qf), .second, .val (.long v37), .second, .val (.long v38), .second, .val (.long v39), .second, .val (.long v40), .second, .val (.ref b41), .unset, .unset, .unset, .unset, .unset, .unset, .unset, .unset] [(.int (1 : Int32)), (.ref b51), (.ref b51)])) (fun _ kq => XS.iconst X55.here hx rfl (hb hby at_65) kq) ?_
  refine own_st (T' := T55) (F' := (mkF m 68 #[.val (.long qa), .second, .val (.long qb), .second, .val (.long qc), .second, .val (.long qd), .second, .val (.long qe), .second, .val (.long qf), .second, .val (.long v37), .second, .val (.long v38), .second, .val (.long v39), .second, .val (.long v40), .second, .val (.ref b41), .unset, .unset, .unset, .unset, .unset, .unset, .unset, .unset] [(.long v37), (.int (1 : Int32)), (.ref b51), (.ref b51)])) (fun _ kq => XS.lload X55.here hx rfl (hb hby at_66) rfl kq) ?_
  refine own_st (T' := T55) (F' := (mkF m 70 #[.val (.long qa), .second, .val (.long qb), .second, .val (.long qc), .second, .val (.long qd), .second, .val (.long qe), .second, .val (.long qf), .second, .val (.long v37), .second, .val (.long v38), .second, .val (.long v39), .second, .val (.long v40), .second, .val (.ref b41), .unset, .unset, .unset, .unset, .unset, .unset, .unset, .unset] [(.long v38), (.long v37), (.int (1 : Int32)), (.ref b51), (.ref b51)])) (fun _ kq => XS.lload X55.here hx rfl (hb hby at_68) rfl kq) ?_
  obtain ⟨T57, locs57, X57, e57, N57, st57⟩ := own_callP X55 hx hZ 3 hown (hw _ (List.mem_of_getElem? (i := 5) rfl)) (hw _ (List.mem_of_getElem? (i := 6) rfl)) (hw _ (List.mem_of_getElem? (i := 3) rfl)) (hw _ (List.mem_of_getElem? (i := 7) rfl)) (by decide) (rm2 l Z a0 hw [] v37 v38 h55 n0) (by decide) (by decide) rfl rfl e55 N55 (by decide) (by decide) (g := (mkF m 70 #[.val (.long qa), .second, .val (.long qb), .second, .val (.long qc), .second, .val (.long qd), .second, .val (.long qe), .second, .val (.long qf), .second, .val (.long v37), .second, .val (.long v38), .second, .val (.long v39), .second, .val (.long v40), .second, .val (.ref b41), .unset, .unset, .unset, .unset, .unset, .unset, .unset, .unset] [(.long v38), (.long v37), (.int (1 : Int32)), (.ref b51), (.ref b51)])) rfl (by rw [hml]; rfl) (argsL := [(.long v37), (.long v38)]) (rest := [(.int (1 : Int32)), (.ref b51), (.ref b51)]) (lenOf pd0 rfl) rfl rfl (by show 2 * 0 + _ ≤ _; exact Nat.le_of_eq rfl) (hb hby at_70)
  refine own_st (T' := T57) (F' := (mkF m 73 #[.val (.long qa), .second, .val (.long qb), .second, .val (.long qc), .second, .val (.long qd), .second, .val (.long qe), .second, .val (.long qf), .second, .val (.long v37), .second, .val (.long v38), .second, .val (.long v39), .second, .val (.long v40), .second, .val (.ref b41), .unset, .unset, .unset, .unset, .unset, .unset, .unset, .unset] [(.long (f2 v37 v38)), (.int (1 : Int32)), (.ref b51), (.ref b51)])) (st57) ?_
  generalize hv58 : (f2 v37 v38) = v58
  obtain ⟨T59, h59, locs59, X59, e59, N59, W59, V59, st59⟩ := own_stJ X57 hx hZ e57 N57 (ys := [v54, v58]) V55 gb51 (g := (mkF m 73 #[.val (.long qa), .second, .val (.long qb), .second, .val (.long qc), .second, .val (.long qd), .second, .val (.long qe), .second, .val (.long qf), .second, .val (.long v37), .second, .val (.long v38), .second, .val (.long v39), .second, .val (.long v40), .second, .val (.ref b41), .unset, .unset, .unset, .unset, .unset, .unset, .unset, .unset] [(.long v58), (.int (1 : Int32)), (.ref b51), (.ref b51)])) rfl rfl (hb hby at_73) (by decide) (Nat.le_of_ble_eq_true rfl) rfl
  have VAb41_60 := VAb41_56.other W59 ne_b41_b51
  have Z59 : n0 ≤ h59.size := by rw [W59.size]; exact Z55
  refine own_st (T' := T59) (F' := (mkF m 74 #[.val (.long qa), .second, .val (.long qb), .second, .val (.long qc), .second, .val (.long qd), .second, .val (.long qe), .second, .val (.long qf), .second, .val (.long v37), .second, .val (.long v38), .second, .val (.long v39), .second, .val (.long v40), .second, .val (.ref b41), .unset, .unset, .unset, .unset, .unset, .unset, .unset, .unset] [(.ref b51)])) (st59) ?_
  refine own_st (T' := T59) (F' := (mkF m 76 #[.val (.long qa), .second, .val (.long qb), .second, .val (.long qc), .second, .val (.long qd), .second, .val (.long qe), .second, .val (.long qf), .second, .val (.long v37), .second, .val (.long v38), .second, .val (.long v39), .second, .val (.long v40), .second, .val (.ref b41), .val (.ref b51), .unset, .unset, .unset, .unset, .unset, .unset, .unset] [])) (fun _ kq => XS.astore X59.here hx rfl (hb hby at_74) rfl rfl (l' := #[.val (.long qa), .second, .val (.long qb), .second, .val (.long qc), .second, .val (.long qd), .second, .val (.long qe), .second, .val (.long qf), .second, .val (.long v37), .second, .val (.long v38), .second, .val (.long v39), .second, .val (.long v40), .second, .val (.ref b41), .val (.ref b51), .unset, .unset, .unset, .unset, .unset, .unset, .unset]) rfl kq) ?_
  refine own_st (T' := T59) (F' := (mkF m 77 #[.val (.long qa), .second, .val (.long qb), .second, .val (.long qc), .second, .val (.long qd), .second, .val (.long qe), .second, .val (.long qf), .second, .val (.long v37), .second, .val (.long v38), .second, .val (.long v39), .second, .val (.long v40), .second, .val (.ref b41), .val (.ref b51), .unset, .unset, .unset, .unset, .unset, .unset, .unset] [(.int (2 : Int32))])) (fun _ kq => XS.iconst X59.here hx rfl (hb hby at_76) kq) ?_
  obtain ⟨T61, h61, b61, X61, e61, E61, g61, gb61, Z61, V61, st61⟩ := own_newJ X59 hx hZ (hw _ (List.mem_of_getElem? (i := 0) rfl)) e59 Z59 (g := (mkF m 77 #[.val (.long qa), .second, .val (.long qb), .second, .val (.long qc), .second, .val (.long qd), .second, .val (.long qe), .second, .val (.long qf), .second, .val (.long v37), .second, .val (.long v38), .second, .val (.long v39), .second, .val (.long v40), .second, .val (.ref b41), .val (.ref b51), .unset, .unset, .unset, .unset, .unset, .unset, .unset] [(.int (2 : Int32))])) rfl rfl (hb hby at_77) (by decide) 2 2 rfl (by decide) (by decide) (by decide) (by decide)
  have VAb41_62 := VAb41_60.ext E61
  have VAb51_62 := V59.ext E61
  have ne_b41_b61 : b41 ≠ b61 := by rw [g61]; exact Nat.ne_of_lt VAb41_60.lt
  have ne_b51_b61 : b51 ≠ b61 := by rw [g61]; exact Nat.ne_of_lt V59.lt
  refine own_st (T' := T61) (F' := (mkF m 79 #[.val (.long qa), .second, .val (.long qb), .second, .val (.long qc), .second, .val (.long qd), .second, .val (.long qe), .second, .val (.long qf), .second, .val (.long v37), .second, .val (.long v38), .second, .val (.long v39), .second, .val (.long v40), .second, .val (.ref b41), .val (.ref b51), .unset, .unset, .unset, .unset, .unset, .unset, .unset] [(.ref b61)])) (st61) ?_
  refine own_st (T' := T61) (F' := (mkF m 80 #[.val (.long qa), .second, .val (.long qb), .second, .val (.long qc), .second, .val (.long qd), .second, .val (.long qe), .second, .val (.long qf), .second, .val (.long v37), .second, .val (.long v38), .second, .val (.long v39), .second, .val (.long v40), .second, .val (.ref b41), .val (.ref b51), .unset, .unset, .unset, .unset, .unset, .unset, .unset] [(.ref b61), (.ref b61)])) (fun _ kq => XS.dup X61.here hx rfl (hb hby at_79) rfl rfl kq) ?_
  refine own_st (T' := T61) (F' := (mkF m 81 #[.val (.long qa), .second, .val (.long qb), .second, .val (.long qc), .second, .val (.long qd), .second, .val (.long qe), .second, .val (.long qf), .second, .val (.long v37), .second, .val (.long v38), .second, .val (.long v39), .second, .val (.long v40), .second, .val (.ref b41), .val (.ref b51), .unset, .unset, .unset, .unset, .unset, .unset, .unset] [(.int (0 : Int32)), (.ref b61), (.ref b61)])) (fun _ kq => XS.iconst X61.here hx rfl (hb hby at_80) kq) ?_
  refine own_st (T' := T61) (F' := (mkF m 83 #[.val (.long qa), .second, .val (.long qb), .second, .val (.long qc), .second, .val (.long qd), .second, .val (.long qe), .second, .val (.long qf), .second, .val (.long v37), .second, .val (.long v38), .second, .val (.long v39), .second, .val (.long v40), .second, .val (.ref b41), .val (.ref b51), .unset, .unset, .unset, .unset, .unset, .unset, .unset] [(.long qc), (.int (0 : Int32)), (.ref b61), (.ref b61)])) (fun _ kq => XS.lload X61.here hx rfl (hb hby at_81) rfl kq) ?_
  refine own_st (T' := T61) (F' := (mkF m 85 #[.val (.long qa), .second, .val (.long qb), .second, .val (.long qc), .second, .val (.long qd), .second, .val (.long qe), .second, .val (.long qf), .second, .val (.long v37), .second, .val (.long v38), .second, .val (.long v39), .second, .val (.long v40), .second, .val (.ref b41), .val (.ref b51), .unset, .unset, .unset, .unset, .unset, .unset, .unset] [(.long qd), (.long qc), (.int (0 : Int32)), (.ref b61), (.ref b61)])) (fun _ kq => XS.lload X61.here hx rfl (hb hby at_83) rfl kq) ?_
  obtain ⟨T63, locs63, X63, e63, N63, st63⟩ := own_callP X61 hx hZ 3 hown (hw _ (List.mem_of_getElem? (i := 1) rfl)) (hw _ (List.mem_of_getElem? (i := 2) rfl)) (hw _ (List.mem_of_getElem? (i := 3) rfl)) (hw _ (List.mem_of_getElem? (i := 4) rfl)) (by decide) (rm1 l Z a0 hw [] qc qd h61 n0) (by decide) (by decide) rfl rfl e61 N59 (by decide) (by decide) (g := (mkF m 85 #[.val (.long qa), .second, .val (.long qb), .second, .val (.long qc), .second, .val (.long qd), .second, .val (.long qe), .second, .val (.long qf), .second, .val (.long v37), .second, .val (.long v38), .second, .val (.long v39), .second, .val (.long v40), .second, .val (.ref b41), .val (.ref b51), .unset, .unset, .unset, .unset, .unset, .unset, .unset] [(.long qd), (.long qc), (.int (0 : Int32)), (.ref b61), (.ref b61)])) rfl (by rw [hml]; rfl) (argsL := [(.long qc), (.long qd)]) (rest := [(.int (0 : Int32)), (.ref b61), (.ref b61)]) (lenOf pd0 rfl) rfl rfl (by show 2 * 0 + _ ≤ _; exact Nat.le_of_eq rfl) (hb hby at_85)
  refine own_st (T' := T63) (F' := (mkF m 88 #[.val (.long qa), .second, .val (.long qb), .second, .val (.long qc), .second, .val (.long qd), .second, .val (.long qe), .second, .val (.long qf), .second, .val (.long v37), .second, .val (.long v38), .second, .val (.long v39), .second, .val (.long v40), .second, .val (.ref b41), .val (.ref b51), .unset, .unset, .unset, .unset, .unset, .unset, .unset] [(.long (f1 qc qd)), (.int (0 : Int32)), (.ref b61), (.ref b61)])) (st63) ?_
  generalize hv64 : (f1 qc qd) = v64
  obtain ⟨T65, h65, locs65, X65, e65, N65, W65, V65, st65⟩ := own_stJ X63 hx hZ e63 N63 (ys := [v64, (0 : Int64)]) V61 gb61 (g := (mkF m 88 #[.val (.long qa), .second, .val (.long qb), .second, .val (.long qc), .second, .val (.long qd), .second, .val (.long qe), .second, .val (.long qf), .second, .val (.long v37), .second, .val (.long v38), .second, .val (.long v39), .second, .val (.long v40), .second, .val (.ref b41), .val (.ref b51), .unset, .unset, .unset, .unset, .unset, .unset, .unset] [(.long v64), (.int (0 : Int32)), (.ref b61), (.ref b61)])) rfl rfl (hb hby at_88) (by decide) (Nat.le_of_ble_eq_true rfl) rfl
  have VAb41_66 := VAb41_62.other W65 ne_b41_b61
  have VAb51_66 := VAb51_62.other W65 ne_b51_b61
  have Z65 : n0 ≤ h65.size := by rw [W65.size]; exact Z61
  refine own_st (T' := T65) (F' := (mkF m 89 #[.val (.long qa), .second, .val (.long qb), .second, .val (.long qc), .second, .val (.long qd), .second, .val (.long qe), .second, .val (.long qf), .second, .val (.long v37), .second, .val (.long v38), .second, .val (.long v39), .second, .val (.long v40), .second, .val (.ref b41), .val (.ref b51), .unset, .unset, .unset, .unset, .unset, .unset, .unset] [(.ref b61)])) (st65) ?_
  refine own_st (T' := T65) (F' := (mkF m 90 #[.val (.long qa), .second, .val (.long qb), .second, .val (.long qc), .second, .val (.long qd), .second, .val (.long qe), .second, .val (.long qf), .second, .val (.long v37), .second, .val (.long v38), .second, .val (.long v39), .second, .val (.long v40), .second, .val (.ref b41), .val (.ref b51), .unset, .unset, .unset, .unset, .unset, .unset, .unset] [(.ref b61), (.ref b61)])) (fun _ kq => XS.dup X65.here hx rfl (hb hby at_89) rfl rfl kq) ?_
  refine own_st (T' := T65) (F' := (mkF m 91 #[.val (.long qa), .second, .val (.long qb), .second, .val (.long qc), .second, .val (.long qd), .second, .val (.long qe), .second, .val (.long qf), .second, .val (.long v37), .second, .val (.long v38), .second, .val (.long v39), .second, .val (.long v40), .second, .val (.ref b41), .val (.ref b51), .unset, .unset, .unset, .unset, .unset, .unset, .unset] [(.int (1 : Int32)), (.ref b61), (.ref b61)])) (fun _ kq => XS.iconst X65.here hx rfl (hb hby at_90) kq) ?_
  refine own_st (T' := T65) (F' := (mkF m 93 #[.val (.long qa), .second, .val (.long qb), .second, .val (.long qc), .second, .val (.long qd), .second, .val (.long qe), .second, .val (.long qf), .second, .val (.long v37), .second, .val (.long v38), .second, .val (.long v39), .second, .val (.long v40), .second, .val (.ref b41), .val (.ref b51), .unset, .unset, .unset, .unset, .unset, .unset, .unset] [(.long v39), (.int (1 : Int32)), (.ref b61), (.ref b61)])) (fun _ kq => XS.lload X65.here hx rfl (hb hby at_91) rfl kq) ?_
  refine own_st (T' := T65) (F' := (mkF m 95 #[.val (.long qa), .second, .val (.long qb), .second, .val (.long qc), .second, .val (.long qd), .second, .val (.long qe), .second, .val (.long qf), .second, .val (.long v37), .second, .val (.long v38), .second, .val (.long v39), .second, .val (.long v40), .second, .val (.ref b41), .val (.ref b51), .unset, .unset, .unset, .unset, .unset, .unset, .unset] [(.long v40), (.long v39), (.int (1 : Int32)), (.ref b61), (.ref b61)])) (fun _ kq => XS.lload X65.here hx rfl (hb hby at_93) rfl kq) ?_
  obtain ⟨T67, locs67, X67, e67, N67, st67⟩ := own_callP X65 hx hZ 3 hown (hw _ (List.mem_of_getElem? (i := 1) rfl)) (hw _ (List.mem_of_getElem? (i := 2) rfl)) (hw _ (List.mem_of_getElem? (i := 3) rfl)) (hw _ (List.mem_of_getElem? (i := 4) rfl)) (by decide) (rm1 l Z a0 hw [] v39 v40 h65 n0) (by decide) (by decide) rfl rfl e65 N65 (by decide) (by decide) (g := (mkF m 95 #[.val (.long qa), .second, .val (.long qb), .second, .val (.long qc), .second, .val (.long qd), .second, .val (.long qe), .second, .val (.long qf), .second, .val (.long v37), .second, .val (.long v38), .second, .val (.long v39), .second, .val (.long v40), .second, .val (.ref b41), .val (.ref b51), .unset, .unset, .unset, .unset, .unset, .unset, .unset] [(.long v40), (.long v39), (.int (1 : Int32)), (.ref b61), (.ref b61)])) rfl (by rw [hml]; rfl) (argsL := [(.long v39), (.long v40)]) (rest := [(.int (1 : Int32)), (.ref b61), (.ref b61)]) (lenOf pd0 rfl) rfl rfl (by show 2 * 0 + _ ≤ _; exact Nat.le_of_eq rfl) (hb hby at_95)
  refine own_st (T' := T67) (F' := (mkF m 98 #[.val (.long qa), .second, .val (.long qb), .second, .val (.long qc), .second, .val (.long qd), .second, .val (.long qe), .second, .val (.long qf), .second, .val (.long v37), .second, .val (.long v38), .second, .val (.long v39), .second, .val (.long v40), .second, .val (.ref b41), .val (.ref b51), .unset, .unset, .unset, .unset, .unset, .unset, .unset] [(.long (f1 v39 v40)), (.int (1 : Int32)), (.ref b61), (.ref b61)])) (st67) ?_
  generalize hv68 : (f1 v39 v40) = v68
  obtain ⟨T69, h69, locs69, X69, e69, N69, W69, V69, st69⟩ := own_stJ X67 hx hZ e67 N67 (ys := [v64, v68]) V65 gb61 (g := (mkF m 98 #[.val (.long qa), .second, .val (.long qb), .second, .val (.long qc), .second, .val (.long qd), .second, .val (.long qe), .second, .val (.long qf), .second, .val (.long v37), .second, .val (.long v38), .second, .val (.long v39), .second, .val (.long v40), .second, .val (.ref b41), .val (.ref b51), .unset, .unset, .unset, .unset, .unset, .unset, .unset] [(.long v68), (.int (1 : Int32)), (.ref b61), (.ref b61)])) rfl rfl (hb hby at_98) (by decide) (Nat.le_of_ble_eq_true rfl) rfl
  have VAb41_70 := VAb41_66.other W69 ne_b41_b61
  have VAb51_70 := VAb51_66.other W69 ne_b51_b61
  have Z69 : n0 ≤ h69.size := by rw [W69.size]; exact Z65
  refine own_st (T' := T69) (F' := (mkF m 99 #[.val (.long qa), .second, .val (.long qb), .second, .val (.long qc), .second, .val (.long qd), .second, .val (.long qe), .second, .val (.long qf), .second, .val (.long v37), .second, .val (.long v38), .second, .val (.long v39), .second, .val (.long v40), .second, .val (.ref b41), .val (.ref b51), .unset, .unset, .unset, .unset, .unset, .unset, .unset] [(.ref b61)])) (st69) ?_
  refine own_st (T' := T69) (F' := (mkF m 101 #[.val (.long qa), .second, .val (.long qb), .second, .val (.long qc), .second, .val (.long qd), .second, .val (.long qe), .second, .val (.long qf), .second, .val (.long v37), .second, .val (.long v38), .second, .val (.long v39), .second, .val (.long v40), .second, .val (.ref b41), .val (.ref b51), .val (.ref b61), .unset, .unset, .unset, .unset, .unset, .unset] [])) (fun _ kq => XS.astore X69.here hx rfl (hb hby at_99) rfl rfl (l' := #[.val (.long qa), .second, .val (.long qb), .second, .val (.long qc), .second, .val (.long qd), .second, .val (.long qe), .second, .val (.long qf), .second, .val (.long v37), .second, .val (.long v38), .second, .val (.long v39), .second, .val (.long v40), .second, .val (.ref b41), .val (.ref b51), .val (.ref b61), .unset, .unset, .unset, .unset, .unset, .unset]) rfl kq) ?_
  refine own_st (T' := T69) (F' := (mkF m 102 #[.val (.long qa), .second, .val (.long qb), .second, .val (.long qc), .second, .val (.long qd), .second, .val (.long qe), .second, .val (.long qf), .second, .val (.long v37), .second, .val (.long v38), .second, .val (.long v39), .second, .val (.long v40), .second, .val (.ref b41), .val (.ref b51), .val (.ref b61), .unset, .unset, .unset, .unset, .unset, .unset] [(.int (2 : Int32))])) (fun _ kq => XS.iconst X69.here hx rfl (hb hby at_101) kq) ?_
  obtain ⟨T71, h71, b71, X71, e71, E71, g71, gb71, Z71, V71, st71⟩ := own_newJ X69 hx hZ (hw _ (List.mem_of_getElem? (i := 0) rfl)) e69 Z69 (g := (mkF m 102 #[.val (.long qa), .second, .val (.long qb), .second, .val (.long qc), .second, .val (.long qd), .second, .val (.long qe), .second, .val (.long qf), .second, .val (.long v37), .second, .val (.long v38), .second, .val (.long v39), .second, .val (.long v40), .second, .val (.ref b41), .val (.ref b51), .val (.ref b61), .unset, .unset, .unset, .unset, .unset, .unset] [(.int (2 : Int32))])) rfl rfl (hb hby at_102) (by decide) 2 2 rfl (by decide) (by decide) (by decide) (by decide)
  have VAb41_72 := VAb41_70.ext E71
  have VAb51_72 := VAb51_70.ext E71
  have VAb61_72 := V69.ext E71
  have ne_b41_b71 : b41 ≠ b71 := by rw [g71]; exact Nat.ne_of_lt VAb41_70.lt
  have ne_b51_b71 : b51 ≠ b71 := by rw [g71]; exact Nat.ne_of_lt VAb51_70.lt
  have ne_b61_b71 : b61 ≠ b71 := by rw [g71]; exact Nat.ne_of_lt V69.lt
  refine own_st (T' := T71) (F' := (mkF m 104 #[.val (.long qa), .second, .val (.long qb), .second, .val (.long qc), .second, .val (.long qd), .second, .val (.long qe), .second, .val (.long qf), .second, .val (.long v37), .second, .val (.long v38), .second, .val (.long v39), .second, .val (.long v40), .second, .val (.ref b41), .val (.ref b51), .val (.ref b61), .unset, .unset, .unset, .unset, .unset, .unset] [(.ref b71)])) (st71) ?_
  refine own_st (T' := T71) (F' := (mkF m 105 #[.val (.long qa), .second, .val (.long qb), .second, .val (.long qc), .second, .val (.long qd), .second, .val (.long qe), .second, .val (.long qf), .second, .val (.long v37), .second, .val (.long v38), .second, .val (.long v39), .second, .val (.long v40), .second, .val (.ref b41), .val (.ref b51), .val (.ref b61), .unset, .unset, .unset, .unset, .unset, .unset] [(.ref b71), (.ref b71)])) (fun _ kq => XS.dup X71.here hx rfl (hb hby at_104) rfl rfl kq) ?_
  refine own_st (T' := T71) (F' := (mkF m 106 #[.val (.long qa), .second, .val (.long qb), .second, .val (.long qc), .second, .val (.long qd), .second, .val (.long qe), .second, .val (.long qf), .second, .val (.long v37), .second, .val (.long v38), .second, .val (.long v39), .second, .val (.long v40), .second, .val (.ref b41), .val (.ref b51), .val (.ref b61), .unset, .unset, .unset, .unset, .unset, .unset] [(.int (0 : Int32)), (.ref b71), (.ref b71)])) (fun _ kq => XS.iconst X71.here hx rfl (hb hby at_105) kq) ?_
  refine own_st (T' := T71) (F' := (mkF m 108 #[.val (.long qa), .second, .val (.long qb), .second, .val (.long qc), .second, .val (.long qd), .second, .val (.long qe), .second, .val (.long qf), .second, .val (.long v37), .second, .val (.long v38), .second, .val (.long v39), .second, .val (.long v40), .second, .val (.ref b41), .val (.ref b51), .val (.ref b61), .unset, .unset, .unset, .unset, .unset, .unset] [(.long qc), (.int (0 : Int32)), (.ref b71), (.ref b71)])) (fun _ kq => XS.lload X71.here hx rfl (hb hby at_106) rfl kq) ?_
  refine own_st (T' := T71) (F' := (mkF m 110 #[.val (.long qa), .second, .val (.long qb), .second, .val (.long qc), .second, .val (.long qd), .second, .val (.long qe), .second, .val (.long qf), .second, .val (.long v37), .second, .val (.long v38), .second, .val (.long v39), .second, .val (.long v40), .second, .val (.ref b41), .val (.ref b51), .val (.ref b61), .unset, .unset, .unset, .unset, .unset, .unset] [(.long qd), (.long qc), (.int (0 : Int32)), (.ref b71), (.ref b71)])) (fun _ kq => XS.lload X71.here hx rfl (hb hby at_108) rfl kq) ?_
  obtain ⟨T73, locs73, X73, e73, N73, st73⟩ := own_callP X71 hx hZ 3 hown (hw _ (List.mem_of_getElem? (i := 5) rfl)) (hw _ (List.mem_of_getElem? (i := 6) rfl)) (hw _ (List.mem_of_getElem? (i := 3) rfl)) (hw _ (List.mem_of_getElem? (i := 7) rfl)) (by decide) (rm2 l Z a0 hw [] qc qd h71 n0) (by decide) (by decide) rfl rfl e71 N69 (by decide) (by decide) (g := (mkF m 110 #[.val (.long qa), .second, .val (.long qb), .second, .val (.long qc), .second, .val (.long qd), .second, .val (.long qe), .second, .val (.long qf), .second, .val (.long v37), .second, .val (.long v38), .second, .val (.long v39), .second, .val (.long v40), .second, .val (.ref b41), .val (.ref b51), .val (.ref b61), .unset, .unset, .unset, .unset, .unset, .unset] [(.long qd), (.long qc), (.int (0 : Int32)), (.ref b71), (.ref b71)])) rfl (by rw [hml]; rfl) (argsL := [(.long qc), (.long qd)]) (rest := [(.int (0 : Int32)), (.ref b71), (.ref b71)]) (lenOf pd0 rfl) rfl rfl (by show 2 * 0 + _ ≤ _; exact Nat.le_of_eq rfl) (hb hby at_110)
  refine own_st (T' := T73) (F' := (mkF m 113 #[.val (.long qa), .second, .val (.long qb), .second, .val (.long qc), .second, .val (.long qd), .second, .val (.long qe), .second, .val (.long qf), .second, .val (.long v37), .second, .val (.long v38), .second, .val (.long v39), .second, .val (.long v40), .second, .val (.ref b41), .val (.ref b51), .val (.ref b61), .unset, .unset, .unset, .unset, .unset, .unset] [(.long (f2 qc qd)), (.int (0 : Int32)), (.ref b71), (.ref b71)])) (st73) ?_
  generalize hv74 : (f2 qc qd) = v74
  obtain ⟨T75, h75, locs75, X75, e75, N75, W75, V75, st75⟩ := own_stJ X73 hx hZ e73 N73 (ys := [v74, (0 : Int64)]) V71 gb71 (g := (mkF m 113 #[.val (.long qa), .second, .val (.long qb), .second, .val (.long qc), .second, .val (.long qd), .second, .val (.long qe), .second, .val (.long qf), .second, .val (.long v37), .second, .val (.long v38), .second, .val (.long v39), .second, .val (.long v40), .second, .val (.ref b41), .val (.ref b51), .val (.ref b61), .unset, .unset, .unset, .unset, .unset, .unset] [(.long v74), (.int (0 : Int32)), (.ref b71), (.ref b71)])) rfl rfl (hb hby at_113) (by decide) (Nat.le_of_ble_eq_true rfl) rfl
  have VAb41_76 := VAb41_72.other W75 ne_b41_b71
  have VAb51_76 := VAb51_72.other W75 ne_b51_b71
  have VAb61_76 := VAb61_72.other W75 ne_b61_b71
  have Z75 : n0 ≤ h75.size := by rw [W75.size]; exact Z71
  refine own_st (T' := T75) (F' := (mkF m 114 #[.val (.long qa), .second, .val (.long qb), .second, .val (.long qc), .second, .val (.long qd), .second, .val (.long qe), .second, .val (.long qf), .second, .val (.long v37), .second, .val (.long v38), .second, .val (.long v39), .second, .val (.long v40), .second, .val (.ref b41), .val (.ref b51), .val (.ref b61), .unset, .unset, .unset, .unset, .unset, .unset] [(.ref b71)])) (st75) ?_
  refine own_st (T' := T75) (F' := (mkF m 115 #[.val (.long qa), .second, .val (.long qb), .second, .val (.long qc), .second, .val (.long qd), .second, .val (.long qe), .second, .val (.long qf), .second, .val (.long v37), .second, .val (.long v38), .second, .val (.long v39), .second, .val (.long v40), .second, .val (.ref b41), .val (.ref b51), .val (.ref b61), .unset, .unset, .unset, .unset, .unset, .unset] [(.ref b71), (.ref b71)])) (fun _ kq => XS.dup X75.here hx rfl (hb hby at_114) rfl rfl kq) ?_
  refine own_st (T' := T75) (F' := (mkF m 116 #[.val (.long qa), .second, .val (.long qb), .second, .val (.long qc), .second, .val (.long qd), .second, .val (.long qe), .second, .val (.long qf), .second, .val (.long v37), .second, .val (.long v38), .second, .val (.long v39), .second, .val (.long v40), .second, .val (.ref b41), .val (.ref b51), .val (.ref b61), .unset, .unset, .unset, .unset, .unset, .unset] [(.int (1 : Int32)), (.ref b71), (.ref b71)])) (fun _ kq => XS.iconst X75.here hx rfl (hb hby at_115) kq) ?_
  refine own_st (T' := T75) (F' := (mkF m 118 #[.val (.long qa), .second, .val (.long qb), .second, .val (.long qc), .second, .val (.long qd), .second, .val (.long qe), .second, .val (.long qf), .second, .val (.long v37), .second, .val (.long v38), .second, .val (.long v39), .second, .val (.long v40), .second, .val (.ref b41), .val (.ref b51), .val (.ref b61), .unset, .unset, .unset, .unset, .unset, .unset] [(.long v39), (.int (1 : Int32)), (.ref b71), (.ref b71)])) (fun _ kq => XS.lload X75.here hx rfl (hb hby at_116) rfl kq) ?_
  refine own_st (T' := T75) (F' := (mkF m 120 #[.val (.long qa), .second, .val (.long qb), .second, .val (.long qc), .second, .val (.long qd), .second, .val (.long qe), .second, .val (.long qf), .second, .val (.long v37), .second, .val (.long v38), .second, .val (.long v39), .second, .val (.long v40), .second, .val (.ref b41), .val (.ref b51), .val (.ref b61), .unset, .unset, .unset, .unset, .unset, .unset] [(.long v40), (.long v39), (.int (1 : Int32)), (.ref b71), (.ref b71)])) (fun _ kq => XS.lload X75.here hx rfl (hb hby at_118) rfl kq) ?_
  obtain ⟨T77, locs77, X77, e77, N77, st77⟩ := own_callP X75 hx hZ 3 hown (hw _ (List.mem_of_getElem? (i := 5) rfl)) (hw _ (List.mem_of_getElem? (i := 6) rfl)) (hw _ (List.mem_of_getElem? (i := 3) rfl)) (hw _ (List.mem_of_getElem? (i := 7) rfl)) (by decide) (rm2 l Z a0 hw [] v39 v40 h75 n0) (by decide) (by decide) rfl rfl e75 N75 (by decide) (by decide) (g := (mkF m 120 #[.val (.long qa), .second, .val (.long qb), .second, .val (.long qc), .second, .val (.long qd), .second, .val (.long qe), .second, .val (.long qf), .second, .val (.long v37), .second, .val (.long v38), .second, .val (.long v39), .second, .val (.long v40), .second, .val (.ref b41), .val (.ref b51), .val (.ref b61), .unset, .unset, .unset, .unset, .unset, .unset] [(.long v40), (.long v39), (.int (1 : Int32)), (.ref b71), (.ref b71)])) rfl (by rw [hml]; rfl) (argsL := [(.long v39), (.long v40)]) (rest := [(.int (1 : Int32)), (.ref b71), (.ref b71)]) (lenOf pd0 rfl) rfl rfl (by show 2 * 0 + _ ≤ _; exact Nat.le_of_eq rfl) (hb hby at_120)
  refine own_st (T' := T77) (F' := (mkF m 123 #[.val (.long qa), .second, .val (.long qb), .second, .val (.long qc), .second, .val (.long qd), .second, .val (.long qe), .second, .val (.long qf), .second, .val (.long v37), .second, .val (.long v38), .second, .val (.long v39), .second, .val (.long v40), .second, .val (.ref b41), .val (.ref b51), .val (.ref b61), .unset, .unset, .unset, .unset, .unset, .unset] [(.long (f2 v39 v40)), (.int (1 : Int32)), (.ref b71), (.ref b71)])) (st77) ?_
  generalize hv78 : (f2 v39 v40) = v78
  obtain ⟨T79, h79, locs79, X79, e79, N79, W79, V79, st79⟩ := own_stJ X77 hx hZ e77 N77 (ys := [v74, v78]) V75 gb71 (g := (mkF m 123 #[.val (.long qa), .second, .val (.long qb), .second, .val (.long qc), .second, .val (.long qd), .second, .val (.long qe), .second, .val (.long qf), .second, .val (.long v37), .second, .val (.long v38), .second, .val (.long v39), .second, .val (.long v40), .second, .val (.ref b41), .val (.ref b51), .val (.ref b61), .unset, .unset, .unset, .unset, .unset, .unset] [(.long v78), (.int (1 : Int32)), (.ref b71), (.ref b71)])) rfl rfl (hb hby at_123) (by decide) (Nat.le_of_ble_eq_true rfl) rfl
  have VAb41_80 := VAb41_76.other W79 ne_b41_b71
  have VAb51_80 := VAb51_76.other W79 ne_b51_b71
  have VAb61_80 := VAb61_76.other W79 ne_b61_b71
  have Z79 : n0 ≤ h79.size := by rw [W79.size]; exact Z75
  refine own_st (T' := T79) (F' := (mkF m 124 #[.val (.long qa), .second, .val (.long qb), .second, .val (.long qc), .second, .val (.long qd), .second, .val (.long qe), .second, .val (.long qf), .second, .val (.long v37), .second, .val (.long v38), .second, .val (.long v39), .second, .val (.long v40), .second, .val (.ref b41), .val (.ref b51), .val (.ref b61), .unset, .unset, .unset, .unset, .unset, .unset] [(.ref b71)])) (st79) ?_
  refine own_st (T' := T79) (F' := (mkF m 126 #[.val (.long qa), .second, .val (.long qb), .second, .val (.long qc), .second, .val (.long qd), .second, .val (.long qe), .second, .val (.long qf), .second, .val (.long v37), .second, .val (.long v38), .second, .val (.long v39), .second, .val (.long v40), .second, .val (.ref b41), .val (.ref b51), .val (.ref b61), .val (.ref b71), .unset, .unset, .unset, .unset, .unset] [])) (fun _ kq => XS.astore X79.here hx rfl (hb hby at_124) rfl rfl (l' := #[.val (.long qa), .second, .val (.long qb), .second, .val (.long qc), .second, .val (.long qd), .second, .val (.long qe), .second, .val (.long qf), .second, .val (.long v37), .second, .val (.long v38), .second, .val (.long v39), .second, .val (.long v40), .second, .val (.ref b41), .val (.ref b51), .val (.ref b61), .val (.ref b71), .unset, .unset, .unset, .unset, .unset]) rfl kq) ?_
  have J175 : ∀ (v : Int32) (T : State) (locs : List Loc) (X : Stand p l e room_1 s m #[(.long qa), (.long qb), (.long qc), (.long qd), (.long qe), (.long qf)] below meth c T locs 4 8) (eT : T.heap = h79) (N : Fr n0 locs) (hv : v = (if (f3 v44 v54 v64 v74) = (0 : Int32) then (0 : Int32) else (if (f3 v48 v58 v68 v78) = (0 : Int32) then (0 : Int32) else (1 : Int32)))), own_Ends p e below s room_1.cells room_1.slots (fun v h L => v = some (.int 1) ∧ Fr n0 L) T (mkF m 175 #[.val (.long qa), .second, .val (.long qb), .second, .val (.long qc), .second, .val (.long qd), .second, .val (.long qe), .second, .val (.long qf), .second, .val (.long v37), .second, .val (.long v38), .second, .val (.long v39), .second, .val (.long v40), .second, .val (.ref b41), .val (.ref b51), .val (.ref b61), .val (.ref b71), .unset, .unset, .unset, .unset, .unset] [(.int v)]) := by
    intro v T locs X eT N hv
    have hLaw := own_law hv44 hv54 hv64 hv74 hv48 hv58 hv68 hv78 hv
    refine own_st (T' := T) (F' := (mkF m 177 #[.val (.long qa), .second, .val (.long qb), .second, .val (.long qc), .second, .val (.long qd), .second, .val (.long qe), .second, .val (.long qf), .second, .val (.long v37), .second, .val (.long v38), .second, .val (.long v39), .second, .val (.long v40), .second, .val (.ref b41), .val (.ref b51), .val (.ref b61), .val (.ref b71), .val (.int v), .unset, .unset, .unset, .unset] [])) (fun _ kq => XS.istore X.here hx rfl (hb hby at_175) rfl (l' := #[.val (.long qa), .second, .val (.long qb), .second, .val (.long qc), .second, .val (.long qd), .second, .val (.long qe), .second, .val (.long qf), .second, .val (.long v37), .second, .val (.long v38), .second, .val (.long v39), .second, .val (.long v40), .second, .val (.ref b41), .val (.ref b51), .val (.ref b61), .val (.ref b71), .val (.int v), .unset, .unset, .unset, .unset]) rfl kq) ?_
    obtain ⟨T81, h81, X81, e81, E81, A81, D81, -, st81⟩ := newO X hx hZ hown (hw _ (List.mem_of_getElem? (i := 12) rfl)) (hw _ (List.mem_of_getElem? (i := 13) rfl)) (hw _ (List.mem_of_getElem? (i := 14) rfl)) eT (g := (mkF m 177 #[.val (.long qa), .second, .val (.long qb), .second, .val (.long qc), .second, .val (.long qd), .second, .val (.long qe), .second, .val (.long qf), .second, .val (.long v37), .second, .val (.long v38), .second, .val (.long v39), .second, .val (.long v40), .second, .val (.ref b41), .val (.ref b51), .val (.ref b61), .val (.ref b71), .val (.int v), .unset, .unset, .unset, .unset] [])) rfl (hb hby at_177) (by decide) (by decide)
    obtain ⟨b81, g81⟩ : ∃ z, z = h79.size := ⟨_, rfl⟩
    rw [← g81] at A81 D81 st81
    have VAb41_82 := VAb41_80.ext E81
    have VAb51_82 := VAb51_80.ext E81
    have VAb61_82 := VAb61_80.ext E81
    have VAb71_82 := V79.ext E81
    have ne_b41_b81 : b41 ≠ b81 := by rw [g81]; exact Nat.ne_of_lt VAb41_80.lt
    have ne_b51_b81 : b51 ≠ b81 := by rw [g81]; exact Nat.ne_of_lt VAb51_80.lt
    have ne_b61_b81 : b61 ≠ b81 := by rw [g81]; exact Nat.ne_of_lt VAb61_80.lt
    have ne_b71_b81 : b71 ≠ b81 := by rw [g81]; exact Nat.ne_of_lt V79.lt
    have Fb81_low : Fld Z h81 b81 "com/example/forest_grammar/forestgrammar/languages/Family$Box" "low" "[J" .null := D81 (Or.inr (hw _ (List.mem_of_getElem? (i := 22) rfl))) (ty := (.array .long)) (by decide)
    have Fb81_high : Fld Z h81 b81 "com/example/forest_grammar/forestgrammar/languages/Family$Box" "high" "[J" .null := D81 (Or.inr (hw _ (List.mem_of_getElem? (i := 24) rfl))) (ty := (.array .long)) (by decide)
    have gb81 : n0 ≤ b81 := Nat.le_trans Z79 (Nat.le_of_eq g81.symm)
    have Z81 : n0 ≤ h81.size := Nat.le_trans Z79 E81.1
    refine own_st (T' := T81) (F' := (mkF m 180 #[.val (.long qa), .second, .val (.long qb), .second, .val (.long qc), .second, .val (.long qd), .second, .val (.long qe), .second, .val (.long qf), .second, .val (.long v37), .second, .val (.long v38), .second, .val (.long v39), .second, .val (.long v40), .second, .val (.ref b41), .val (.ref b51), .val (.ref b61), .val (.ref b71), .val (.int v), .unset, .unset, .unset, .unset] [(.ref b81)])) (st81) ?_
    refine own_st (T' := T81) (F' := (mkF m 181 #[.val (.long qa), .second, .val (.long qb), .second, .val (.long qc), .second, .val (.long qd), .second, .val (.long qe), .second, .val (.long qf), .second, .val (.long v37), .second, .val (.long v38), .second, .val (.long v39), .second, .val (.long v40), .second, .val (.ref b41), .val (.ref b51), .val (.ref b61), .val (.ref b71), .val (.int v), .unset, .unset, .unset, .unset] [(.ref b81), (.ref b81)])) (fun _ kq => XS.dup X81.here hx rfl (hb hby at_180) rfl rfl kq) ?_
    refine own_st (T' := T81) (F' := (mkF m 183 #[.val (.long qa), .second, .val (.long qb), .second, .val (.long qc), .second, .val (.long qd), .second, .val (.long qe), .second, .val (.long qf), .second, .val (.long v37), .second, .val (.long v38), .second, .val (.long v39), .second, .val (.long v40), .second, .val (.ref b41), .val (.ref b51), .val (.ref b61), .val (.ref b71), .val (.int v), .unset, .unset, .unset, .unset] [(.ref b41), (.ref b81), (.ref b81)])) (fun _ kq => XS.aload X81.here hx rfl (hb hby at_181) rfl rfl kq) ?_
    refine own_st (T' := T81) (F' := (mkF m 185 #[.val (.long qa), .second, .val (.long qb), .second, .val (.long qc), .second, .val (.long qd), .second, .val (.long qe), .second, .val (.long qf), .second, .val (.long v37), .second, .val (.long v38), .second, .val (.long v39), .second, .val (.long v40), .second, .val (.ref b41), .val (.ref b51), .val (.ref b61), .val (.ref b71), .val (.int v), .unset, .unset, .unset, .unset] [(.ref b51), (.ref b41), (.ref b81), (.ref b81)])) (fun _ kq => XS.aload X81.here hx rfl (hb hby at_183) rfl rfl kq) ?_
    obtain ⟨v83, T83, L83, X83, hQ83, st83⟩ := own_callI X81 hx hZ 1 rfl hown (hw _ (List.mem_of_getElem? (i := 15) rfl)) (hw _ (List.mem_of_getElem? (i := 16) rfl)) (hw _ (List.mem_of_getElem? (i := 14) rfl)) (hw _ (List.mem_of_getElem? (i := 17) rfl)) (by decide) (rm4 l Z a0 hw [] b81 b41 b51 h81 n0 Z81 gb81 A81 Fb81_low Fb81_high) (by decide) (by decide) e81 (by decide) (by decide) (g := (mkF m 185 #[.val (.long qa), .second, .val (.long qb), .second, .val (.long qc), .second, .val (.long qd), .second, .val (.long qe), .second, .val (.long qf), .second, .val (.long v37), .second, .val (.long v38), .second, .val (.long v39), .second, .val (.long v40), .second, .val (.ref b41), .val (.ref b51), .val (.ref b61), .val (.ref b71), .val (.int v), .unset, .unset, .unset, .unset] [(.ref b51), (.ref b41), (.ref b81), (.ref b81)])) rfl (by rw [hml]; rfl) (argsL := [(.ref b41), (.ref b51)]) (rest := [(.ref b81)]) (lenOf pd1 rfl) rfl rfl (by show 2 * 0 + _ ≤ _; exact Nat.le_of_eq rfl) (hb hby at_185)
    obtain ⟨rfl, NQ83, K83, E83, Fl83, Fh83⟩ := hQ83
    have N83 := Fr.app N NQ83
    have Z83 := Nat.le_trans Z81 K83.1
    have VAb41_83 := VAb41_82.keep K83 (ninS ne_b41_b81 nin0)
    have VAb51_83 := VAb51_82.keep K83 (ninS ne_b51_b81 nin0)
    have VAb61_83 := VAb61_82.keep K83 (ninS ne_b61_b81 nin0)
    have VAb71_83 := VAb71_82.keep K83 (ninS ne_b71_b81 nin0)
    refine own_st (T' := T83) (F' := (mkF m 188 #[.val (.long qa), .second, .val (.long qb), .second, .val (.long qc), .second, .val (.long qd), .second, .val (.long qe), .second, .val (.long qf), .second, .val (.long v37), .second, .val (.long v38), .second, .val (.long v39), .second, .val (.long v40), .second, .val (.ref b41), .val (.ref b51), .val (.ref b61), .val (.ref b71), .val (.int v), .unset, .unset, .unset, .unset] [(.ref b81)])) (st83) ?_
    refine own_st (T' := T83) (F' := (mkF m 190 #[.val (.long qa), .second, .val (.long qb), .second, .val (.long qc), .second, .val (.long qd), .second, .val (.long qe), .second, .val (.long qf), .second, .val (.long v37), .second, .val (.long v38), .second, .val (.long v39), .second, .val (.long v40), .second, .val (.ref b41), .val (.ref b51), .val (.ref b61), .val (.ref b71), .val (.int v), .val (.ref b81), .unset, .unset, .unset] [])) (fun _ kq => XS.astore X83.here hx rfl (hb hby at_188) rfl rfl (l' := #[.val (.long qa), .second, .val (.long qb), .second, .val (.long qc), .second, .val (.long qd), .second, .val (.long qe), .second, .val (.long qf), .second, .val (.long v37), .second, .val (.long v38), .second, .val (.long v39), .second, .val (.long v40), .second, .val (.ref b41), .val (.ref b51), .val (.ref b61), .val (.ref b71), .val (.int v), .val (.ref b81), .unset, .unset, .unset]) rfl kq) ?_
    obtain ⟨T84, h84, X84, e84, E84, A84, D84, -, st84⟩ := newO X83 hx hZ hown (hw _ (List.mem_of_getElem? (i := 12) rfl)) (hw _ (List.mem_of_getElem? (i := 13) rfl)) (hw _ (List.mem_of_getElem? (i := 14) rfl)) rfl (g := (mkF m 190 #[.val (.long qa), .second, .val (.long qb), .second, .val (.long qc), .second, .val (.long qd), .second, .val (.long qe), .second, .val (.long qf), .second, .val (.long v37), .second, .val (.long v38), .second, .val (.long v39), .second, .val (.long v40), .second, .val (.ref b41), .val (.ref b51), .val (.ref b61), .val (.ref b71), .val (.int v), .val (.ref b81), .unset, .unset, .unset] [])) rfl (hb hby at_190) (by decide) (by decide)
    obtain ⟨b84, g84⟩ : ∃ z, z = T83.heap.size := ⟨_, rfl⟩
    rw [← g84] at A84 D84 st84
    have VAb41_85 := VAb41_83.ext E84
    have VAb51_85 := VAb51_83.ext E84
    have VAb61_85 := VAb61_83.ext E84
    have VAb71_85 := VAb71_83.ext E84
    have FAb81_low_85 := Fl83.ext E84
    have FAb81_high_85 := Fh83.ext E84
    have EAb81_85 := Exa.ext E84 E83
    have ne_b41_b84 : b41 ≠ b84 := by rw [g84]; exact Nat.ne_of_lt VAb41_83.lt
    have ne_b51_b84 : b51 ≠ b84 := by rw [g84]; exact Nat.ne_of_lt VAb51_83.lt
    have ne_b61_b84 : b61 ≠ b84 := by rw [g84]; exact Nat.ne_of_lt VAb61_83.lt
    have ne_b71_b84 : b71 ≠ b84 := by rw [g84]; exact Nat.ne_of_lt VAb71_83.lt
    have ne_b81_b84 : b81 ≠ b84 := by rw [g84]; exact Nat.ne_of_lt E83.lt
    have Fb84_low : Fld Z h84 b84 "com/example/forest_grammar/forestgrammar/languages/Family$Box" "low" "[J" .null := D84 (Or.inr (hw _ (List.mem_of_getElem? (i := 22) rfl))) (ty := (.array .long)) (by decide)
    have Fb84_high : Fld Z h84 b84 "com/example/forest_grammar/forestgrammar/languages/Family$Box" "high" "[J" .null := D84 (Or.inr (hw _ (List.mem_of_getElem? (i := 24) rfl))) (ty := (.array .long)) (by decide)
    have gb84 : n0 ≤ b84 := Nat.le_trans Z83 (Nat.le_of_eq g84.symm)
    have Z84 : n0 ≤ h84.size := Nat.le_trans Z83 E84.1
    refine own_st (T' := T84) (F' := (mkF m 193 #[.val (.long qa), .second, .val (.long qb), .second, .val (.long qc), .second, .val (.long qd), .second, .val (.long qe), .second, .val (.long qf), .second, .val (.long v37), .second, .val (.long v38), .second, .val (.long v39), .second, .val (.long v40), .second, .val (.ref b41), .val (.ref b51), .val (.ref b61), .val (.ref b71), .val (.int v), .val (.ref b81), .unset, .unset, .unset] [(.ref b84)])) (st84) ?_
    refine own_st (T' := T84) (F' := (mkF m 194 #[.val (.long qa), .second, .val (.long qb), .second, .val (.long qc), .second, .val (.long qd), .second, .val (.long qe), .second, .val (.long qf), .second, .val (.long v37), .second, .val (.long v38), .second, .val (.long v39), .second, .val (.long v40), .second, .val (.ref b41), .val (.ref b51), .val (.ref b61), .val (.ref b71), .val (.int v), .val (.ref b81), .unset, .unset, .unset] [(.ref b84), (.ref b84)])) (fun _ kq => XS.dup X84.here hx rfl (hb hby at_193) rfl rfl kq) ?_
    refine own_st (T' := T84) (F' := (mkF m 196 #[.val (.long qa), .second, .val (.long qb), .second, .val (.long qc), .second, .val (.long qd), .second, .val (.long qe), .second, .val (.long qf), .second, .val (.long v37), .second, .val (.long v38), .second, .val (.long v39), .second, .val (.long v40), .second, .val (.ref b41), .val (.ref b51), .val (.ref b61), .val (.ref b71), .val (.int v), .val (.ref b81), .unset, .unset, .unset] [(.ref b61), (.ref b84), (.ref b84)])) (fun _ kq => XS.aload X84.here hx rfl (hb hby at_194) rfl rfl kq) ?_
    refine own_st (T' := T84) (F' := (mkF m 198 #[.val (.long qa), .second, .val (.long qb), .second, .val (.long qc), .second, .val (.long qd), .second, .val (.long qe), .second, .val (.long qf), .second, .val (.long v37), .second, .val (.long v38), .second, .val (.long v39), .second, .val (.long v40), .second, .val (.ref b41), .val (.ref b51), .val (.ref b61), .val (.ref b71), .val (.int v), .val (.ref b81), .unset, .unset, .unset] [(.ref b71), (.ref b61), (.ref b84), (.ref b84)])) (fun _ kq => XS.aload X84.here hx rfl (hb hby at_196) rfl rfl kq) ?_
    obtain ⟨v86, T86, L86, X86, hQ86, st86⟩ := own_callI X84 hx hZ 1 rfl hown (hw _ (List.mem_of_getElem? (i := 15) rfl)) (hw _ (List.mem_of_getElem? (i := 16) rfl)) (hw _ (List.mem_of_getElem? (i := 14) rfl)) (hw _ (List.mem_of_getElem? (i := 17) rfl)) (by decide) (rm4 l Z a0 hw [] b84 b61 b71 h84 n0 Z84 gb84 A84 Fb84_low Fb84_high) (by decide) (by decide) e84 (by decide) (by decide) (g := (mkF m 198 #[.val (.long qa), .second, .val (.long qb), .second, .val (.long qc), .second, .val (.long qd), .second, .val (.long qe), .second, .val (.long qf), .second, .val (.long v37), .second, .val (.long v38), .second, .val (.long v39), .second, .val (.long v40), .second, .val (.ref b41), .val (.ref b51), .val (.ref b61), .val (.ref b71), .val (.int v), .val (.ref b81), .unset, .unset, .unset] [(.ref b71), (.ref b61), (.ref b84), (.ref b84)])) rfl (by rw [hml]; rfl) (argsL := [(.ref b61), (.ref b71)]) (rest := [(.ref b84)]) (lenOf pd1 rfl) rfl rfl (by show 2 * 0 + _ ≤ _; exact Nat.le_of_eq rfl) (hb hby at_198)
    obtain ⟨rfl, NQ86, K86, E86, Fl86, Fh86⟩ := hQ86
    have N86 := Fr.app N83 NQ86
    have Z86 := Nat.le_trans Z84 K86.1
    have VAb41_86 := VAb41_85.keep K86 (ninS ne_b41_b84 nin0)
    have VAb51_86 := VAb51_85.keep K86 (ninS ne_b51_b84 nin0)
    have VAb61_86 := VAb61_85.keep K86 (ninS ne_b61_b84 nin0)
    have VAb71_86 := VAb71_85.keep K86 (ninS ne_b71_b84 nin0)
    have FAb81_low_86 := FAb81_low_85.keep K86 (ninS ne_b81_b84 nin0)
    have FAb81_high_86 := FAb81_high_85.keep K86 (ninS ne_b81_b84 nin0)
    have EAb81_86 := EAb81_85.keep K86
    refine own_st (T' := T86) (F' := (mkF m 201 #[.val (.long qa), .second, .val (.long qb), .second, .val (.long qc), .second, .val (.long qd), .second, .val (.long qe), .second, .val (.long qf), .second, .val (.long v37), .second, .val (.long v38), .second, .val (.long v39), .second, .val (.long v40), .second, .val (.ref b41), .val (.ref b51), .val (.ref b61), .val (.ref b71), .val (.int v), .val (.ref b81), .unset, .unset, .unset] [(.ref b84)])) (st86) ?_
    refine own_st (T' := T86) (F' := (mkF m 203 #[.val (.long qa), .second, .val (.long qb), .second, .val (.long qc), .second, .val (.long qd), .second, .val (.long qe), .second, .val (.long qf), .second, .val (.long v37), .second, .val (.long v38), .second, .val (.long v39), .second, .val (.long v40), .second, .val (.ref b41), .val (.ref b51), .val (.ref b61), .val (.ref b71), .val (.int v), .val (.ref b81), .val (.ref b84), .unset, .unset] [])) (fun _ kq => XS.astore X86.here hx rfl (hb hby at_201) rfl rfl (l' := #[.val (.long qa), .second, .val (.long qb), .second, .val (.long qc), .second, .val (.long qd), .second, .val (.long qe), .second, .val (.long qf), .second, .val (.long v37), .second, .val (.long v38), .second, .val (.long v39), .second, .val (.long v40), .second, .val (.ref b41), .val (.ref b51), .val (.ref b61), .val (.ref b71), .val (.int v), .val (.ref b81), .val (.ref b84), .unset, .unset]) rfl kq) ?_
    refine own_st (T' := T86) (F' := (mkF m 205 #[.val (.long qa), .second, .val (.long qb), .second, .val (.long qc), .second, .val (.long qd), .second, .val (.long qe), .second, .val (.long qf), .second, .val (.long v37), .second, .val (.long v38), .second, .val (.long v39), .second, .val (.long v40), .second, .val (.ref b41), .val (.ref b51), .val (.ref b61), .val (.ref b71), .val (.int v), .val (.ref b81), .val (.ref b84), .unset, .unset] [(.ref b81)])) (fun _ kq => XS.aload X86.here hx rfl (hb hby at_203) rfl rfl kq) ?_
    refine own_st (T' := T86) (F' := (mkF m 207 #[.val (.long qa), .second, .val (.long qb), .second, .val (.long qc), .second, .val (.long qd), .second, .val (.long qe), .second, .val (.long qf), .second, .val (.long v37), .second, .val (.long v38), .second, .val (.long v39), .second, .val (.long v40), .second, .val (.ref b41), .val (.ref b51), .val (.ref b61), .val (.ref b71), .val (.int v), .val (.ref b81), .val (.ref b84), .unset, .unset] [(.ref b84), (.ref b81)])) (fun _ kq => XS.aload X86.here hx rfl (hb hby at_205) rfl rfl kq) ?_
    obtain ⟨v87, T87, L87, X87, hQ87, st87⟩ := own_callV X86 hx hZ 0 hown (hw _ (List.mem_of_getElem? (i := 25) rfl)) (hw _ (List.mem_of_getElem? (i := 26) rfl)) (hw _ (List.mem_of_getElem? (i := 28) rfl)) (hw _ (List.mem_of_getElem? (i := 27) rfl)) (hw _ (List.mem_of_getElem? (i := 14) rfl)) (hw _ (List.mem_of_getElem? (i := 29) rfl)) (by decide) (rm6 l Z a0 hw [] b81 b84 b41 b51 b61 b71 v44 v48 v54 v58 v64 v68 v74 v78 T86.heap n0 FAb81_low_86 VAb41_86 FAb81_high_86 VAb51_86 Fl86 VAb61_86 Fh86 VAb71_86) (by decide) (by decide) rfl EAb81_86 (by decide) (by decide) (g := (mkF m 207 #[.val (.long qa), .second, .val (.long qb), .second, .val (.long qc), .second, .val (.long qd), .second, .val (.long qe), .second, .val (.long qf), .second, .val (.long v37), .second, .val (.long v38), .second, .val (.long v39), .second, .val (.long v40), .second, .val (.ref b41), .val (.ref b51), .val (.ref b61), .val (.ref b71), .val (.int v), .val (.ref b81), .val (.ref b84), .unset, .unset] [(.ref b84), (.ref b81)])) rfl (by rw [hml]; rfl) (argsL := [(.ref b84)]) (rest := []) (lenOf pd2 rfl) rfl rfl (by show 2 * 0 + _ ≤ _; exact Nat.le_of_eq rfl) (hb hby at_207)
    obtain ⟨rfl, NQ87, e87⟩ := hQ87
    have N87 := Fr.app N86 NQ87
    refine own_st (T' := T87) (F' := (mkF m 210 #[.val (.long qa), .second, .val (.long qb), .second, .val (.long qc), .second, .val (.long qd), .second, .val (.long qe), .second, .val (.long qf), .second, .val (.long v37), .second, .val (.long v38), .second, .val (.long v39), .second, .val (.long v40), .second, .val (.ref b41), .val (.ref b51), .val (.ref b61), .val (.ref b71), .val (.int v), .val (.ref b81), .val (.ref b84), .unset, .unset] [(.int (f6 v44 v48 v54 v58 v64 v68 v74 v78))])) (st87) ?_
    refine own_st (T' := T87) (F' := (mkF m 212 #[.val (.long qa), .second, .val (.long qb), .second, .val (.long qc), .second, .val (.long qd), .second, .val (.long qe), .second, .val (.long qf), .second, .val (.long v37), .second, .val (.long v38), .second, .val (.long v39), .second, .val (.long v40), .second, .val (.ref b41), .val (.ref b51), .val (.ref b61), .val (.ref b71), .val (.int v), .val (.ref b81), .val (.ref b84), .val (.int (f6 v44 v48 v54 v58 v64 v68 v74 v78)), .unset] [])) (fun _ kq => XS.istore X87.here hx rfl (hb hby at_210) rfl (l' := #[.val (.long qa), .second, .val (.long qb), .second, .val (.long qc), .second, .val (.long qd), .second, .val (.long qe), .second, .val (.long qf), .second, .val (.long v37), .second, .val (.long v38), .second, .val (.long v39), .second, .val (.long v40), .second, .val (.ref b41), .val (.ref b51), .val (.ref b61), .val (.ref b71), .val (.int v), .val (.ref b81), .val (.ref b84), .val (.int (f6 v44 v48 v54 v58 v64 v68 v74 v78)), .unset]) rfl kq) ?_
    refine own_st (T' := T87) (F' := (mkF m 214 #[.val (.long qa), .second, .val (.long qb), .second, .val (.long qc), .second, .val (.long qd), .second, .val (.long qe), .second, .val (.long qf), .second, .val (.long v37), .second, .val (.long v38), .second, .val (.long v39), .second, .val (.long v40), .second, .val (.ref b41), .val (.ref b51), .val (.ref b61), .val (.ref b71), .val (.int v), .val (.ref b81), .val (.ref b84), .val (.int (f6 v44 v48 v54 v58 v64 v68 v74 v78)), .unset] [(.ref b84)])) (fun _ kq => XS.aload X87.here hx rfl (hb hby at_212) rfl rfl kq) ?_
    refine own_st (T' := T87) (F' := (mkF m 216 #[.val (.long qa), .second, .val (.long qb), .second, .val (.long qc), .second, .val (.long qd), .second, .val (.long qe), .second, .val (.long qf), .second, .val (.long v37), .second, .val (.long v38), .second, .val (.long v39), .second, .val (.long v40), .second, .val (.ref b41), .val (.ref b51), .val (.ref b61), .val (.ref b71), .val (.int v), .val (.ref b81), .val (.ref b84), .val (.int (f6 v44 v48 v54 v58 v64 v68 v74 v78)), .unset] [(.ref b81), (.ref b84)])) (fun _ kq => XS.aload X87.here hx rfl (hb hby at_214) rfl rfl kq) ?_
    obtain ⟨v88, T88, L88, X88, hQ88, st88⟩ := own_callV X87 hx hZ 0 hown (hw _ (List.mem_of_getElem? (i := 25) rfl)) (hw _ (List.mem_of_getElem? (i := 26) rfl)) (hw _ (List.mem_of_getElem? (i := 28) rfl)) (hw _ (List.mem_of_getElem? (i := 27) rfl)) (hw _ (List.mem_of_getElem? (i := 14) rfl)) (hw _ (List.mem_of_getElem? (i := 29) rfl)) (by decide) (rm6 l Z a0 hw [] b84 b81 b61 b71 b41 b51 v64 v68 v74 v78 v44 v48 v54 v58 T86.heap n0 Fl86 VAb61_86 Fh86 VAb71_86 FAb81_low_86 VAb41_86 FAb81_high_86 VAb51_86) (by decide) (by decide) e87 E86 (by decide) (by decide) (g := (mkF m 216 #[.val (.long qa), .second, .val (.long qb), .second, .val (.long qc), .second, .val (.long qd), .second, .val (.long qe), .second, .val (.long qf), .second, .val (.long v37), .second, .val (.long v38), .second, .val (.long v39), .second, .val (.long v40), .second, .val (.ref b41), .val (.ref b51), .val (.ref b61), .val (.ref b71), .val (.int v), .val (.ref b81), .val (.ref b84), .val (.int (f6 v44 v48 v54 v58 v64 v68 v74 v78)), .unset] [(.ref b81), (.ref b84)])) rfl (by rw [hml]; rfl) (argsL := [(.ref b81)]) (rest := []) (lenOf pd2 rfl) rfl rfl (by show 2 * 0 + _ ≤ _; exact Nat.le_of_eq rfl) (hb hby at_216)
    obtain ⟨rfl, NQ88, e88⟩ := hQ88
    have N88 := Fr.app N87 NQ88
    refine own_st (T' := T88) (F' := (mkF m 219 #[.val (.long qa), .second, .val (.long qb), .second, .val (.long qc), .second, .val (.long qd), .second, .val (.long qe), .second, .val (.long qf), .second, .val (.long v37), .second, .val (.long v38), .second, .val (.long v39), .second, .val (.long v40), .second, .val (.ref b41), .val (.ref b51), .val (.ref b61), .val (.ref b71), .val (.int v), .val (.ref b81), .val (.ref b84), .val (.int (f6 v44 v48 v54 v58 v64 v68 v74 v78)), .unset] [(.int (f6 v64 v68 v74 v78 v44 v48 v54 v58))])) (st88) ?_
    refine own_st (T' := T88) (F' := (mkF m 221 #[.val (.long qa), .second, .val (.long qb), .second, .val (.long qc), .second, .val (.long qd), .second, .val (.long qe), .second, .val (.long qf), .second, .val (.long v37), .second, .val (.long v38), .second, .val (.long v39), .second, .val (.long v40), .second, .val (.ref b41), .val (.ref b51), .val (.ref b61), .val (.ref b71), .val (.int v), .val (.ref b81), .val (.ref b84), .val (.int (f6 v44 v48 v54 v58 v64 v68 v74 v78)), .val (.int (f6 v64 v68 v74 v78 v44 v48 v54 v58))] [])) (fun _ kq => XS.istore X88.here hx rfl (hb hby at_219) rfl (l' := #[.val (.long qa), .second, .val (.long qb), .second, .val (.long qc), .second, .val (.long qd), .second, .val (.long qe), .second, .val (.long qf), .second, .val (.long v37), .second, .val (.long v38), .second, .val (.long v39), .second, .val (.long v40), .second, .val (.ref b41), .val (.ref b51), .val (.ref b61), .val (.ref b71), .val (.int v), .val (.ref b81), .val (.ref b84), .val (.int (f6 v44 v48 v54 v58 v64 v68 v74 v78)), .val (.int (f6 v64 v68 v74 v78 v44 v48 v54 v58))]) rfl kq) ?_
    refine own_st (T' := T88) (F' := (mkF m 223 #[.val (.long qa), .second, .val (.long qb), .second, .val (.long qc), .second, .val (.long qd), .second, .val (.long qe), .second, .val (.long qf), .second, .val (.long v37), .second, .val (.long v38), .second, .val (.long v39), .second, .val (.long v40), .second, .val (.ref b41), .val (.ref b51), .val (.ref b61), .val (.ref b71), .val (.int v), .val (.ref b81), .val (.ref b84), .val (.int (f6 v44 v48 v54 v58 v64 v68 v74 v78)), .val (.int (f6 v64 v68 v74 v78 v44 v48 v54 v58))] [(.int (f6 v44 v48 v54 v58 v64 v68 v74 v78))])) (fun _ kq => XS.iload X88.here hx rfl (hb hby at_221) rfl kq) ?_
    refine own_st (T' := T88) (F' := (mkF m 225 #[.val (.long qa), .second, .val (.long qb), .second, .val (.long qc), .second, .val (.long qd), .second, .val (.long qe), .second, .val (.long qf), .second, .val (.long v37), .second, .val (.long v38), .second, .val (.long v39), .second, .val (.long v40), .second, .val (.ref b41), .val (.ref b51), .val (.ref b61), .val (.ref b71), .val (.int v), .val (.ref b81), .val (.ref b84), .val (.int (f6 v44 v48 v54 v58 v64 v68 v74 v78)), .val (.int (f6 v64 v68 v74 v78 v44 v48 v54 v58))] [(.int v), (.int (f6 v44 v48 v54 v58 v64 v68 v74 v78))])) (fun _ kq => XS.iload X88.here hx rfl (hb hby at_223) rfl kq) ?_
    refine own_st (T' := T88) (F' := (mkF m 228 #[.val (.long qa), .second, .val (.long qb), .second, .val (.long qc), .second, .val (.long qd), .second, .val (.long qe), .second, .val (.long qf), .second, .val (.long v37), .second, .val (.long v38), .second, .val (.long v39), .second, .val (.long v40), .second, .val (.ref b41), .val (.ref b51), .val (.ref b61), .val (.ref b71), .val (.int v), .val (.ref b81), .val (.ref b84), .val (.int (f6 v44 v48 v54 v58 v64 v68 v74 v78)), .val (.int (f6 v64 v68 v74 v78 v44 v48 v54 v58))] [])) (fun _ kq => XS.icmpNo X88.here hx rfl (hb hby at_225) rfl (teq hLaw.1).2 kq) ?_
    refine own_st (T' := T88) (F' := (mkF m 230 #[.val (.long qa), .second, .val (.long qb), .second, .val (.long qc), .second, .val (.long qd), .second, .val (.long qe), .second, .val (.long qf), .second, .val (.long v37), .second, .val (.long v38), .second, .val (.long v39), .second, .val (.long v40), .second, .val (.ref b41), .val (.ref b51), .val (.ref b61), .val (.ref b71), .val (.int v), .val (.ref b81), .val (.ref b84), .val (.int (f6 v44 v48 v54 v58 v64 v68 v74 v78)), .val (.int (f6 v64 v68 v74 v78 v44 v48 v54 v58))] [(.int (f6 v64 v68 v74 v78 v44 v48 v54 v58))])) (fun _ kq => XS.iload X88.here hx rfl (hb hby at_228) rfl kq) ?_
    refine own_st (T' := T88) (F' := (mkF m 232 #[.val (.long qa), .second, .val (.long qb), .second, .val (.long qc), .second, .val (.long qd), .second, .val (.long qe), .second, .val (.long qf), .second, .val (.long v37), .second, .val (.long v38), .second, .val (.long v39), .second, .val (.long v40), .second, .val (.ref b41), .val (.ref b51), .val (.ref b61), .val (.ref b71), .val (.int v), .val (.ref b81), .val (.ref b84), .val (.int (f6 v44 v48 v54 v58 v64 v68 v74 v78)), .val (.int (f6 v64 v68 v74 v78 v44 v48 v54 v58))] [(.int v), (.int (f6 v64 v68 v74 v78 v44 v48 v54 v58))])) (fun _ kq => XS.iload X88.here hx rfl (hb hby at_230) rfl kq) ?_
    refine own_st (T' := T88) (F' := (mkF m 235 #[.val (.long qa), .second, .val (.long qb), .second, .val (.long qc), .second, .val (.long qd), .second, .val (.long qe), .second, .val (.long qf), .second, .val (.long v37), .second, .val (.long v38), .second, .val (.long v39), .second, .val (.long v40), .second, .val (.ref b41), .val (.ref b51), .val (.ref b61), .val (.ref b71), .val (.int v), .val (.ref b81), .val (.ref b84), .val (.int (f6 v44 v48 v54 v58 v64 v68 v74 v78)), .val (.int (f6 v64 v68 v74 v78 v44 v48 v54 v58))] [])) (fun _ kq => XS.icmpNo X88.here hx rfl (hb hby at_232) rfl (teq hLaw.2).2 kq) ?_
    refine own_st (T' := T88) (F' := (mkF m 236 #[.val (.long qa), .second, .val (.long qb), .second, .val (.long qc), .second, .val (.long qd), .second, .val (.long qe), .second, .val (.long qf), .second, .val (.long v37), .second, .val (.long v38), .second, .val (.long v39), .second, .val (.long v40), .second, .val (.ref b41), .val (.ref b51), .val (.ref b61), .val (.ref b71), .val (.int v), .val (.ref b81), .val (.ref b84), .val (.int (f6 v44 v48 v54 v58 v64 v68 v74 v78)), .val (.int (f6 v64 v68 v74 v78 v44 v48 v54 v58))] [(.int (1 : Int32))])) (fun _ kq => XS.iconst X88.here hx rfl (hb hby at_235) kq) ?_
    refine own_st (T' := T88) (F' := (mkF m 240 #[.val (.long qa), .second, .val (.long qb), .second, .val (.long qc), .second, .val (.long qd), .second, .val (.long qe), .second, .val (.long qf), .second, .val (.long v37), .second, .val (.long v38), .second, .val (.long v39), .second, .val (.long v40), .second, .val (.ref b41), .val (.ref b51), .val (.ref b61), .val (.ref b71), .val (.int v), .val (.ref b81), .val (.ref b84), .val (.int (f6 v44 v48 v54 v58 v64 v68 v74 v78)), .val (.int (f6 v64 v68 v74 v78 v44 v48 v54 v58))] [(.int (1 : Int32))])) (fun _ kq => XS.goto X88.here hx rfl (pc0 := 236) (pc' := 240) rfl (hb hby at_236) (by decide) (by decide) kq) ?_
    exact own_retN X88 hx hlk hret (by simp) (hb hby at_240) (by decide) (by decide) ⟨rfl, N88⟩
  refine own_st (T' := T79) (F' := (mkF m 128 #[.val (.long qa), .second, .val (.long qb), .second, .val (.long qc), .second, .val (.long qd), .second, .val (.long qe), .second, .val (.long qf), .second, .val (.long v37), .second, .val (.long v38), .second, .val (.long v39), .second, .val (.long v40), .second, .val (.ref b41), .val (.ref b51), .val (.ref b61), .val (.ref b71), .unset, .unset, .unset, .unset, .unset] [(.ref b41)])) (fun _ kq => XS.aload X79.here hx rfl (hb hby at_126) rfl rfl kq) ?_
  refine own_st (T' := T79) (F' := (mkF m 129 #[.val (.long qa), .second, .val (.long qb), .second, .val (.long qc), .second, .val (.long qd), .second, .val (.long qe), .second, .val (.long qf), .second, .val (.long v37), .second, .val (.long v38), .second, .val (.long v39), .second, .val (.long v40), .second, .val (.ref b41), .val (.ref b51), .val (.ref b61), .val (.ref b71), .unset, .unset, .unset, .unset, .unset] [(.int (0 : Int32)), (.ref b41)])) (fun _ kq => XS.iconst X79.here hx rfl (hb hby at_128) kq) ?_
  refine own_st (T' := T79) (F' := (mkF m 130 #[.val (.long qa), .second, .val (.long qb), .second, .val (.long qc), .second, .val (.long qd), .second, .val (.long qe), .second, .val (.long qf), .second, .val (.long v37), .second, .val (.long v38), .second, .val (.long v39), .second, .val (.long v40), .second, .val (.ref b41), .val (.ref b51), .val (.ref b61), .val (.ref b71), .unset, .unset, .unset, .unset, .unset] [(.long v44)])) (own_laload X79 hx hZ e79 VAb41_80 (g := (mkF m 129 #[.val (.long qa), .second, .val (.long qb), .second, .val (.long qc), .second, .val (.long qd), .second, .val (.long qe), .second, .val (.long qf), .second, .val (.long v37), .second, .val (.long v38), .second, .val (.long v39), .second, .val (.long v40), .second, .val (.ref b41), .val (.ref b51), .val (.ref b61), .val (.ref b71), .unset, .unset, .unset, .unset, .unset] [(.int (0 : Int32)), (.ref b41)])) rfl rfl (hb hby at_129) (by decide) (Nat.le_of_ble_eq_true rfl) (w := v44) rfl) ?_
  refine own_st (T' := T79) (F' := (mkF m 132 #[.val (.long qa), .second, .val (.long qb), .second, .val (.long qc), .second, .val (.long qd), .second, .val (.long qe), .second, .val (.long qf), .second, .val (.long v37), .second, .val (.long v38), .second, .val (.long v39), .second, .val (.long v40), .second, .val (.ref b41), .val (.ref b51), .val (.ref b61), .val (.ref b71), .unset, .unset, .unset, .unset, .unset] [(.ref b51), (.long v44)])) (fun _ kq => XS.aload X79.here hx rfl (hb hby at_130) rfl rfl kq) ?_
  refine own_st (T' := T79) (F' := (mkF m 133 #[.val (.long qa), .second, .val (.long qb), .second, .val (.long qc), .second, .val (.long qd), .second, .val (.long qe), .second, .val (.long qf), .second, .val (.long v37), .second, .val (.long v38), .second, .val (.long v39), .second, .val (.long v40), .second, .val (.ref b41), .val (.ref b51), .val (.ref b61), .val (.ref b71), .unset, .unset, .unset, .unset, .unset] [(.int (0 : Int32)), (.ref b51), (.long v44)])) (fun _ kq => XS.iconst X79.here hx rfl (hb hby at_132) kq) ?_
  refine own_st (T' := T79) (F' := (mkF m 134 #[.val (.long qa), .second, .val (.long qb), .second, .val (.long qc), .second, .val (.long qd), .second, .val (.long qe), .second, .val (.long qf), .second, .val (.long v37), .second, .val (.long v38), .second, .val (.long v39), .second, .val (.long v40), .second, .val (.ref b41), .val (.ref b51), .val (.ref b61), .val (.ref b71), .unset, .unset, .unset, .unset, .unset] [(.long v54), (.long v44)])) (own_laload X79 hx hZ e79 VAb51_80 (g := (mkF m 133 #[.val (.long qa), .second, .val (.long qb), .second, .val (.long qc), .second, .val (.long qd), .second, .val (.long qe), .second, .val (.long qf), .second, .val (.long v37), .second, .val (.long v38), .second, .val (.long v39), .second, .val (.long v40), .second, .val (.ref b41), .val (.ref b51), .val (.ref b61), .val (.ref b71), .unset, .unset, .unset, .unset, .unset] [(.int (0 : Int32)), (.ref b51), (.long v44)])) rfl rfl (hb hby at_133) (by decide) (Nat.le_of_ble_eq_true rfl) (w := v54) rfl) ?_
  refine own_st (T' := T79) (F' := (mkF m 136 #[.val (.long qa), .second, .val (.long qb), .second, .val (.long qc), .second, .val (.long qd), .second, .val (.long qe), .second, .val (.long qf), .second, .val (.long v37), .second, .val (.long v38), .second, .val (.long v39), .second, .val (.long v40), .second, .val (.ref b41), .val (.ref b51), .val (.ref b61), .val (.ref b71), .unset, .unset, .unset, .unset, .unset] [(.ref b61), (.long v54), (.long v44)])) (fun _ kq => XS.aload X79.here hx rfl (hb hby at_134) rfl rfl kq) ?_
  refine own_st (T' := T79) (F' := (mkF m 137 #[.val (.long qa), .second, .val (.long qb), .second, .val (.long qc), .second, .val (.long qd), .second, .val (.long qe), .second, .val (.long qf), .second, .val (.long v37), .second, .val (.long v38), .second, .val (.long v39), .second, .val (.long v40), .second, .val (.ref b41), .val (.ref b51), .val (.ref b61), .val (.ref b71), .unset, .unset, .unset, .unset, .unset] [(.int (0 : Int32)), (.ref b61), (.long v54), (.long v44)])) (fun _ kq => XS.iconst X79.here hx rfl (hb hby at_136) kq) ?_
  refine own_st (T' := T79) (F' := (mkF m 138 #[.val (.long qa), .second, .val (.long qb), .second, .val (.long qc), .second, .val (.long qd), .second, .val (.long qe), .second, .val (.long qf), .second, .val (.long v37), .second, .val (.long v38), .second, .val (.long v39), .second, .val (.long v40), .second, .val (.ref b41), .val (.ref b51), .val (.ref b61), .val (.ref b71), .unset, .unset, .unset, .unset, .unset] [(.long v64), (.long v54), (.long v44)])) (own_laload X79 hx hZ e79 VAb61_80 (g := (mkF m 137 #[.val (.long qa), .second, .val (.long qb), .second, .val (.long qc), .second, .val (.long qd), .second, .val (.long qe), .second, .val (.long qf), .second, .val (.long v37), .second, .val (.long v38), .second, .val (.long v39), .second, .val (.long v40), .second, .val (.ref b41), .val (.ref b51), .val (.ref b61), .val (.ref b71), .unset, .unset, .unset, .unset, .unset] [(.int (0 : Int32)), (.ref b61), (.long v54), (.long v44)])) rfl rfl (hb hby at_137) (by decide) (Nat.le_of_ble_eq_true rfl) (w := v64) rfl) ?_
  refine own_st (T' := T79) (F' := (mkF m 140 #[.val (.long qa), .second, .val (.long qb), .second, .val (.long qc), .second, .val (.long qd), .second, .val (.long qe), .second, .val (.long qf), .second, .val (.long v37), .second, .val (.long v38), .second, .val (.long v39), .second, .val (.long v40), .second, .val (.ref b41), .val (.ref b51), .val (.ref b61), .val (.ref b71), .unset, .unset, .unset, .unset, .unset] [(.ref b71), (.long v64), (.long v54), (.long v44)])) (fun _ kq => XS.aload X79.here hx rfl (hb hby at_138) rfl rfl kq) ?_
  refine own_st (T' := T79) (F' := (mkF m 141 #[.val (.long qa), .second, .val (.long qb), .second, .val (.long qc), .second, .val (.long qd), .second, .val (.long qe), .second, .val (.long qf), .second, .val (.long v37), .second, .val (.long v38), .second, .val (.long v39), .second, .val (.long v40), .second, .val (.ref b41), .val (.ref b51), .val (.ref b61), .val (.ref b71), .unset, .unset, .unset, .unset, .unset] [(.int (0 : Int32)), (.ref b71), (.long v64), (.long v54), (.long v44)])) (fun _ kq => XS.iconst X79.here hx rfl (hb hby at_140) kq) ?_
  refine own_st (T' := T79) (F' := (mkF m 142 #[.val (.long qa), .second, .val (.long qb), .second, .val (.long qc), .second, .val (.long qd), .second, .val (.long qe), .second, .val (.long qf), .second, .val (.long v37), .second, .val (.long v38), .second, .val (.long v39), .second, .val (.long v40), .second, .val (.ref b41), .val (.ref b51), .val (.ref b61), .val (.ref b71), .unset, .unset, .unset, .unset, .unset] [(.long v74), (.long v64), (.long v54), (.long v44)])) (own_laload X79 hx hZ e79 V79 (g := (mkF m 141 #[.val (.long qa), .second, .val (.long qb), .second, .val (.long qc), .second, .val (.long qd), .second, .val (.long qe), .second, .val (.long qf), .second, .val (.long v37), .second, .val (.long v38), .second, .val (.long v39), .second, .val (.long v40), .second, .val (.ref b41), .val (.ref b51), .val (.ref b61), .val (.ref b71), .unset, .unset, .unset, .unset, .unset] [(.int (0 : Int32)), (.ref b71), (.long v64), (.long v54), (.long v44)])) rfl rfl (hb hby at_141) (by decide) (Nat.le_of_ble_eq_true rfl) (w := v74) rfl) ?_
  obtain ⟨T89, locs89, X89, e89, N89, st89⟩ := own_callP X79 hx hZ 0 hown (hw _ (List.mem_of_getElem? (i := 8) rfl)) (hw _ (List.mem_of_getElem? (i := 9) rfl)) (hw _ (List.mem_of_getElem? (i := 10) rfl)) (hw _ (List.mem_of_getElem? (i := 11) rfl)) (by decide) (rm3 l Z a0 hw [] v44 v54 v64 v74 h79 n0) (by decide) (by decide) rfl rfl e79 N79 (by decide) (by decide) (g := (mkF m 142 #[.val (.long qa), .second, .val (.long qb), .second, .val (.long qc), .second, .val (.long qd), .second, .val (.long qe), .second, .val (.long qf), .second, .val (.long v37), .second, .val (.long v38), .second, .val (.long v39), .second, .val (.long v40), .second, .val (.ref b41), .val (.ref b51), .val (.ref b61), .val (.ref b71), .unset, .unset, .unset, .unset, .unset] [(.long v74), (.long v64), (.long v54), (.long v44)])) rfl (by rw [hml]; rfl) (argsL := [(.long v44), (.long v54), (.long v64), (.long v74)]) (rest := []) (lenOf pd3 rfl) rfl rfl (by show 2 * 0 + _ ≤ _; exact Nat.le_of_eq rfl) (hb hby at_142)
  refine own_st (T' := T89) (F' := (mkF m 145 #[.val (.long qa), .second, .val (.long qb), .second, .val (.long qc), .second, .val (.long qd), .second, .val (.long qe), .second, .val (.long qf), .second, .val (.long v37), .second, .val (.long v38), .second, .val (.long v39), .second, .val (.long v40), .second, .val (.ref b41), .val (.ref b51), .val (.ref b61), .val (.ref b71), .unset, .unset, .unset, .unset, .unset] [(.int (f3 v44 v54 v64 v74))])) (st89) ?_
  by_cases hc145_90 : (f3 v44 v54 v64 v74) = (0 : Int32)
  ·
    refine own_st (T' := T89) (F' := (mkF m 174 #[.val (.long qa), .second, .val (.long qb), .second, .val (.long qc), .second, .val (.long qd), .second, .val (.long qe), .second, .val (.long qf), .second, .val (.long v37), .second, .val (.long v38), .second, .val (.long v39), .second, .val (.long v40), .second, .val (.ref b41), .val (.ref b51), .val (.ref b61), .val (.ref b71), .unset, .unset, .unset, .unset, .unset] [])) (fun _ kq => XS.ifYes X89.here hx rfl (pc0 := 145) (pc' := 174) rfl (hb hby at_145) rfl ((if0 _ _).trans (teq hc145_90).1) (by decide) (by decide) kq) ?_
    refine own_st (T' := T89) (F' := (mkF m 175 #[.val (.long qa), .second, .val (.long qb), .second, .val (.long qc), .second, .val (.long qd), .second, .val (.long qe), .second, .val (.long qf), .second, .val (.long v37), .second, .val (.long v38), .second, .val (.long v39), .second, .val (.long v40), .second, .val (.ref b41), .val (.ref b51), .val (.ref b61), .val (.ref b71), .unset, .unset, .unset, .unset, .unset] [(.int (0 : Int32))])) (fun _ kq => XS.iconst X89.here hx rfl (hb hby at_174) kq) ?_
    exact J175 _ T89 _ X89 e89 N89 (by rw [if_pos hc145_90])
  ·
    refine own_st (T' := T89) (F' := (mkF m 148 #[.val (.long qa), .second, .val (.long qb), .second, .val (.long qc), .second, .val (.long qd), .second, .val (.long qe), .second, .val (.long qf), .second, .val (.long v37), .second, .val (.long v38), .second, .val (.long v39), .second, .val (.long v40), .second, .val (.ref b41), .val (.ref b51), .val (.ref b61), .val (.ref b71), .unset, .unset, .unset, .unset, .unset] [])) (fun _ kq => XS.ifNo X89.here hx rfl (hb hby at_145) rfl ((if0 _ _).trans (feq hc145_90).1) kq) ?_
    refine own_st (T' := T89) (F' := (mkF m 150 #[.val (.long qa), .second, .val (.long qb), .second, .val (.long qc), .second, .val (.long qd), .second, .val (.long qe), .second, .val (.long qf), .second, .val (.long v37), .second, .val (.long v38), .second, .val (.long v39), .second, .val (.long v40), .second, .val (.ref b41), .val (.ref b51), .val (.ref b61), .val (.ref b71), .unset, .unset, .unset, .unset, .unset] [(.ref b41)])) (fun _ kq => XS.aload X89.here hx rfl (hb hby at_148) rfl rfl kq) ?_
    refine own_st (T' := T89) (F' := (mkF m 151 #[.val (.long qa), .second, .val (.long qb), .second, .val (.long qc), .second, .val (.long qd), .second, .val (.long qe), .second, .val (.long qf), .second, .val (.long v37), .second, .val (.long v38), .second, .val (.long v39), .second, .val (.long v40), .second, .val (.ref b41), .val (.ref b51), .val (.ref b61), .val (.ref b71), .unset, .unset, .unset, .unset, .unset] [(.int (1 : Int32)), (.ref b41)])) (fun _ kq => XS.iconst X89.here hx rfl (hb hby at_150) kq) ?_
    refine own_st (T' := T89) (F' := (mkF m 152 #[.val (.long qa), .second, .val (.long qb), .second, .val (.long qc), .second, .val (.long qd), .second, .val (.long qe), .second, .val (.long qf), .second, .val (.long v37), .second, .val (.long v38), .second, .val (.long v39), .second, .val (.long v40), .second, .val (.ref b41), .val (.ref b51), .val (.ref b61), .val (.ref b71), .unset, .unset, .unset, .unset, .unset] [(.long v48)])) (own_laload X89 hx hZ e89 VAb41_80 (g := (mkF m 151 #[.val (.long qa), .second, .val (.long qb), .second, .val (.long qc), .second, .val (.long qd), .second, .val (.long qe), .second, .val (.long qf), .second, .val (.long v37), .second, .val (.long v38), .second, .val (.long v39), .second, .val (.long v40), .second, .val (.ref b41), .val (.ref b51), .val (.ref b61), .val (.ref b71), .unset, .unset, .unset, .unset, .unset] [(.int (1 : Int32)), (.ref b41)])) rfl rfl (hb hby at_151) (by decide) (Nat.le_of_ble_eq_true rfl) (w := v48) rfl) ?_
    refine own_st (T' := T89) (F' := (mkF m 154 #[.val (.long qa), .second, .val (.long qb), .second, .val (.long qc), .second, .val (.long qd), .second, .val (.long qe), .second, .val (.long qf), .second, .val (.long v37), .second, .val (.long v38), .second, .val (.long v39), .second, .val (.long v40), .second, .val (.ref b41), .val (.ref b51), .val (.ref b61), .val (.ref b71), .unset, .unset, .unset, .unset, .unset] [(.ref b51), (.long v48)])) (fun _ kq => XS.aload X89.here hx rfl (hb hby at_152) rfl rfl kq) ?_
    refine own_st (T' := T89) (F' := (mkF m 155 #[.val (.long qa), .second, .val (.long qb), .second, .val (.long qc), .second, .val (.long qd), .second, .val (.long qe), .second, .val (.long qf), .second, .val (.long v37), .second, .val (.long v38), .second, .val (.long v39), .second, .val (.long v40), .second, .val (.ref b41), .val (.ref b51), .val (.ref b61), .val (.ref b71), .unset, .unset, .unset, .unset, .unset] [(.int (1 : Int32)), (.ref b51), (.long v48)])) (fun _ kq => XS.iconst X89.here hx rfl (hb hby at_154) kq) ?_
    refine own_st (T' := T89) (F' := (mkF m 156 #[.val (.long qa), .second, .val (.long qb), .second, .val (.long qc), .second, .val (.long qd), .second, .val (.long qe), .second, .val (.long qf), .second, .val (.long v37), .second, .val (.long v38), .second, .val (.long v39), .second, .val (.long v40), .second, .val (.ref b41), .val (.ref b51), .val (.ref b61), .val (.ref b71), .unset, .unset, .unset, .unset, .unset] [(.long v58), (.long v48)])) (own_laload X89 hx hZ e89 VAb51_80 (g := (mkF m 155 #[.val (.long qa), .second, .val (.long qb), .second, .val (.long qc), .second, .val (.long qd), .second, .val (.long qe), .second, .val (.long qf), .second, .val (.long v37), .second, .val (.long v38), .second, .val (.long v39), .second, .val (.long v40), .second, .val (.ref b41), .val (.ref b51), .val (.ref b61), .val (.ref b71), .unset, .unset, .unset, .unset, .unset] [(.int (1 : Int32)), (.ref b51), (.long v48)])) rfl rfl (hb hby at_155) (by decide) (Nat.le_of_ble_eq_true rfl) (w := v58) rfl) ?_
    refine own_st (T' := T89) (F' := (mkF m 158 #[.val (.long qa), .second, .val (.long qb), .second, .val (.long qc), .second, .val (.long qd), .second, .val (.long qe), .second, .val (.long qf), .second, .val (.long v37), .second, .val (.long v38), .second, .val (.long v39), .second, .val (.long v40), .second, .val (.ref b41), .val (.ref b51), .val (.ref b61), .val (.ref b71), .unset, .unset, .unset, .unset, .unset] [(.ref b61), (.long v58), (.long v48)])) (fun _ kq => XS.aload X89.here hx rfl (hb hby at_156) rfl rfl kq) ?_
    refine own_st (T' := T89) (F' := (mkF m 159 #[.val (.long qa), .second, .val (.long qb), .second, .val (.long qc), .second, .val (.long qd), .second, .val (.long qe), .second, .val (.long qf), .second, .val (.long v37), .second, .val (.long v38), .second, .val (.long v39), .second, .val (.long v40), .second, .val (.ref b41), .val (.ref b51), .val (.ref b61), .val (.ref b71), .unset, .unset, .unset, .unset, .unset] [(.int (1 : Int32)), (.ref b61), (.long v58), (.long v48)])) (fun _ kq => XS.iconst X89.here hx rfl (hb hby at_158) kq) ?_
    refine own_st (T' := T89) (F' := (mkF m 160 #[.val (.long qa), .second, .val (.long qb), .second, .val (.long qc), .second, .val (.long qd), .second, .val (.long qe), .second, .val (.long qf), .second, .val (.long v37), .second, .val (.long v38), .second, .val (.long v39), .second, .val (.long v40), .second, .val (.ref b41), .val (.ref b51), .val (.ref b61), .val (.ref b71), .unset, .unset, .unset, .unset, .unset] [(.long v68), (.long v58), (.long v48)])) (own_laload X89 hx hZ e89 VAb61_80 (g := (mkF m 159 #[.val (.long qa), .second, .val (.long qb), .second, .val (.long qc), .second, .val (.long qd), .second, .val (.long qe), .second, .val (.long qf), .second, .val (.long v37), .second, .val (.long v38), .second, .val (.long v39), .second, .val (.long v40), .second, .val (.ref b41), .val (.ref b51), .val (.ref b61), .val (.ref b71), .unset, .unset, .unset, .unset, .unset] [(.int (1 : Int32)), (.ref b61), (.long v58), (.long v48)])) rfl rfl (hb hby at_159) (by decide) (Nat.le_of_ble_eq_true rfl) (w := v68) rfl) ?_
    refine own_st (T' := T89) (F' := (mkF m 162 #[.val (.long qa), .second, .val (.long qb), .second, .val (.long qc), .second, .val (.long qd), .second, .val (.long qe), .second, .val (.long qf), .second, .val (.long v37), .second, .val (.long v38), .second, .val (.long v39), .second, .val (.long v40), .second, .val (.ref b41), .val (.ref b51), .val (.ref b61), .val (.ref b71), .unset, .unset, .unset, .unset, .unset] [(.ref b71), (.long v68), (.long v58), (.long v48)])) (fun _ kq => XS.aload X89.here hx rfl (hb hby at_160) rfl rfl kq) ?_
    refine own_st (T' := T89) (F' := (mkF m 163 #[.val (.long qa), .second, .val (.long qb), .second, .val (.long qc), .second, .val (.long qd), .second, .val (.long qe), .second, .val (.long qf), .second, .val (.long v37), .second, .val (.long v38), .second, .val (.long v39), .second, .val (.long v40), .second, .val (.ref b41), .val (.ref b51), .val (.ref b61), .val (.ref b71), .unset, .unset, .unset, .unset, .unset] [(.int (1 : Int32)), (.ref b71), (.long v68), (.long v58), (.long v48)])) (fun _ kq => XS.iconst X89.here hx rfl (hb hby at_162) kq) ?_
    refine own_st (T' := T89) (F' := (mkF m 164 #[.val (.long qa), .second, .val (.long qb), .second, .val (.long qc), .second, .val (.long qd), .second, .val (.long qe), .second, .val (.long qf), .second, .val (.long v37), .second, .val (.long v38), .second, .val (.long v39), .second, .val (.long v40), .second, .val (.ref b41), .val (.ref b51), .val (.ref b61), .val (.ref b71), .unset, .unset, .unset, .unset, .unset] [(.long v78), (.long v68), (.long v58), (.long v48)])) (own_laload X89 hx hZ e89 V79 (g := (mkF m 163 #[.val (.long qa), .second, .val (.long qb), .second, .val (.long qc), .second, .val (.long qd), .second, .val (.long qe), .second, .val (.long qf), .second, .val (.long v37), .second, .val (.long v38), .second, .val (.long v39), .second, .val (.long v40), .second, .val (.ref b41), .val (.ref b51), .val (.ref b61), .val (.ref b71), .unset, .unset, .unset, .unset, .unset] [(.int (1 : Int32)), (.ref b71), (.long v68), (.long v58), (.long v48)])) rfl rfl (hb hby at_163) (by decide) (Nat.le_of_ble_eq_true rfl) (w := v78) rfl) ?_
    obtain ⟨T91, locs91, X91, e91, N91, st91⟩ := own_callP X89 hx hZ 0 hown (hw _ (List.mem_of_getElem? (i := 8) rfl)) (hw _ (List.mem_of_getElem? (i := 9) rfl)) (hw _ (List.mem_of_getElem? (i := 10) rfl)) (hw _ (List.mem_of_getElem? (i := 11) rfl)) (by decide) (rm3 l Z a0 hw [] v48 v58 v68 v78 h79 n0) (by decide) (by decide) rfl rfl e89 N89 (by decide) (by decide) (g := (mkF m 164 #[.val (.long qa), .second, .val (.long qb), .second, .val (.long qc), .second, .val (.long qd), .second, .val (.long qe), .second, .val (.long qf), .second, .val (.long v37), .second, .val (.long v38), .second, .val (.long v39), .second, .val (.long v40), .second, .val (.ref b41), .val (.ref b51), .val (.ref b61), .val (.ref b71), .unset, .unset, .unset, .unset, .unset] [(.long v78), (.long v68), (.long v58), (.long v48)])) rfl (by rw [hml]; rfl) (argsL := [(.long v48), (.long v58), (.long v68), (.long v78)]) (rest := []) (lenOf pd3 rfl) rfl rfl (by show 2 * 0 + _ ≤ _; exact Nat.le_of_eq rfl) (hb hby at_164)
    refine own_st (T' := T91) (F' := (mkF m 167 #[.val (.long qa), .second, .val (.long qb), .second, .val (.long qc), .second, .val (.long qd), .second, .val (.long qe), .second, .val (.long qf), .second, .val (.long v37), .second, .val (.long v38), .second, .val (.long v39), .second, .val (.long v40), .second, .val (.ref b41), .val (.ref b51), .val (.ref b61), .val (.ref b71), .unset, .unset, .unset, .unset, .unset] [(.int (f3 v48 v58 v68 v78))])) (st91) ?_
    by_cases hc167_92 : (f3 v48 v58 v68 v78) = (0 : Int32)
    ·
      refine own_st (T' := T91) (F' := (mkF m 174 #[.val (.long qa), .second, .val (.long qb), .second, .val (.long qc), .second, .val (.long qd), .second, .val (.long qe), .second, .val (.long qf), .second, .val (.long v37), .second, .val (.long v38), .second, .val (.long v39), .second, .val (.long v40), .second, .val (.ref b41), .val (.ref b51), .val (.ref b61), .val (.ref b71), .unset, .unset, .unset, .unset, .unset] [])) (fun _ kq => XS.ifYes X91.here hx rfl (pc0 := 167) (pc' := 174) rfl (hb hby at_167) rfl ((if0 _ _).trans (teq hc167_92).1) (by decide) (by decide) kq) ?_
      refine own_st (T' := T91) (F' := (mkF m 175 #[.val (.long qa), .second, .val (.long qb), .second, .val (.long qc), .second, .val (.long qd), .second, .val (.long qe), .second, .val (.long qf), .second, .val (.long v37), .second, .val (.long v38), .second, .val (.long v39), .second, .val (.long v40), .second, .val (.ref b41), .val (.ref b51), .val (.ref b61), .val (.ref b71), .unset, .unset, .unset, .unset, .unset] [(.int (0 : Int32))])) (fun _ kq => XS.iconst X91.here hx rfl (hb hby at_174) kq) ?_
      exact J175 _ T91 _ X91 e91 N91 (by rw [if_neg hc145_90, if_pos hc167_92])
    ·
      refine own_st (T' := T91) (F' := (mkF m 170 #[.val (.long qa), .second, .val (.long qb), .second, .val (.long qc), .second, .val (.long qd), .second, .val (.long qe), .second, .val (.long qf), .second, .val (.long v37), .second, .val (.long v38), .second, .val (.long v39), .second, .val (.long v40), .second, .val (.ref b41), .val (.ref b51), .val (.ref b61), .val (.ref b71), .unset, .unset, .unset, .unset, .unset] [])) (fun _ kq => XS.ifNo X91.here hx rfl (hb hby at_167) rfl ((if0 _ _).trans (feq hc167_92).1) kq) ?_
      refine own_st (T' := T91) (F' := (mkF m 171 #[.val (.long qa), .second, .val (.long qb), .second, .val (.long qc), .second, .val (.long qd), .second, .val (.long qe), .second, .val (.long qf), .second, .val (.long v37), .second, .val (.long v38), .second, .val (.long v39), .second, .val (.long v40), .second, .val (.ref b41), .val (.ref b51), .val (.ref b61), .val (.ref b71), .unset, .unset, .unset, .unset, .unset] [(.int (1 : Int32))])) (fun _ kq => XS.iconst X91.here hx rfl (hb hby at_170) kq) ?_
      refine own_st (T' := T91) (F' := (mkF m 175 #[.val (.long qa), .second, .val (.long qb), .second, .val (.long qc), .second, .val (.long qd), .second, .val (.long qe), .second, .val (.long qf), .second, .val (.long v37), .second, .val (.long v38), .second, .val (.long v39), .second, .val (.long v40), .second, .val (.ref b41), .val (.ref b51), .val (.ref b61), .val (.ref b71), .unset, .unset, .unset, .unset, .unset] [(.int (1 : Int32))])) (fun _ kq => XS.goto X91.here hx rfl (pc0 := 171) (pc' := 175) rfl (hb hby at_171) (by decide) (by decide) kq) ?_
      exact J175 _ T91 _ X91 e91 N91 (by rw [if_neg hc145_90, if_neg hc167_92])
set_option maxRecDepth 65536 in
theorem comes_1 {Post : Tables → Env → Array Value → State → Outcome → State → Prop} (hpost : ∀ tb e args s v u, (limb_1_1.after args s (.returned v) u = true ∧ limb_1_2.after args s (.returned v) u = true ∧ True) → FrameEnd s (.returned v) u (Jvm.fieldLocs frame_1_writes args s ++ Jvm.arrayLocs frame_1_arrays args s ++ Jvm.staticLocs frame_1_statics s) 24 128 → Post tb e args s (.returned v) u) :
    ArmFor flags0 classFile x code maxLocals ret World_1 tables_1 room_1 Calls_1 rest_1 Pre_1 Post := by
  intro l hfl _ _ p e ha hc hk s m args below hf hA hF happ hP
  obtain ⟨hcalls, hrest, hpre⟩ := hP
  obtain ⟨-, -, -, hnamed, -, -, -, hat⟩ := (Spec.applies_iff hf).mp happ
  obtain ⟨hg, hn⟩ := and_e (Cond.before_iff.mp (show (Jvm.Cond.and given_1 narrow_1).before args s = true from hpre))
  obtain ⟨g0, r0⟩ := and_e hg
  obtain ⟨g1, r1⟩ := and_e r0
  obtain ⟨g2, r2⟩ := and_e r1
  obtain ⟨g3, r3⟩ := and_e r2
  obtain ⟨g4, r4⟩ := and_e r3
  obtain ⟨g5, r5⟩ := and_e r4
  obtain ⟨w0, w1, w2, w3, w4, w5, rfl⟩ : ∃ w0 w1 w2 w3 w4 w5 : Value, args = #[w0, w1, w2, w3, w4, w5] := by
    have hs : args.size = 6 := by simpa [Cond.value, given_1] using g0
    obtain ⟨L⟩ := args
    match L, hs with
    | [w0, w1, w2, w3, w4, w5], _ => exact ⟨w0, w1, w2, w3, w4, w5, rfl⟩
  have hw := fun d (hd : d ∈ tables_1) => atoms_spec (ws := Jvm.Cond.code x code maxLocals ret :: tables_1) hat d (List.mem_cons_of_mem _ hd)
  obtain ⟨i0, ei0⟩ := isL_v g1
  obtain rfl : w0 = (.long i0) := Option.some.inj ei0
  obtain ⟨i1, ei1⟩ := isL_v g2
  obtain rfl : w1 = (.long i1) := Option.some.inj ei1
  obtain ⟨i2, ei2⟩ := isL_v g3
  obtain rfl : w2 = (.long i2) := Option.some.inj ei2
  obtain ⟨i3, ei3⟩ := isL_v g4
  obtain rfl : w3 = (.long i3) := Option.some.inj ei3
  obtain ⟨i4, ei4⟩ := isL_v g5
  obtain rfl : w4 = (.long i4) := Option.some.inj ei4
  obtain ⟨i5, ei5⟩ := isL_v r5
  obtain rfl : w5 = (.long i5) := Option.some.inj ei5
  obtain ⟨n, o, h1, h2, h3, _, L, rfl, ⟨rfl, N⟩, hq⟩ := rm0 l s _ hw tables_1 i0 i1 i2 i3 i4 i5 s.heap s.heap.size (Nat.le_refl _) p e ha hc hk s m _ below hf ((Spec.applies_iff_loose hf).mp happ).1 ⟨rfl, State.Warmed39.refl s, rfl⟩ trivial
  refine ⟨n, _, h1, h2, h3, hpost _ _ _ _ _ _ ⟨Cond.after_iff.mpr rfl, Cond.after_iff.mpr (eq_i res_at (Term.int_eval (1)) rfl), trivial⟩ ⟨hq.1, hq.2.1, (hq.2.2.sift fun y hy => Or.inr (N y hy)).mono (by decide) (by decide)⟩⟩
theorem main_1_1 : Claimed_1_1 := comes_1 fun _ _ _ _ _ _ h hF => ⟨h.1, hF⟩
theorem main_1_2 : Claimed_1_2 := comes_1 fun _ _ _ _ _ _ h hF => ⟨h.2.1, hF⟩
end Jvm.Pilot.@@N@@
namespace Jvm.Pilot.@@N@@
open Jvm Jvm.ClassFile Sem Op Lib Jvm.Free Jvm.Stand Jvm.Pilot.@@N@@.Jvm.D
/-! MADE BY PROGRAM (witnessworld.py) out of the Statement's table words and the real class files: 12 classes; the members and pool entries that the words name. The judged class is class 1, her method 2. -/
namespace start1
open Jvm.ClassFile
def u (s : String) : CpInfo := .utf8 (stringToUtf16 s)
/-- a pool by its gaps: so many unusable entries, then the entry; so many at the end -/
def gap : Nat → List CpInfo → List CpInfo
  | 0, r => r
  | n + 1, r => .unusable :: gap n r
def poolList (es : List (Nat × CpInfo)) (last : Nat) : List CpInfo := es.foldr (fun e r => gap e.1 (e.2 :: r)) (gap last [])
def pool (es : List (Nat × CpInfo)) (last : Nat) : Array CpInfo := ⟨poolList es last⟩
def fileOf (pool : Array CpInfo) (this : Nat) (attrs : Array Attribute := #[]) (ms : Array MethodInfo := #[]) (fl : Nat := 33) (sup : Nat := 0) (ifs : Array Nat := #[]) (fds : Array FieldInfo := #[]) : ClassFile where
  minorVersion := 0
  majorVersion := 65
  constantPool := pool
  accessFlags := fl
  thisClass := this
  superClass := sup
  interfaces := ifs
  fields := fds
  methods := ms
  attributes := attrs
def plain (name : String) (sup : Option ClassId) : Class where
  name := name
  kind := .ordinary
  loader := none
  accessFlags := 33
  super := sup
  interfaces := #[]
  cf := none
  fields := #[]
  methods := #[]
  instanceTypes := #[]
  staticTypes := #[]
  resolved := #[]
  callSites := []
  init := .initialized
  statics := none
  mirror := none

def pool0 : Array CpInfo := pool [(5, u "<init>"), (0, u "()V"), (1, .class_ 10), (1, u "java/lang/Object")] 113

def k0c0 : Code := { maxStack := 0, maxLocals := 1, code := object_method_1_code, exceptionTable := #[], attributes := #[] }
def k0m0 : Method := { name := "<init>", desc := "()V", sig := { parameters := [], returnType := none }, accessFlags := 1, code := some k0c0 }
/-- java/lang/Object -/
def k0 : Class := { plain "java/lang/Object" none with
  accessFlags := 33
  interfaces := #[]
  cf := some (fileOf pool0 8 #[] #[{ accessFlags := 1, nameIndex := 5, descriptorIndex := 6, attributes := #[] }] 33 0 #[] #[])
  fields := #[]
  methods := #[k0m0]
  instanceTypes := #[]
  staticTypes := #[]
  resolved := Array.replicate 124 none
  statics := none }

def pool1 : Array CpInfo := pool [(2, .class_ 4), (1, u "java/lang/Object"), (0, u "<init>"), (0, u "()V"), (0, .methodref 8 9), (0, .class_ 10), (0, .nameAndType 11 12), (0, u "java/lang/Math"), (0, u "max"), (0, u "(JJ)J"), (0, .methodref 8 14), (0, .nameAndType 15 12), (0, u "min"), (0, .methodref 17 18), (0, .class_ 19), (0, .nameAndType 20 21), (0, u "com/example/forest_grammar/forestgrammar/languages/BoxOverlapsPinLaw"), (0, u "meet"), (0, u "(JJJJ)Z"), (0, .class_ 23), (0, u "com/example/forest_grammar/forestgrammar/languages/Family$Box"), (0, .methodref 22 25), (0, .nameAndType 5 26), (0, u "([J[J)V"), (0, .methodref 22 28), (0, .nameAndType 29 30), (0, u "overlaps"), (0, u "(Lcom/example/forest_grammar/forestgrammar/languages/Family$Box;)Z"), (3, u "law"), (0, u "(JJJJJJ)Z")] 8

def k1m0 : Method := { name := "<init>", desc := "()V", sig := { parameters := [], returnType := none }, accessFlags := 1, code := none }
def k1c1 : Code := { maxStack := 6, maxLocals := 8, code := method_2_code, exceptionTable := #[], attributes := #[] }
def k1m1 : Method := { name := "meet", desc := "(JJJJ)Z", sig := { parameters := [.long, .long, .long, .long], returnType := some .boolean }, accessFlags := 10, code := some k1c1 }
def k1c2 : Code := { maxStack := 8, maxLocals := 29, code := code, exceptionTable := #[], attributes := #[] }
def k1m2 : Method := { name := "law", desc := "(JJJJJJ)Z", sig := { parameters := [.long, .long, .long, .long, .long, .long], returnType := some .boolean }, accessFlags := 9, code := some k1c2 }
/-- com/example/forest_grammar/forestgrammar/languages/BoxOverlapsPinLaw -/
def k1 : Class := { plain "com/example/forest_grammar/forestgrammar/languages/BoxOverlapsPinLaw" (some 0) with
  accessFlags := 49
  interfaces := #[]
  cf := some (fileOf pool1 17 #[] #[{ accessFlags := 1, nameIndex := 5, descriptorIndex := 6, attributes := #[] }, { accessFlags := 10, nameIndex := 20, descriptorIndex := 21, attributes := #[] }, { accessFlags := 9, nameIndex := 34, descriptorIndex := 35, attributes := #[] }] 49 2 #[] #[])
  fields := #[]
  methods := #[k1m0, k1m1, k1m2]
  instanceTypes := #[]
  staticTypes := #[]
  resolved := Array.replicate 44 none
  statics := none }

def pool2 : Array CpInfo := pool [(1, .class_ 2), (0, u "java/lang/Math"), (1, .class_ 6), (1, u "java/lang/Object"), (0, u "<init>"), (0, u "()V"), (89, .class_ 100), (1, u "java/lang/Math$RandomNumberGeneratorHolder"), (20, u "(JJ)J"), (50, u "negativeZeroFloatBits"), (0, u "J"), (2, u "negativeZeroDoubleBits"), (21, u "max"), (2, u "min"), (43, u "$assertionsDisabled"), (0, u "Z"), (91, u "twoToTheDoubleScaleDown"), (0, u "D"), (4, u "twoToTheDoubleScaleUp"), (9, u "E"), (3, u "PI"), (2, u "TAU"), (2, u "DEGREES_TO_RADIANS"), (0, u "RADIANS_TO_DEGREES")] 94

def k2m0 : Method := { name := "<init>", desc := "()V", sig := { parameters := [], returnType := none }, accessFlags := 2, code := none }
def k2c1 : Code := { maxStack := 4, maxLocals := 4, code := jdk_29_method_66_code, exceptionTable := #[], attributes := #[] }
def k2m1 : Method := { name := "max", desc := "(JJ)J", sig := { parameters := [.long, .long], returnType := some .long }, accessFlags := 9, code := some k2c1 }
def k2c2 : Code := { maxStack := 4, maxLocals := 4, code := jdk_29_method_70_code, exceptionTable := #[], attributes := #[] }
def k2m2 : Method := { name := "min", desc := "(JJ)J", sig := { parameters := [.long, .long], returnType := some .long }, accessFlags := 9, code := some k2c2 }
/-- java/lang/Math -/
def k2 : Class := { plain "java/lang/Math" (some 0) with
  accessFlags := 49
  interfaces := #[]
  cf := some (fileOf pool2 1 #[.nestMembers #[98]] #[{ accessFlags := 2, nameIndex := 7, descriptorIndex := 8, attributes := #[] }, { accessFlags := 9, nameIndex := 198, descriptorIndex := 121, attributes := #[] }, { accessFlags := 9, nameIndex := 201, descriptorIndex := 121, attributes := #[] }] 49 4 #[] #[{ accessFlags := 25, nameIndex := 354, descriptorIndex := 339, attributes := #[] }, { accessFlags := 25, nameIndex := 358, descriptorIndex := 339, attributes := #[] }, { accessFlags := 25, nameIndex := 361, descriptorIndex := 339, attributes := #[] }, { accessFlags := 26, nameIndex := 364, descriptorIndex := 339, attributes := #[] }, { accessFlags := 26, nameIndex := 365, descriptorIndex := 339, attributes := #[] }, { accessFlags := 26, nameIndex := 172, descriptorIndex := 173, attributes := #[] }, { accessFlags := 26, nameIndex := 176, descriptorIndex := 173, attributes := #[] }, { accessFlags := 8, nameIndex := 344, descriptorIndex := 339, attributes := #[] }, { accessFlags := 8, nameIndex := 338, descriptorIndex := 339, attributes := #[] }, { accessFlags := 4120, nameIndex := 245, descriptorIndex := 246, attributes := #[] }])
  fields := #[{ name := "E", type := .double, accessFlags := 25, slot := 0, constantValue := 0 }, { name := "PI", type := .double, accessFlags := 25, slot := 1, constantValue := 0 }, { name := "TAU", type := .double, accessFlags := 25, slot := 2, constantValue := 0 }, { name := "DEGREES_TO_RADIANS", type := .double, accessFlags := 26, slot := 3, constantValue := 0 }, { name := "RADIANS_TO_DEGREES", type := .double, accessFlags := 26, slot := 4, constantValue := 0 }, { name := "negativeZeroFloatBits", type := .long, accessFlags := 26, slot := 5, constantValue := 0 }, { name := "negativeZeroDoubleBits", type := .long, accessFlags := 26, slot := 6, constantValue := 0 }, { name := "twoToTheDoubleScaleUp", type := .double, accessFlags := 8, slot := 7, constantValue := 0 }, { name := "twoToTheDoubleScaleDown", type := .double, accessFlags := 8, slot := 8, constantValue := 0 }, { name := "$assertionsDisabled", type := .boolean, accessFlags := 4120, slot := 9, constantValue := 0 }]
  methods := #[k2m0, k2m1, k2m2]
  instanceTypes := #[]
  staticTypes := #[.double, .double, .double, .double, .double, .long, .long, .double, .double, .boolean]
  resolved := Array.replicate 460 none
  statics := none }

def pool3 : Array CpInfo := pool [(1, .methodref 2 3), (0, .class_ 4), (0, .nameAndType 5 6), (0, u "java/lang/Object"), (0, u "<init>"), (0, u "()V"), (0, .fieldref 8 9), (0, .class_ 10), (0, .nameAndType 11 12), (0, u "com/example/forest_grammar/forestgrammar/languages/Family$Box"), (0, u "low"), (0, u "[J"), (0, .fieldref 8 14), (0, .nameAndType 15 12), (0, u "high"), (7, u "([J[J)V"), (35, u "overlaps"), (0, u "(Lcom/example/forest_grammar/forestgrammar/languages/Family$Box;)Z"), (41, .class_ 103), (0, u "com/example/forest_grammar/forestgrammar/languages/Family")] 19

def k3c0 : Code := { maxStack := 2, maxLocals := 3, code := prog_139_method_1_code, exceptionTable := #[], attributes := #[] }
def k3m0 : Method := { name := "<init>", desc := "([J[J)V", sig := { parameters := [(.array .long), (.array .long)], returnType := none }, accessFlags := 0, code := some k3c0 }
def k3c1 : Code := { maxStack := 4, maxLocals := 3, code := prog_139_method_5_code, exceptionTable := #[], attributes := #[] }
def k3m1 : Method := { name := "overlaps", desc := "(Lcom/example/forest_grammar/forestgrammar/languages/Family$Box;)Z", sig := { parameters := [(.object "com/example/forest_grammar/forestgrammar/languages/Family$Box")], returnType := some .boolean }, accessFlags := 0, code := some k3c1 }
/-- com/example/forest_grammar/forestgrammar/languages/Family$Box -/
def k3 : Class := { plain "com/example/forest_grammar/forestgrammar/languages/Family$Box" (some 0) with
  accessFlags := 48
  interfaces := #[]
  cf := some (fileOf pool3 8 #[.nestHost 102] #[{ accessFlags := 0, nameIndex := 5, descriptorIndex := 23, attributes := #[] }, { accessFlags := 0, nameIndex := 59, descriptorIndex := 60, attributes := #[] }] 48 2 #[] #[{ accessFlags := 16, nameIndex := 11, descriptorIndex := 12, attributes := #[] }, { accessFlags := 16, nameIndex := 15, descriptorIndex := 12, attributes := #[] }])
  fields := #[{ name := "low", type := (.array .long), accessFlags := 16, slot := 0, constantValue := 0 }, { name := "high", type := (.array .long), accessFlags := 16, slot := 1, constantValue := 0 }]
  methods := #[k3m0, k3m1]
  instanceTypes := #[(.array .long), (.array .long)]
  staticTypes := #[]
  resolved := Array.replicate 123 none
  statics := none }

def pool4 : Array CpInfo := pool [(1, u "java/lang/Cloneable"), (0, .class_ 1), (0, u "java/lang/Object"), (0, .class_ 3)] 3

/-- java/lang/Cloneable -/
def k4 : Class := { plain "java/lang/Cloneable" (some 0) with
  accessFlags := 1537
  interfaces := #[]
  cf := some (fileOf pool4 2 #[] #[] 1537 4 #[] #[])
  fields := #[]
  methods := #[]
  instanceTypes := #[]
  staticTypes := #[]
  resolved := Array.replicate 8 none
  statics := none }

def pool5 : Array CpInfo := pool [(1, u "java/io/Serializable"), (0, .class_ 1), (0, u "java/lang/Object"), (0, .class_ 3)] 3

/-- java/io/Serializable -/
def k5 : Class := { plain "java/io/Serializable" (some 0) with
  accessFlags := 1537
  interfaces := #[]
  cf := some (fileOf pool5 2 #[] #[] 1537 4 #[] #[])
  fields := #[]
  methods := #[]
  instanceTypes := #[]
  staticTypes := #[]
  resolved := Array.replicate 8 none
  statics := none }

/-- the primitive byte -/
def k6 : Class := { plain "byte" none with kind := .primitive 'B', accessFlags := 0x411 }
/-- [B -/
def k7 : Class := { plain "[B" (some 0) with kind := .array 6 .byte, interfaces := #[4, 5], accessFlags := 1041 }

/-- the primitive int -/
def k8 : Class := { plain "int" none with kind := .primitive 'I', accessFlags := 0x411 }
/-- [I -/
def k9 : Class := { plain "[I" (some 0) with kind := .array 8 .int, interfaces := #[4, 5], accessFlags := 1041 }

/-- the primitive long -/
def k10 : Class := { plain "long" none with kind := .primitive 'J', accessFlags := 0x411 }
/-- [J -/
def k11 : Class := { plain "[J" (some 0) with kind := .array 10 .long, interfaces := #[4, 5], accessFlags := 1041 }

def heap : Heap := #[]
def classes : Array Class := #[k0, k1, k2, k3, k4, k5, k6, k7, k8, k9, k10, k11]
def interned : List (Array UInt16 × Addr) := []
def slotsUsed : Nat := 0
def theMethod : MethodId := ⟨1, 2⟩
def args0 : Array Value := #[.long 5, .long 5, .long 5, .long 5, .long 5, .long 5]
def aboutOver (below : List Frame) : State where
  vm := { classes := classes, interned := interned.toArray }
  heap := heap
  slotsUsed := slotsUsed
  threads := #[{ frames := .invoking theMethod args0 :: below }]
def below0 : List Frame := [.native { method := ⟨0, 0⟩, args := #[] }]
def about1 : State := aboutOver below0
def p0 : Program := .bare "" "" ""
def e0 : Env := launch0.env 0 0 0
theorem w_frames : about1.frames = Frame.invoking theMethod args0 :: below0 := rfl
set_option maxRecDepth 65536 in
theorem w_args : argsFit about1.vm theMethod args0 = true := by decide +kernel
set_option maxRecDepth 65536 in
theorem w_heap : heapFits about1 = true := by decide +kernel
set_option maxRecDepth 65536 in
theorem w_runnable : about1.curStatus? = some .runnable := by decide +kernel
set_option maxRecDepth 65536 in
theorem w_alone : about1.alone = true := by decide +kernel
set_option maxRecDepth 65536 in
theorem w_named : about1.methodNamed? x = some theMethod := by decide +kernel
set_option maxRecDepth 65536 in
theorem w_hears : about1.hears theMethod below0 = true := by decide +kernel
set_option maxRecDepth 65536 in
theorem w_ripe : about1.ripe theMethod args0 below0 = true := by decide +kernel
theorem w_running : about1.status = .running := rfl
set_option maxRecDepth 65536 in
theorem w_room : about1.hasRoom e0.platform room_1 = true :=
  launch0.hasRoom_least _ room_1 (by decide +kernel) (by decide +kernel) (by decide +kernel) (by decide +kernel) (by decide +kernel) (by decide +kernel)
theorem allAtoms_all (ts : List Jvm.Cond) (a : Array Jvm.Value) (st : Jvm.State) : (allAtoms ts).before a st = ts.all (fun c => c.before a st) := by
  induction ts with
  | nil => rfl
  | cons c t ih =>
    show (Jvm.Cond.and c (allAtoms t)).before a st = _
    rw [Jvm.Cond.before_and, ih, List.all_cons]
def words1 : List Jvm.Cond := Jvm.Cond.code x code maxLocals ret :: tables_1
/-- a 'code' word, met by the world's own term for the bytes: nothing is compared byte by byte -/
theorem code_word {y : MethodName} {bytes : ByteArray} {mx : Nat} {rt : Option FieldType} {a : Array Value} {s : State} {m : MethodId} {meth : Method} {c : Code} (h1 : s.methodNamed? y = some m) (h2 : s.vm.method? m = some meth) (h3 : meth.code = some c) (h4 : c.code = bytes)
    (h5 : (c.maxLocals == mx && c.exceptionTable.isEmpty && decide (c.maxStack ≤ mostOperands) && decide (meth.sig.returnType = rt) && !meth.locks && decide (parseMethodDescriptor y.desc = some meth.sig)) = true) : (Jvm.Cond.code y bytes mx rt).before a s = true := by
  simp only [Bool.and_eq_true, beq_iff_eq, Bool.not_eq_true', decide_eq_true_eq] at h5
  obtain ⟨⟨⟨⟨⟨g1, g2⟩, g3⟩, g4⟩, g5⟩, g6⟩ := h5
  simp [Cond.before, Cond.holds, Cond.value, h1, h2, h3, h4, g1, g2, g3, g4, g5, g6]
def isCode : Jvm.Cond → Bool
  | .code _ _ _ _ => true
  | _ => false
theorem all_split {L : List Jvm.Cond} {P : Jvm.Cond → Bool} (h1 : L.all (fun c => isCode c || P c) = true) (h2 : ∀ c ∈ L.filter isCode, P c = true) : L.all P = true := by
  refine List.all_eq_true.mpr fun c hc => ?_
  have h := List.all_eq_true.mp h1 c hc
  rcases Bool.eq_false_or_eq_true (isCode c) with hi | hi
  · exact h2 c (List.mem_filter.mpr ⟨hc, hi⟩)
  · simpa [hi] using h
set_option maxRecDepth 65536 in
theorem w_c0 : (Jvm.Cond.code x code maxLocals ret).before args0 about1 = true := code_word (m := ⟨1, 2⟩) (meth := k1m2) (c := k1c2) (by decide +kernel) rfl rfl rfl (by decide +kernel)
set_option maxRecDepth 65536 in
theorem w_c1 : (Jvm.Cond.code ({ cls := "java/lang/Math", name := "min", desc := "(JJ)J" } : Jvm.MethodName) jdk_29_method_70_code (4 : Nat) (Option.some Jvm.ClassFile.FieldType.long)).before args0 about1 = true := code_word (m := ⟨2, 2⟩) (meth := k2m2) (c := k2c2) (by decide +kernel) rfl rfl rfl (by decide +kernel)
set_option maxRecDepth 65536 in
theorem w_c2 : (Jvm.Cond.code ({ cls := "java/lang/Math", name := "max", desc := "(JJ)J" } : Jvm.MethodName) jdk_29_method_66_code (4 : Nat) (Option.some Jvm.ClassFile.FieldType.long)).before args0 about1 = true := code_word (m := ⟨2, 1⟩) (meth := k2m1) (c := k2c1) (by decide +kernel) rfl rfl rfl (by decide +kernel)
set_option maxRecDepth 65536 in
theorem w_c3 : (Jvm.Cond.code ({ cls := "com/example/forest_grammar/forestgrammar/languages/BoxOverlapsPinLaw", name := "meet", desc := "(JJJJ)Z" } : Jvm.MethodName) method_2_code (8 : Nat) (Option.some Jvm.ClassFile.FieldType.boolean)).before args0 about1 = true := code_word (m := ⟨1, 1⟩) (meth := k1m1) (c := k1c1) (by decide +kernel) rfl rfl rfl (by decide +kernel)
set_option maxRecDepth 65536 in
theorem w_c4 : (Jvm.Cond.code ({ cls := "com/example/forest_grammar/forestgrammar/languages/Family$Box", name := "<init>", desc := "([J[J)V" } : Jvm.MethodName) prog_139_method_1_code (3 : Nat) (Option.none : Option Jvm.ClassFile.FieldType)).before args0 about1 = true := code_word (m := ⟨3, 0⟩) (meth := k3m0) (c := k3c0) (by decide +kernel) rfl rfl rfl (by decide +kernel)
set_option maxRecDepth 65536 in
theorem w_c5 : (Jvm.Cond.code ({ cls := "java/lang/Object", name := "<init>", desc := "()V" } : Jvm.MethodName) object_method_1_code (1 : Nat) (Option.none : Option Jvm.ClassFile.FieldType)).before args0 about1 = true := code_word (m := ⟨0, 0⟩) (meth := k0m0) (c := k0c0) (by decide +kernel) rfl rfl rfl (by decide +kernel)
set_option maxRecDepth 65536 in
theorem w_c6 : (Jvm.Cond.code ({ cls := "com/example/forest_grammar/forestgrammar/languages/Family$Box", name := "overlaps", desc := "(Lcom/example/forest_grammar/forestgrammar/languages/Family$Box;)Z" } : Jvm.MethodName) prog_139_method_5_code (3 : Nat) (Option.some Jvm.ClassFile.FieldType.boolean)).before args0 about1 = true := code_word (m := ⟨3, 1⟩) (meth := k3m1) (c := k3c1) (by decide +kernel) rfl rfl rfl (by decide +kernel)
def codes1 : List Jvm.Cond := [Jvm.Cond.code x code maxLocals ret, Jvm.Cond.code ({ cls := "java/lang/Math", name := "min", desc := "(JJ)J" } : Jvm.MethodName) jdk_29_method_70_code (4 : Nat) (Option.some Jvm.ClassFile.FieldType.long), Jvm.Cond.code ({ cls := "java/lang/Math", name := "max", desc := "(JJ)J" } : Jvm.MethodName) jdk_29_method_66_code (4 : Nat) (Option.some Jvm.ClassFile.FieldType.long), Jvm.Cond.code ({ cls := "com/example/forest_grammar/forestgrammar/languages/BoxOverlapsPinLaw", name := "meet", desc := "(JJJJ)Z" } : Jvm.MethodName) method_2_code (8 : Nat) (Option.some Jvm.ClassFile.FieldType.boolean), Jvm.Cond.code ({ cls := "com/example/forest_grammar/forestgrammar/languages/Family$Box", name := "<init>", desc := "([J[J)V" } : Jvm.MethodName) prog_139_method_1_code (3 : Nat) (Option.none : Option Jvm.ClassFile.FieldType), Jvm.Cond.code ({ cls := "java/lang/Object", name := "<init>", desc := "()V" } : Jvm.MethodName) object_method_1_code (1 : Nat) (Option.none : Option Jvm.ClassFile.FieldType), Jvm.Cond.code ({ cls := "com/example/forest_grammar/forestgrammar/languages/Family$Box", name := "overlaps", desc := "(Lcom/example/forest_grammar/forestgrammar/languages/Family$Box;)Z" } : Jvm.MethodName) prog_139_method_5_code (3 : Nat) (Option.some Jvm.ClassFile.FieldType.boolean)]
set_option maxRecDepth 65536 in
theorem codes_eq : words1.filter isCode = codes1 := rfl
theorem w_codes : ∀ c ∈ words1.filter isCode, c.before args0 about1 = true := by
  rw [codes_eq]
  intro c hc
  simp only [codes1, List.mem_cons, List.not_mem_nil, or_false] at hc
  rcases hc with rfl | rfl | rfl | rfl | rfl | rfl | rfl
  · exact w_c0
  · exact w_c1
  · exact w_c2
  · exact w_c3
  · exact w_c4
  · exact w_c5
  · exact w_c6
set_option maxRecDepth 65536 in
theorem w_t1 : (words1.take 24).all (fun c => isCode c || c.before args0 about1) = true := by decide +kernel
set_option maxRecDepth 65536 in
theorem w_t2 : (words1.drop 24).all (fun c => isCode c || c.before args0 about1) = true := by decide +kernel
theorem w_tables : (allAtoms (Jvm.Cond.code x code maxLocals ret :: tables_1)).before args0 about1 = true := by
  rw [allAtoms_all]
  show words1.all (fun c => c.before args0 about1) = true
  refine all_split ?_ w_codes
  rw [← List.take_append_drop 24 words1, List.all_append, w_t1, w_t2]
  rfl
set_option maxRecDepth 65536 in
theorem w_case : (Jvm.Cond.and given_1 narrow_1).before args0 about1 = true := by decide +kernel
theorem w_applies : (headSpec (Jvm.Cond.code x code maxLocals ret :: tables_1) room_1).applies x e0.platform about1 = true :=
  (Spec.applies_iff w_frames).mpr ⟨w_running, w_runnable, w_alone, w_named, w_hears, w_ripe, w_room, w_tables⟩
theorem atStart : AtStart classFile x code maxLocals ret World_1 tables_1 room_1 Calls_1 rest_1 Pre_1 launch0 p0 e0 about1 theMethod args0 below0 :=
  ⟨lists_1, trivial, launch0.admits_env _ _ _, launch0.least_env, fairChoices_fair.cas, fairChoices_fair.clock, w_frames, w_args, w_heap, w_applies, trivial, trivial, w_case⟩
end start1
theorem witness_1 : WitnessClaimed_1 := ⟨start1.p0, start1.e0, start1.about1, start1.theMethod, start1.args0, start1.below0, start1.atStart⟩
end Jvm.Pilot.@@N@@
