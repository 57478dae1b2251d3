import JvmDerived
import JvmDerived.Pilot.@@N@@Statement
import JvmDerived.Pilot.@@N@@Code
set_option linter.unusedVariables false
set_option linter.unusedSimpArgs false
namespace Jvm.RoadKit
open Sem ClassFile Op Lib Jvm.Stand Jvm.Free Jvm.LawKit
section New
variable {p : Program} {l : Launch} {e : Env} {R : Room} {s : State} {m : MethodId} {args : Array Value} {below : List Frame} {meth : Method} {c : Code} {T : State} {locs : List Loc} {cells slots : Nat}
theorem retI (X : Stand p l e R s m args below meth c T locs cells slots) (hx : p.tables.exec = Jvm.exec) {pc : Nat} {Ls : Array Slot} {z : Int32} {rest : List Value} (hret : meth.sig.returnType = some .int) (hd : decode c.code pc = .ok (.ireturn, 1)) {fs : List Frame}
    (hl : ∀ (f : JFrame) (acts : List Action), f.method = m → f.locked = none → f.entered = [] → (doReturn e (T.setTop f) acts (some (.int z))).1 = T.setFrames fs) : Steps p.tables e below (T.setTop (mkF m pc Ls (.int z :: rest))) (T.setFrames fs) := by
  have hm' : T.vm.method? m = some meth := X.method'
  have hn : narrow .int (.int z) = .int z := rfl
  show Steps p.tables e below (T.setTop { method := m, pc := pc, locals := Ls, stack := _ :: rest, locked := none }) _
  jvm_step X.here [X.here.top, hx, hd, hm', hret, hn]
  first | (intro acts; rw [hl _ acts rfl rfl rfl]) | rw [hl _ _ rfl rfl rfl]
  exact Steps.refl _
end New
end Jvm.RoadKit
namespace Jvm.Pilot.@@N@@
open Jvm Jvm.ClassFile Sem Op Lib Jvm.Free Jvm.Stand Jvm.LawKit Jvm.RoadKit Bundle Jvm.Pilot.@@N@@.Jvm.D
section OwnKit
variable {p : Program} {l : Launch} {e : Env} {R : Room} {s : State} {m : MethodId} {args : Array Value} {below : List Frame} {meth : Method} {c : Code} {T T' : State} {locs : List Loc} {cells slots : Nat} {Z : State} {a0 : Array Value} {h h' : Heap} {n0 : Nat} {a : Addr}
/-- from this frame the walk ends by a return, and leaves what Q says -/
def own_Ends (p : Program) (e : Env) (below : List Frame) (s : State) (k n : Nat) (Q : Option Value → Heap → List Loc → Prop) (T : State) (F : JFrame) : Prop :=
  ∃ s₂ o, Steps p.tables e below (T.setTop F) s₂ ∧ s₂.status = .running ∧ Ended s₂ below o ∧ ∃ v L, o = .returned v ∧ Q v s₂.heap L ∧ FrameEnd s o s₂ L k n
theorem own_st {F F' : JFrame} {k n : Nat} {Q : Option Value → Heap → List Loc → Prop} (q : ∀ t, Steps p.tables e below (T'.setTop F') t → Steps p.tables e below (T.setTop F) t) (r : own_Ends p e below s k n Q T' F') : own_Ends p e below s k n Q T F := by
  obtain ⟨s₂, o, h1, h2⟩ := r
  exact ⟨s₂, o, q _ h1, h2⟩
theorem own_retN (X : Stand p l e R s m args below meth c T locs cells slots) (hx : p.tables.exec = Jvm.exec) (hlk : meth.locks = false) {t : FieldType} (hret : meth.sig.returnType = some t) (ht : t = .boolean ∨ t = .byte ∨ t = .char ∨ t = .short) {pc : Nat} {Ls : Array Slot} {z : Int32} {rest : List Value}
    (hd : decode c.code pc = .ok (.ireturn, 1)) {k n : Nat} {Q : Option Value → Heap → List Loc → Prop} (hk : cells ≤ k) (hn : slots ≤ n) (q : Q (some (.int (nar t z))) T.heap locs) : own_Ends p e below s k n Q T (mkF m pc Ls (.int z :: rest)) := by
  obtain ⟨fs, hr, hrun, hended, hW, hsame⟩ := X.leave (v := some (.int (nar t z))) (fun h => by rw [hret] at h; cases h) hlk
  exact ⟨_, _, retN X hx hret ht hd hr, hrun, hended, _, _, rfl, q, ⟨_, rfl⟩, hW, hsame.mono hk hn⟩
theorem own_retI (X : Stand p l e R s m args below meth c T locs cells slots) (hx : p.tables.exec = Jvm.exec) (hlk : meth.locks = false) (hret : meth.sig.returnType = some .int) {pc : Nat} {Ls : Array Slot} {z : Int32} {rest : List Value}
    (hd : decode c.code pc = .ok (.ireturn, 1)) {k n : Nat} {Q : Option Value → Heap → List Loc → Prop} (hk : cells ≤ k) (hn : slots ≤ n) (q : Q (some (.int z)) T.heap locs) : own_Ends p e below s k n Q T (mkF m pc Ls (.int z :: rest)) := by
  obtain ⟨fs, hr, hrun, hended, hW, hsame⟩ := X.leave (v := some (.int z)) (fun h => by rw [hret] at h; cases h) hlk
  exact ⟨_, _, retI X hx hret hd hr, hrun, hended, _, _, rfl, q, ⟨_, rfl⟩, hW, hsame.mono hk hn⟩
theorem own_retL (X : Stand p l e R s m args below meth c T locs cells slots) (hx : p.tables.exec = Jvm.exec) (hlk : meth.locks = false) (hret : meth.sig.returnType = some .long) {pc : Nat} {Ls : Array Slot} {z : Int64}
    (hd : decode c.code pc = .ok (.lreturn, 1)) {k n : Nat} {Q : Option Value → Heap → List Loc → Prop} (hk : cells ≤ k) (hn : slots ≤ n) (q : Q (some (.long z)) T.heap locs) : own_Ends p e below s k n Q T (mkF m pc Ls [.long z]) := by
  obtain ⟨fs, hr, hrun, hended, hW, hsame⟩ := X.leave (v := some (.long z)) (fun h => by rw [hret] at h; cases h) hlk
  exact ⟨_, _, X.lreturnOut hx hret hd hr, hrun, hended, _, _, rfl, q, ⟨_, rfl⟩, hW, hsame.mono hk hn⟩
theorem own_retV (X : Stand p l e R s m args below meth c T locs cells slots) (hx : p.tables.exec = Jvm.exec) (hlk : meth.locks = false) (hret : meth.sig.returnType = none) {pc : Nat} {Ls : Array Slot}
    (hd : decode c.code pc = .ok (.return_, 1)) {k n : Nat} {Q : Option Value → Heap → List Loc → Prop} (hk : cells ≤ k) (hn : slots ≤ n) (q : Q none T.heap locs) : own_Ends p e below s k n Q T (mkF m pc Ls []) := by
  obtain ⟨fs, hr, hrun, hended, hW, hsame⟩ := X.leave (v := none) (fun _ => rfl) hlk
  exact ⟨_, _, X.returnOut hx hret hd hr, hrun, hended, _, _, rfl, q, ⟨_, rfl⟩, hW, hsame.mono hk hn⟩
/-- a body's contract: called with these values in heap h it returns, and Q holds of what it returns, of the heap and of the places written -/
abbrev own_Met (l : Launch) (Z : State) (y : MethodName) (bytes : ByteArray) (maxL : Nat) (ret : Option FieldType) (ws : List Jvm.Cond) (rm : Room) (as' : Array Value) (h : Heap) (Q : Option Value → Heap → List Loc → Prop) : Prop :=
  MetFree l y (head1 (Jvm.Cond.code y bytes maxL ret :: ws) rm) (fun a U => a = as' ∧ Z.Warmed39 U.vm ∧ U.heap = h) (fun _ _ _ _ _ => True) (fun _ U o U' => ∃ v L, o = .returned v ∧ Q v U'.heap L ∧ FrameEnd U o U' L rm.cells rm.slots)
theorem own_body {y : MethodName} {bytes : ByteArray} {maxL : Nat} {ret : Option FieldType} {ws : List Jvm.Cond} {rm : Room} {as' : Array Value} {Q : Option Value → Heap → List Loc → Prop} (hpf : plainFor y = true)
    (body : ∀ (p : Program) (e : Env) (s : State) (m : MethodId) (below : List Frame) (meth : Method) (c : Code) (T : State), Stand p l e rm s m as' below meth c T [] 0 0 → p.tables.exec = Jvm.exec → c.code = bytes → c.maxLocals = maxL → meth.sig.returnType = ret → meth.locks = false → Z.Warmed39 s.vm → s.vm.findClass y.cls = some m.cls → meth.name = y.name → T.heap = h →
      own_Ends p e below s rm.cells rm.slots Q T (entryFrame m as' maxL)) : own_Met l Z y bytes maxL ret ws rm as' h Q := by
  refine MetFree.of_bodySF hpf hisR ?_
  intro p e s m args below meth c s₁ Bd hml0 hP hK
  obtain ⟨rfl, hZ, hh⟩ := hP
  exact body p e s m below meth c s₁ (Stand.of_body Bd) Bd.exec Bd.bytes hml0 Bd.returns Bd.notSynchronized hZ (findClass_of_methodNamed Bd.named) (name_of_methodNamed Bd.named Bd.method).1 (by rw [← hh, Bd.state]; rfl)
theorem own_entry {F F' : JFrame} {k n : Nat} {Q : Option Value → Heap → List Loc → Prop} (q : F = F') (r : own_Ends p e below s k n Q T F') : own_Ends p e below s k n Q T F := q ▸ r
/-- what a body without effect leaves -/
abbrev own_PQ (w : Value) (h0 : Heap) (n0 : Nat) : Option Value → Heap → List Loc → Prop := fun v h L => v = some w ∧ Fr n0 L ∧ h = h0
theorem own_PQi {w w' : Value} {h0 : Heap} {L : List Loc} (hv : w = w') (N : Fr n0 L) (hh : h = h0) : own_PQ w' h0 n0 (some w) h L := ⟨congrArg some hv, N, hh⟩
/-- a static call by the callee's contract -/
theorem own_callS (X : Stand p l e R s m args below meth c T locs cells slots) (hx : p.tables.exec = Jvm.exec) (hZ : Z.Warmed39 s.vm) {own : String} {index : Nat} {y : MethodName} {bytes : ByteArray} {maxL : Nat} {ret : Option FieldType} {rm : Room} (W : Nat) {as' : Array Value} {Q : Option Value → Heap → List Loc → Prop}
    (hown : s.vm.findClass own = some m.cls) (w1 : (Jvm.Cond.methodLink own index y).before a0 Z = true) (w2 : (Jvm.Cond.static y).before a0 Z = true) (w3 : (Jvm.Cond.initialized y.cls).before a0 Z = true) (w4 : (Jvm.Cond.code y bytes maxL ret).before a0 Z = true)
    (hy : y.cls ≠ "java/lang/invoke/MethodHandle" ∧ y.cls ≠ "java/lang/invoke/VarHandle") (hM : own_Met l Z y bytes maxL ret [] rm as' h Q) (hf : rm.frames + 1 ≤ R.frames) (hl : W + (maxL + 11) + rm.locals ≤ R.locals) (eT : T.heap = h) (hc : cells + rm.cells ≤ R.cells) (hs : slots + rm.slots ≤ R.slots)
    {g : JFrame} (hg : g.method = m) (hsize : g.locals.size = c.maxLocals) {argsL rest : List Value} (hlen : ∀ sig, parseMethodDescriptor y.desc = some sig → argsL.length = sig.parameters.length) (has : argsL.toArray = as') (hst : g.stack = argsL.reverse ++ rest)
    (hW : 2 * g.monitorRoom + (rest.map fun v => v.category).sum ≤ W) (hd : decode c.code g.pc = .ok (.invokestatic index, 3)) :
    ∃ (v : Option Value) (T' : State) (L : List Loc), Stand p l e R s m args below meth c T' (locs ++ L) (cells + rm.cells) (slots + rm.slots) ∧ Q v T'.heap L ∧
      ∀ t, Steps p.tables e below (T'.setTop { g with pc := g.pc + 3, stack := v.toList ++ rest }) t → Steps p.tables e below (T.setTop g) t := by
  obtain ⟨v, _, ⟨T6, L6, k6, n6⟩, -, X6, ⟨Lc6, hQ6, l6, y6, z6⟩, st6⟩ := Jvm.LawKit.callS X hx hown (mvT hZ w1) (mvT hZ w2) (mvT hZ w3) (mvT hZ w4) hy (backOf (W := W) hM hZ w4 w3 hf hl) hg hsize (argsL := argsL) (rest := rest) hlen hst hW hd (fun _ _ => ⟨has, eT, hc, hs⟩)
  dsimp only [Pt.U, Pt.locs, Pt.cells, Pt.slots] at X6 l6 y6 z6 st6 hQ6
  subst l6 y6 z6
  exact ⟨v, T6, Lc6, X6, hQ6, st6⟩
/-- a static call without effect -/
theorem own_callP (X : Stand p l e R s m args below meth c T locs cells slots) (hx : p.tables.exec = Jvm.exec) (hZ : Z.Warmed39 s.vm) {own : String} {index : Nat} {y : MethodName} {bytes : ByteArray} {maxL : Nat} {ret : Option FieldType} {rm : Room} (W : Nat) {as' : Array Value} {w : Value}
    (hown : s.vm.findClass own = some m.cls) (w1 : (Jvm.Cond.methodLink own index y).before a0 Z = true) (w2 : (Jvm.Cond.static y).before a0 Z = true) (w3 : (Jvm.Cond.initialized y.cls).before a0 Z = true) (w4 : (Jvm.Cond.code y bytes maxL ret).before a0 Z = true)
    (hy : y.cls ≠ "java/lang/invoke/MethodHandle" ∧ y.cls ≠ "java/lang/invoke/VarHandle") (hM : own_Met l Z y bytes maxL ret [] rm as' h (own_PQ w h n0)) (hf : rm.frames + 1 ≤ R.frames) (hl : W + (maxL + 11) + rm.locals ≤ R.locals) (rc : rm.cells = 0) (rs : rm.slots = 0) (eT : T.heap = h) (N : Fr n0 locs) (hc : cells ≤ R.cells) (hs : slots ≤ R.slots)
    {g : JFrame} (hg : g.method = m) (hsize : g.locals.size = c.maxLocals) {argsL rest : List Value} (hlen : ∀ sig, parseMethodDescriptor y.desc = some sig → argsL.length = sig.parameters.length) (has : argsL.toArray = as') (hst : g.stack = argsL.reverse ++ rest)
    (hW : 2 * g.monitorRoom + (rest.map fun v => v.category).sum ≤ W) (hd : decode c.code g.pc = .ok (.invokestatic index, 3)) :
    ∃ (T' : State) (locs' : List Loc), Stand p l e R s m args below meth c T' locs' cells slots ∧ T'.heap = h ∧ Fr n0 locs' ∧
      ∀ t, Steps p.tables e below (T'.setTop { g with pc := g.pc + 3, stack := w :: rest }) t → Steps p.tables e below (T.setTop g) t := by
  obtain ⟨v, T', L, X', ⟨rfl, NL, hh⟩, st⟩ := own_callS X hx hZ W hown w1 w2 w3 w4 hy hM hf hl eT (by rw [rc]; exact hc) (by rw [rs]; exact hs) hg hsize hlen has hst hW hd
  rw [rc, rs] at X'
  exact ⟨T', _, X', hh, Fr.app N NL, st⟩
/-- an array of ints, bytes, ..: its length and all its elements -/
def own_AI (Z : State) (h : Heap) (a : Addr) (ty : FieldType) (n : Int32) (xs : List Int32) : Prop := ∃ k, Arv Z h a k ty n (xs.map Value.int) (.int 0) ∧ xs.length = n.toNatClampNeg
def own_AJ (Z : State) (h : Heap) (a : Addr) (n : Int32) (xs : List Int64) : Prop := ∃ k, Arv Z h a k .long n (xs.map Value.long) (.long 0) ∧ xs.length = n.toNatClampNeg
theorem own_AI.ext {ty : FieldType} {n : Int32} {xs : List Int32} (V : own_AI Z h a ty n xs) (E : Ext h h') : own_AI Z h' a ty n xs := by
  obtain ⟨k, V, q⟩ := V; exact ⟨k, V.ext E, q⟩
theorem own_AJ.ext {n : Int32} {xs : List Int64} (V : own_AJ Z h a n xs) (E : Ext h h') : own_AJ Z h' a n xs := by
  obtain ⟨k, V, q⟩ := V; exact ⟨k, V.ext E, q⟩
theorem own_AI.other {ty : FieldType} {n : Int32} {xs : List Int32} {b : Addr} {sl : Nat} {v : Value} (V : own_AI Z h a ty n xs) (W : Wr h h' b sl v) (q : a ≠ b) : own_AI Z h' a ty n xs := by
  obtain ⟨k, V, r⟩ := V; exact ⟨k, V.other W q, r⟩
theorem own_AJ.other {n : Int32} {xs : List Int64} {b : Addr} {sl : Nat} {v : Value} (V : own_AJ Z h a n xs) (W : Wr h h' b sl v) (q : a ≠ b) : own_AJ Z h' a n xs := by
  obtain ⟨k, V, r⟩ := V; exact ⟨k, V.other W q, r⟩
theorem own_AI.keep {ty : FieldType} {n : Int32} {xs : List Int32} {ws : List Addr} (V : own_AI Z h a ty n xs) (K : Keep h h' ws) (q : a ∉ ws) : own_AI Z h' a ty n xs := by
  obtain ⟨k, V, r⟩ := V; exact ⟨k, V.keep K q, r⟩
theorem own_AJ.keep {n : Int32} {xs : List Int64} {ws : List Addr} (V : own_AJ Z h a n xs) (K : Keep h h' ws) (q : a ∉ ws) : own_AJ Z h' a n xs := by
  obtain ⟨k, V, r⟩ := V; exact ⟨k, V.keep K q, r⟩
theorem own_AI.lt {ty : FieldType} {n : Int32} {xs : List Int32} (V : own_AI Z h a ty n xs) : a < h.size := by
  obtain ⟨k, V, q⟩ := V; exact V.lt
theorem own_AJ.lt {n : Int32} {xs : List Int64} (V : own_AJ Z h a n xs) : a < h.size := by
  obtain ⟨k, V, q⟩ := V; exact V.lt
theorem own_AI.len {ty : FieldType} {n : Int32} {xs : List Int32} (V : own_AI Z h a ty n xs) : xs.length = n.toNatClampNeg := by
  obtain ⟨k, V, q⟩ := V; exact q
theorem own_AJ.len {n : Int32} {xs : List Int64} (V : own_AJ Z h a n xs) : xs.length = n.toNatClampNeg := by
  obtain ⟨k, V, q⟩ := V; exact q
theorem own_map_getD {α : Type} (f : α → Value) (d : α) (xs : List α) (i : Nat) : (xs.map f).getD i (f d) = f (xs.getD i d) := by
  simp only [List.getD_eq_getElem?_getD, List.getElem?_map]
  cases xs[i]? <;> rfl
theorem own_bound {j n : Int32} {N : Nat} (hN : N = n.toNatClampNeg) (hj : ¬ j < 0) (hn : ¬ n < 0) (q : j.toNatClampNeg < N) : ¬ j < 0 ∧ j < n := by
  refine ⟨hj, ?_⟩
  rw [hN] at q
  rw [Int32.lt_iff_toInt_lt] at hj hn ⊢
  have e0 : (0 : Int32).toInt = 0 := rfl
  simp only [Int32.toNatClampNeg] at q
  omega
/-- newarray of an int's kind -/
theorem own_newI (X : Stand p l e R s m args below meth c T locs cells slots) (hx : p.tables.exec = Jvm.exec) (hZ : Z.Warmed39 s.vm) {aty : ArrayType} (w : (Jvm.Cond.arrayClass (newarray.typeOf aty)).before a0 Z = true) (eT : T.heap = h) (Z0 : n0 ≤ h.size) {g : JFrame} (hg : g.method = m) {n : Int32} {rest : List Value} (hs : g.stack = .int n :: rest)
    (hd : decode c.code g.pc = .ok (.newarray aty, 2)) (hdv : defaultValue (newarray.typeOf aty) = .int 0) (hn : ¬ n < 0) (cap N : Nat) (hN : n.toNatClampNeg = N) (hcap : N ≤ cap) (hb : cap * 8 ≤ 536870912) (hc : cells + 1 ≤ R.cells) (hl : slots + cap ≤ R.slots) :
    ∃ (T' : State) (h' : Heap) (b : Addr), Stand p l e R s m args below meth c T' locs (cells + 1) (slots + cap) ∧ T'.heap = h' ∧ Ext h h' ∧ b = h.size ∧ n0 ≤ b ∧ n0 ≤ h'.size ∧ own_AI Z h' b (newarray.typeOf aty) n (List.replicate N 0) ∧
      ∀ t, Steps p.tables e below (T'.setTop { g with pc := g.pc + 2, stack := .ref b :: rest }) t → Steps p.tables e below (T.setTop g) t := by
  obtain ⟨T', h', k, X', e', E, A, st⟩ := newP X hx hZ w eT hg hd hs hn (cap := cap) (by rw [hN]; exact hcap) hb hc hl
  refine ⟨T', h', h.size, X', e', E, rfl, Z0, Nat.le_trans Z0 E.1, ⟨k, ?_, by rw [List.length_replicate, hN]⟩, st⟩
  have V := Arv.new A hn
  rw [hdv] at V
  rw [List.map_replicate]
  exact V.pad (vs' := List.replicate N (.int 0)) (fun i => by have q := pad_rep [] (Value.int 0) N i; rw [List.nil_append] at q; exact q)
theorem own_newJ (X : Stand p l e R s m args below meth c T locs cells slots) (hx : p.tables.exec = Jvm.exec) (hZ : Z.Warmed39 s.vm) (w : (Jvm.Cond.arrayClass .long).before a0 Z = true) (eT : T.heap = h) (Z0 : n0 ≤ h.size) {g : JFrame} (hg : g.method = m) {n : Int32} {rest : List Value} (hs : g.stack = .int n :: rest)
    (hd : decode c.code g.pc = .ok (.newarray .long, 2)) (hn : ¬ n < 0) (cap N : Nat) (hN : n.toNatClampNeg = N) (hcap : N ≤ cap) (hb : cap * 8 ≤ 536870912) (hc : cells + 1 ≤ R.cells) (hl : slots + cap ≤ R.slots) :
    ∃ (T' : State) (h' : Heap) (b : Addr), Stand p l e R s m args below meth c T' locs (cells + 1) (slots + cap) ∧ T'.heap = h' ∧ Ext h h' ∧ b = h.size ∧ n0 ≤ b ∧ n0 ≤ h'.size ∧ own_AJ Z h' b n (List.replicate N 0) ∧
      ∀ t, Steps p.tables e below (T'.setTop { g with pc := g.pc + 2, stack := .ref b :: rest }) t → Steps p.tables e below (T.setTop g) t := by
  obtain ⟨T', h', k, X', e', E, A, st⟩ := newP X hx hZ (aty := .long) w eT hg hd hs hn (cap := cap) (by rw [hN]; exact hcap) hb hc hl
  refine ⟨T', h', h.size, X', e', E, rfl, Z0, Nat.le_trans Z0 E.1, ⟨k, ?_, by rw [List.length_replicate, hN]⟩, st⟩
  have V := Arv.new A hn
  rw [List.map_replicate]
  exact V.pad (vs' := List.replicate N (.long 0)) (fun i => by have q := pad_rep [] (Value.long 0) N i; rw [List.nil_append] at q; exact q)
/-- a byte stored -/
theorem own_stB (X : Stand p l e R s m args below meth c T locs cells slots) (hx : p.tables.exec = Jvm.exec) (hZ : Z.Warmed39 s.vm) (eT : T.heap = h) (N : Fr n0 locs) {n : Int32} {xs ys : List Int32} (V : own_AI Z h a .byte n xs) (ga : n0 ≤ a) {g : JFrame} (hg : g.method = m) {j x : Int32} {rest : List Value} (hs : g.stack = .int x :: .int j :: .ref a :: rest)
    (hd : decode c.code g.pc = .ok (.bastore, 1)) (hj : ¬ j < 0) (hi : j.toNatClampNeg < xs.length) (hy : xs.set j.toNatClampNeg (x.toInt8.toInt32) = ys) :
    ∃ (T' : State) (h' : Heap) (locs' : List Loc), Stand p l e R s m args below meth c T' locs' cells slots ∧ T'.heap = h' ∧ Fr n0 locs' ∧ Wr h h' a j.toNatClampNeg (.int (x.toInt8.toInt32)) ∧ own_AI Z h' a .byte n ys ∧
      ∀ t, Steps p.tables e below (T'.setTop { g with pc := g.pc + 1, stack := rest }) t → Steps p.tables e below (T.setTop g) t := by
  obtain ⟨k, ⟨cl, Ar, q, S, M, H, G⟩, hl⟩ := V
  obtain ⟨T', h', X', e', W, st⟩ := stB X hx hZ eT Ar (j := j) (x := x) (inb_of S (own_bound hl hj M hi)) hg hs hd
  refine ⟨T', h', _, X', e', Fr.snoc X' N ga, W, ?_, st⟩
  subst hy
  refine ⟨k, ?_, by rw [List.length_set]; exact hl⟩
  have := Arv.set Ar q S M H G (fits_nar_byte x) W j.toNatClampNeg rfl (by rw [List.length_map]; exact hi)
  rw [List.map_set]
  exact this
theorem own_stI (X : Stand p l e R s m args below meth c T locs cells slots) (hx : p.tables.exec = Jvm.exec) (hZ : Z.Warmed39 s.vm) (eT : T.heap = h) (N : Fr n0 locs) {n : Int32} {xs ys : List Int32} (V : own_AI Z h a .int n xs) (ga : n0 ≤ a) {g : JFrame} (hg : g.method = m) {j x : Int32} {rest : List Value} (hs : g.stack = .int x :: .int j :: .ref a :: rest)
    (hd : decode c.code g.pc = .ok (.iastore, 1)) (hj : ¬ j < 0) (hi : j.toNatClampNeg < xs.length) (hy : xs.set j.toNatClampNeg x = ys) :
    ∃ (T' : State) (h' : Heap) (locs' : List Loc), Stand p l e R s m args below meth c T' locs' cells slots ∧ T'.heap = h' ∧ Fr n0 locs' ∧ Wr h h' a j.toNatClampNeg (.int x) ∧ own_AI Z h' a .int n ys ∧
      ∀ t, Steps p.tables e below (T'.setTop { g with pc := g.pc + 1, stack := rest }) t → Steps p.tables e below (T.setTop g) t := by
  obtain ⟨k, ⟨cl, Ar, q, S, M, H, G⟩, hl⟩ := V
  obtain ⟨T', h', X', e', W, st⟩ := stI X hx hZ eT Ar (j := j) (x := x) (inb_of S (own_bound hl hj M hi)) hg hs hd
  refine ⟨T', h', _, X', e', Fr.snoc X' N ga, W, ?_, st⟩
  subst hy
  refine ⟨k, ?_, by rw [List.length_set]; exact hl⟩
  have := Arv.set Ar q S M H G (v := .int x) rfl W j.toNatClampNeg rfl (by rw [List.length_map]; exact hi)
  rw [List.map_set]
  exact this
theorem own_stJ (X : Stand p l e R s m args below meth c T locs cells slots) (hx : p.tables.exec = Jvm.exec) (hZ : Z.Warmed39 s.vm) (eT : T.heap = h) (N : Fr n0 locs) {n : Int32} {xs ys : List Int64} (V : own_AJ Z h a n xs) (ga : n0 ≤ a) {g : JFrame} (hg : g.method = m) {j : Int32} {x : Int64} {rest : List Value} (hs : g.stack = .long x :: .int j :: .ref a :: rest)
    (hd : decode c.code g.pc = .ok (.lastore, 1)) (hj : ¬ j < 0) (hi : j.toNatClampNeg < xs.length) (hy : xs.set j.toNatClampNeg x = ys) :
    ∃ (T' : State) (h' : Heap) (locs' : List Loc), Stand p l e R s m args below meth c T' locs' cells slots ∧ T'.heap = h' ∧ Fr n0 locs' ∧ Wr h h' a j.toNatClampNeg (.long x) ∧ own_AJ Z h' a n ys ∧
      ∀ t, Steps p.tables e below (T'.setTop { g with pc := g.pc + 1, stack := rest }) t → Steps p.tables e below (T.setTop g) t := by
  obtain ⟨k, ⟨cl, Ar, q, S, M, H, G⟩, hl⟩ := V
  obtain ⟨T', h', X', e', W, st⟩ := stJ X hx hZ eT Ar (j := j) (x := x) (inb_of S (own_bound hl hj M hi)) hg hs hd
  refine ⟨T', h', _, X', e', Fr.snoc X' N ga, W, ?_, st⟩
  subst hy
  refine ⟨k, ?_, by rw [List.length_set]; exact hl⟩
  have := Arv.set Ar q S M H G (v := .long x) rfl W j.toNatClampNeg rfl (by rw [List.length_map]; exact hi)
  rw [List.map_set]
  exact this
theorem own_baload (X : Stand p l e R s m args below meth c T locs cells slots) (hx : p.tables.exec = Jvm.exec) (hZ : Z.Warmed39 s.vm) (eT : T.heap = h) {n : Int32} {xs : List Int32} (V : own_AI Z h a .byte n xs) {g : JFrame} (hg : g.method = m) {j : Int32} {rest : List Value} (hs : g.stack = .int j :: .ref a :: rest)
    (hd : decode c.code g.pc = .ok (.baload, 1)) (hj : ¬ j < 0) (hi : j.toNatClampNeg < xs.length) {w : Int32} (hv : xs.getD j.toNatClampNeg 0 = w) :
    ∀ t, Steps p.tables e below (T.setTop { g with pc := g.pc + 1, stack := .int w :: rest }) t → Steps p.tables e below (T.setTop g) t := by
  obtain ⟨k, ⟨cl, Ar, q, S, M, H, G⟩, hl⟩ := V
  have hin := inb_of (j := j) S (own_bound hl hj M hi)
  have hat := Has.at H hin (v := .int w) (by rw [own_map_getD Value.int 0, hv])
  exact fun t k => X.baloadBytes hx (j := j) (v := .int w) (by rw [eT]; exact Ar.1) (State.isArrayOf_alike hZ.alike Ar.2.1) Ar.2.2 hin hat hg hs hd _ k
theorem own_iaload (X : Stand p l e R s m args below meth c T locs cells slots) (hx : p.tables.exec = Jvm.exec) (hZ : Z.Warmed39 s.vm) (eT : T.heap = h) {n : Int32} {xs : List Int32} (V : own_AI Z h a .int n xs) {g : JFrame} (hg : g.method = m) {j : Int32} {rest : List Value} (hs : g.stack = .int j :: .ref a :: rest)
    (hd : decode c.code g.pc = .ok (.iaload, 1)) (hj : ¬ j < 0) (hi : j.toNatClampNeg < xs.length) {w : Int32} (hv : xs.getD j.toNatClampNeg 0 = w) :
    ∀ t, Steps p.tables e below (T.setTop { g with pc := g.pc + 1, stack := .int w :: rest }) t → Steps p.tables e below (T.setTop g) t := by
  obtain ⟨k, ⟨cl, Ar, q, S, M, H, G⟩, hl⟩ := V
  have hin := inb_of (j := j) S (own_bound hl hj M hi)
  have hat := Has.at H hin (v := .int w) (by rw [own_map_getD Value.int 0, hv])
  exact fun t k => X.iaload hx (j := j) (v := .int w) (by rw [eT]; exact Ar.1) (State.isArrayOf_alike hZ.alike Ar.2.1) Ar.2.2 hin hat hg hs hd _ k
theorem own_laload (X : Stand p l e R s m args below meth c T locs cells slots) (hx : p.tables.exec = Jvm.exec) (hZ : Z.Warmed39 s.vm) (eT : T.heap = h) {n : Int32} {xs : List Int64} (V : own_AJ Z h a n xs) {g : JFrame} (hg : g.method = m) {j : Int32} {rest : List Value} (hs : g.stack = .int j :: .ref a :: rest)
    (hd : decode c.code g.pc = .ok (.laload, 1)) (hj : ¬ j < 0) (hi : j.toNatClampNeg < xs.length) {w : Int64} (hv : xs.getD j.toNatClampNeg 0 = w) :
    ∀ t, Steps p.tables e below (T.setTop { g with pc := g.pc + 1, stack := .long w :: rest }) t → Steps p.tables e below (T.setTop g) t := by
  obtain ⟨k, ⟨cl, Ar, q, S, M, H, G⟩, hl⟩ := V
  have hin := inb_of (j := j) S (own_bound hl hj M hi)
  have hat := Has.at H hin (v := .long w) (by rw [own_map_getD Value.long 0, hv])
  exact fun t k => X.laload hx (j := j) (v := .long w) (by rw [eT]; exact Ar.1) (State.isArrayOf_alike hZ.alike Ar.2.1) Ar.2.2 hin hat hg hs hd _ k
theorem own_lenI (X : Stand p l e R s m args below meth c T locs cells slots) (hx : p.tables.exec = Jvm.exec) (hZ : Z.Warmed39 s.vm) (eT : T.heap = h) {ty : FieldType} {n : Int32} {xs : List Int32} (V : own_AI Z h a ty n xs) {g : JFrame} (hg : g.method = m) {rest : List Value} (hs : g.stack = .ref a :: rest)
    (hd : decode c.code g.pc = .ok (.arraylength, 1)) :
    ∀ t, Steps p.tables e below (T.setTop { g with pc := g.pc + 1, stack := .int n :: rest }) t → Steps p.tables e below (T.setTop g) t := by
  obtain ⟨k, ⟨cl, Ar, q, S, M, H, G⟩, hl⟩ := V
  intro t k
  refine X.arraylength hx (cell := cl) (by rw [eT]; exact Ar.1) (State.isArrayOf_alike hZ.alike Ar.2.1) hg hs hd _ ?_
  rw [len_of S M]
  exact k
theorem own_lenJ (X : Stand p l e R s m args below meth c T locs cells slots) (hx : p.tables.exec = Jvm.exec) (hZ : Z.Warmed39 s.vm) (eT : T.heap = h) {n : Int32} {xs : List Int64} (V : own_AJ Z h a n xs) {g : JFrame} (hg : g.method = m) {rest : List Value} (hs : g.stack = .ref a :: rest)
    (hd : decode c.code g.pc = .ok (.arraylength, 1)) :
    ∀ t, Steps p.tables e below (T.setTop { g with pc := g.pc + 1, stack := .int n :: rest }) t → Steps p.tables e below (T.setTop g) t := by
  obtain ⟨k, ⟨cl, Ar, q, S, M, H, G⟩, hl⟩ := V
  intro t k
  refine X.arraylength hx (cell := cl) (by rw [eT]; exact Ar.1) (State.isArrayOf_alike hZ.alike Ar.2.1) hg hs hd _ ?_
  rw [len_of S M]
  exact k
end OwnKit
section OwnObj
variable {p : Program} {l : Launch} {e : Env} {R : Room} {s : State} {m : MethodId} {args : Array Value} {below : List Frame} {meth : Method} {c : Code} {T T' : State} {locs : List Loc} {cells slots : Nat} {Z : State} {a0 : Array Value} {h h' : Heap} {n0 : Nat} {a : Addr}
/-- an instance method by its contract -/
theorem own_callV (X : Stand p l e R s m args below meth c T locs cells slots) (hx : p.tables.exec = Jvm.exec) (hZ : Z.Warmed39 s.vm) {own C : String} {index : Nat} {y : MethodName} {bytes : ByteArray} {maxL : Nat} {ret : Option FieldType} {rm : Room} (W : Nat) {as' : Array Value} {Q : Option Value → Heap → List Loc → Prop}
    (hown : s.vm.findClass own = some m.cls) (w1 : (Jvm.Cond.methodLink own index y).before a0 Z = true) (w2 : (Jvm.Cond.declares y).before a0 Z = true) (w3 : (Jvm.Cond.selects C y y).before a0 Z = true) (w4 : (Jvm.Cond.instanceMethod y).before a0 Z = true) (w5 : (Jvm.Cond.initialized y.cls).before a0 Z = true) (w6 : (Jvm.Cond.code y bytes maxL ret).before a0 Z = true)
    (hy : y.cls ≠ "java/lang/invoke/MethodHandle" ∧ y.cls ≠ "java/lang/invoke/VarHandle") (hM : own_Met l Z y bytes maxL ret [] rm as' h Q) (hf : rm.frames + 1 ≤ R.frames) (hl : W + (maxL + 11) + rm.locals ≤ R.locals) (eT : T.heap = h) (E : Exa Z h a C) (hc : cells + rm.cells ≤ R.cells) (hs : slots + rm.slots ≤ R.slots)
    {g : JFrame} (hg : g.method = m) (hsize : g.locals.size = c.maxLocals) {argsL rest : List Value} (hlen : ∀ sig, parseMethodDescriptor y.desc = some sig → argsL.length = sig.parameters.length) (has : (Value.ref a :: argsL).toArray = as') (hst : g.stack = argsL.reverse ++ .ref a :: rest)
    (hW : 2 * g.monitorRoom + (rest.map fun v => v.category).sum ≤ W) (hd : decode c.code g.pc = .ok (.invokevirtual index, 3)) :
    ∃ (v : Option Value) (T' : State) (L : List Loc), Stand p l e R s m args below meth c T' (locs ++ L) (cells + rm.cells) (slots + rm.slots) ∧ Q v T'.heap L ∧
      ∀ t, Steps p.tables e below (T'.setTop { g with pc := g.pc + 3, stack := v.toList ++ rest }) t → Steps p.tables e below (T.setTop g) t := by
  obtain ⟨cq, kq, qa, qb, qc⟩ := isOf hZ eT E
  obtain ⟨v, _, ⟨T6, L6, k6, n6⟩, -, X6, ⟨Lc6, hQ6, l6, y6, z6⟩, st6⟩ := X.virtualBack hx (y := y) (z := y) hown (mvT hZ w1) (mvT hZ w2) (notFace_of_selects (args := #[]) (mvT hZ w3)) (mvT hZ w3) (mvT hZ w4) hy (backOf (W := W) hM hZ w6 w5 hf hl) qa qc hg hsize (Steps.refl _) (argsL := argsL) (rest := rest) hlen hst hW hd (fun _ _ => ⟨has, eT, hc, hs⟩)
  dsimp only [Pt.U, Pt.locs, Pt.cells, Pt.slots] at X6 l6 y6 z6 st6 hQ6
  subst l6 y6 z6
  exact ⟨v, T6, Lc6, X6, hQ6, fun t k => st6.trans k⟩
/-- a constructor by its contract -/
theorem own_callI (X : Stand p l e R s m args below meth c T locs cells slots) (hx : p.tables.exec = Jvm.exec) (hZ : Z.Warmed39 s.vm) {own : String} {index : Nat} {y : MethodName} {bytes : ByteArray} {maxL : Nat} {rm : Room} (W : Nat) {as' : Array Value} {Q : Option Value → Heap → List Loc → Prop} (hi : y.name = "<init>")
    (hown : s.vm.findClass own = some m.cls) (w1 : (Jvm.Cond.methodLink own index y).before a0 Z = true) (w2 : (Jvm.Cond.instanceMethod y).before a0 Z = true) (w3 : (Jvm.Cond.initialized y.cls).before a0 Z = true) (w4 : (Jvm.Cond.code y bytes maxL none).before a0 Z = true)
    (hy : y.cls ≠ "java/lang/invoke/MethodHandle" ∧ y.cls ≠ "java/lang/invoke/VarHandle") (hM : own_Met l Z y bytes maxL none [] rm as' h Q) (hf : rm.frames + 1 ≤ R.frames) (hl : W + (maxL + 11) + rm.locals ≤ R.locals) (eT : T.heap = h) (hc : cells + rm.cells ≤ R.cells) (hs : slots + rm.slots ≤ R.slots)
    {g : JFrame} (hg : g.method = m) (hsize : g.locals.size = c.maxLocals) {argsL rest : List Value} (hlen : ∀ sig, parseMethodDescriptor y.desc = some sig → argsL.length = sig.parameters.length) (has : (Value.ref a :: argsL).toArray = as') (hst : g.stack = argsL.reverse ++ .ref a :: rest)
    (hW : 2 * g.monitorRoom + (rest.map fun v => v.category).sum ≤ W) (hd : decode c.code g.pc = .ok (.invokespecial index, 3)) :
    ∃ (v : Option Value) (T' : State) (L : List Loc), Stand p l e R s m args below meth c T' (locs ++ L) (cells + rm.cells) (slots + rm.slots) ∧ Q v T'.heap L ∧
      ∀ t, Steps p.tables e below (T'.setTop { g with pc := g.pc + 3, stack := v.toList ++ rest }) t → Steps p.tables e below (T.setTop g) t := by
  obtain ⟨v, _, ⟨T6, L6, k6, n6⟩, -, X6, ⟨Lc6, hQ6, l6, y6, z6⟩, st6⟩ := X.specialBack hx (y := y) hi hown (mvT hZ w1) (mvT hZ w2) (mvT hZ w4) hy (backOf (W := W) hM hZ w4 w3 hf hl) hg hsize (Steps.refl _) (a := a) (argsL := argsL) (rest := rest) hlen hst hW hd (fun _ _ => ⟨has, eT, hc, hs⟩)
  dsimp only [Pt.U, Pt.locs, Pt.cells, Pt.slots] at X6 l6 y6 z6 st6 hQ6
  subst l6 y6 z6
  exact ⟨v, T6, Lc6, X6, hQ6, fun t k => st6.trans k⟩
/-- a private method by its contract; y0: a method of the same class that isn't private -/
theorem own_callX (X : Stand p l e R s m args below meth c T locs cells slots) (hx : p.tables.exec = Jvm.exec) (hZ : Z.Warmed39 s.vm) {own C C0 : String} {index : Nat} {y y0 : MethodName} {bytes : ByteArray} {maxL : Nat} {ret : Option FieldType} {rm : Room} (W : Nat) {as' : Array Value} {Q : Option Value → Heap → List Loc → Prop}
    (hown : s.vm.findClass own = some m.cls) (w1 : (Jvm.Cond.methodLink own index y).before a0 Z = true) (w2 : (Jvm.Cond.instanceMethod y).before a0 Z = true) (w3 : (Jvm.Cond.privateMethod y).before a0 Z = true) (w4 : (Jvm.Cond.selects C0 y0 y0).before a0 Z = true) (hcls : y0.cls = y.cls) (w5 : (Jvm.Cond.initialized y.cls).before a0 Z = true) (w6 : (Jvm.Cond.code y bytes maxL ret).before a0 Z = true)
    (hy : y.cls ≠ "java/lang/invoke/MethodHandle" ∧ y.cls ≠ "java/lang/invoke/VarHandle") (hM : own_Met l Z y bytes maxL ret [] rm as' h Q) (hf : rm.frames + 1 ≤ R.frames) (hl : W + (maxL + 11) + rm.locals ≤ R.locals) (eT : T.heap = h) (E : Exa Z h a C) (hc : cells + rm.cells ≤ R.cells) (hs : slots + rm.slots ≤ R.slots)
    {g : JFrame} (hg : g.method = m) (hsize : g.locals.size = c.maxLocals) {argsL rest : List Value} (hlen : ∀ sig, parseMethodDescriptor y.desc = some sig → argsL.length = sig.parameters.length) (has : (Value.ref a :: argsL).toArray = as') (hst : g.stack = argsL.reverse ++ .ref a :: rest)
    (hW : 2 * g.monitorRoom + (rest.map fun v => v.category).sum ≤ W) (hd : decode c.code g.pc = .ok (.invokevirtual index, 3)) :
    ∃ (v : Option Value) (T' : State) (L : List Loc), Stand p l e R s m args below meth c T' (locs ++ L) (cells + rm.cells) (slots + rm.slots) ∧ Q v T'.heap L ∧
      ∀ t, Steps p.tables e below (T'.setTop { g with pc := g.pc + 3, stack := v.toList ++ rest }) t → Steps p.tables e below (T.setTop g) t := by
  obtain ⟨cq, q1, q2⟩ := E.cell
  have hp := Cond.privateMethod_at (mvP hZ w3 (args := #[]))
  obtain ⟨c2, r2, m2, -, -, b3, -, kP, hkP, hkPi⟩ := Cond.selects_spec (mvT hZ w4 (args := #[]))
  have hcc := findClass_of_methodNamed b3
  rw [hcls] at hcc
  have hsel := selects_self_of_private hcc hkP hkPi hp (mvT hZ w2) hy (args := args)
  obtain ⟨v, _, ⟨T6, L6, k6, n6⟩, -, X6, ⟨Lc6, hQ6, l6, y6, z6⟩, st6⟩ := X.privateBack hx (y := y) hown (mvT hZ w1) (mvT hZ w2) hsel hp (mvT hZ w6) hy (backOf (W := W) hM hZ w6 w5 hf hl) hg hsize (Steps.refl _) (a := a) (by rw [eT]; exact q1) q2 (argsL := argsL) (rest := rest) hlen hst hW hd (fun _ _ => ⟨has, eT, hc, hs⟩)
  dsimp only [Pt.U, Pt.locs, Pt.cells, Pt.slots] at X6 l6 y6 z6 st6 hQ6
  subst l6 y6 z6
  exact ⟨v, T6, Lc6, X6, hQ6, fun t k => st6.trans k⟩
end OwnObj

abbrev own_Al (Z : State) (h : Heap) (a r : Addr) (xs : List Int64) (fi en : Int32) (sh : Int64) : Prop :=
  Exa Z h a "com/example/cotejo/cotejo/engine/Alignment" ∧ Fld Z h a "com/example/cotejo/cotejo/engine/Alignment" "runs" "[J" (.ref r) ∧ Fld Z h a "com/example/cotejo/cotejo/engine/Alignment" "first" "I" (.int fi) ∧ Fld Z h a "com/example/cotejo/cotejo/engine/Alignment" "end" "I" (.int en) ∧ Fld Z h a "com/example/cotejo/cotejo/engine/Alignment" "shift" "J" (.long sh) ∧ own_AJ Z h r (64 : Int32) xs ∧ r ≠ a
def own_ps (xs : List Int64) (en : Int32) (q : Int64) : Nat → Int32 → Int64 → Int32 × Int64
  | 0, f, sh => (f, sh)
  | k + 1, f, sh => if f < en then (if q < xs.getD (f + 1).toNatClampNeg 0 then (f, sh) else own_ps xs en q k (f + 4) (xs.getD (f + 3).toNatClampNeg 0 - xs.getD (f + 1).toNatClampNeg 0)) else (f, sh)
theorem own_ix {f en : Int32} (hf : ¬ f < 0) (he : en.toInt ≤ 60) (h : f < en) (d : Int32) (hd : 0 ≤ d.toInt ∧ d.toInt ≤ 4) : (f + d).toInt = f.toInt + d.toInt ∧ ¬ f + d < 0 ∧ (d.toInt ≤ 3 → (f + d).toNatClampNeg < 64) := by
  have e0 : (0 : Int32).toInt = 0 := rfl
  rw [Int32.lt_iff_toInt_lt] at hf h ⊢
  have h1 := c_iadd f d
  have h2 := rng32 (f + d)
  have h3 : (f + d).toInt = f.toInt + d.toInt := by omega
  refine ⟨h3, by omega, fun _ => ?_⟩
  simp only [Int32.toNatClampNeg]; omega
theorem own_i0 {f en : Int32} (hf : ¬ f < 0) (he : en.toInt ≤ 60) (h : f < en) : f.toNatClampNeg < 64 := by
  have e0 : (0 : Int32).toInt = 0 := rfl
  rw [Int32.lt_iff_toInt_lt] at hf h
  simp only [Int32.toNatClampNeg]; omega
theorem own_stop {f en : Int32} (hk : en.toInt - f.toInt ≤ 4 * ((0 : Nat) : Int)) : ¬ f < en := by
  rw [Int32.lt_iff_toInt_lt]; omega
theorem own_more {f en : Int32} {k : Nat} (hf : ¬ f < 0) (he : en.toInt ≤ 60) (h : f < en) (hk : en.toInt - f.toInt ≤ 4 * ((k + 1 : Nat) : Int)) : en.toInt - (f + 4).toInt ≤ 4 * (k : Int) := by
  have h1 := (own_ix hf he h 4 (by decide)).1
  have e4 : (4 : Int32).toInt = 4 := rfl
  omega
theorem own_ps_nn {xs : List Int64} {en : Int32} {q : Int64} (he : en.toInt ≤ 60) : ∀ (k : Nat) (f : Int32) (sh : Int64), ¬ f < 0 → ¬ (own_ps xs en q k f sh).1 < 0 := by
  intro k
  induction k with
  | zero => intro f sh hf; rw [own_ps]; exact hf
  | succ k ih =>
    intro f sh hf
    rw [own_ps]
    by_cases h : f < en
    · rw [if_pos h]
      by_cases h2 : q < xs.getD (f + 1).toNatClampNeg 0
      · rw [if_pos h2]; exact hf
      · rw [if_neg h2]; exact ih _ _ (own_ix hf he h 4 (by decide)).2.1
    · rw [if_neg h]; exact hf
theorem own_room {en c : Int32} (h : en.toInt ≤ 12) (hc : ¬ c < 0) : en.toInt - c.toInt ≤ 4 * ((3 : Nat) : Int) := by
  have e0 : (0 : Int32).toInt = 0 := rfl
  rw [Int32.lt_iff_toInt_lt] at hc; omega
def own_add (xs : List Int64) (en : Int32) (m1 m2 s1 s2 : Int64) : List Int64 := (((xs.set en.toNatClampNeg m1).set (en + 1).toNatClampNeg m2).set (en + 2).toNatClampNeg s1).set (en + 3).toNatClampNeg s2
theorem own_ne64 {en : Int32} (he : en.toInt ≤ 56) : ¬ en = (64 : Int32) := fun h => by
  rw [h] at he; exact absurd he (by decide)
theorem own_en {en : Int32} (h0 : ¬ en < 0) (he : en.toInt ≤ 56) (d : Int32) (hd : 0 ≤ d.toInt ∧ d.toInt ≤ 4) : ¬ en + d < 0 ∧ (en + d).toNatClampNeg < 64 := by
  have e0 : (0 : Int32).toInt = 0 := rfl
  rw [Int32.lt_iff_toInt_lt] at h0 ⊢
  have h1 := c_iadd en d
  have h2 := rng32 (en + d)
  have h3 : (en + d).toInt = en.toInt + d.toInt := by omega
  refine ⟨by omega, ?_⟩
  simp only [Int32.toNatClampNeg]; omega
theorem own_en0 {en : Int32} (h0 : ¬ en < 0) (he : en.toInt ≤ 56) : en.toNatClampNeg < 64 := by
  have e0 : (0 : Int32).toInt = 0 := rfl
  rw [Int32.lt_iff_toInt_lt] at h0
  simp only [Int32.toNatClampNeg]; omega
theorem own_len4 {xs : List Int64} {n : Nat} (hl : xs.length = n) (i j k : Nat) (u v w : Int64) : (xs.set i u).length = n ∧ ((xs.set i u).set j v).length = n ∧ (((xs.set i u).set j v).set k w).length = n := by
  simp only [List.length_set]; exact ⟨hl, hl, hl⟩
theorem pn0 : plainName "com/example/cotejo/cotejo/engine/Alignment" = true := by first | (simp [plainName, overriddenIn]; done) | decide +kernel
theorem ef1 (m : MethodId) (x0 : Addr) : entryFrame m #[(.ref x0)] 1 = mkF m 0 #[.val (.ref x0)] [] := by first | (simp [entryFrame, mkF, argsToLocals, Value.category]; done) | rfl
theorem d1_0 : decode prog_5_method_1_code 0 = .ok (.aload_n 0, 1) := by decide +kernel
theorem d1_1 : decode prog_5_method_1_code 1 = .ok (.invokespecial 1, 3) := by decide +kernel
theorem d1_4 : decode prog_5_method_1_code 4 = .ok (.aload_n 0, 1) := by decide +kernel
theorem d1_5 : decode prog_5_method_1_code 5 = .ok (.bipush 64, 2) := by decide +kernel
theorem d1_7 : decode prog_5_method_1_code 7 = .ok (.newarray .long, 2) := by decide +kernel
theorem d1_9 : decode prog_5_method_1_code 9 = .ok (.putfield 9, 3) := by decide +kernel
theorem d1_12 : decode prog_5_method_1_code 12 = .ok (.return_, 1) := by decide +kernel
set_option maxRecDepth 65536 in
set_option maxHeartbeats 40000000 in
theorem rm1 (l : Launch) (Z : State) (a0 : Array Value) (hw : ∀ d ∈ tables_1, d.before a0 Z = true) (ws : List Jvm.Cond) (a : Addr) (h0 : Heap) (n0 : Nat) (Z0 : n0 ≤ h0.size) (ga : n0 ≤ a) (E0 : Exa Z h0 a "com/example/cotejo/cotejo/engine/Alignment") (Fruns : Fld Z h0 a "com/example/cotejo/cotejo/engine/Alignment" "runs" "[J" .null) (Ffirst : Fld Z h0 a "com/example/cotejo/cotejo/engine/Alignment" "first" "I" (.int (0 : Int32))) (Fend : Fld Z h0 a "com/example/cotejo/cotejo/engine/Alignment" "end" "I" (.int (0 : Int32))) (Fshift : Fld Z h0 a "com/example/cotejo/cotejo/engine/Alignment" "shift" "J" (.long (0 : Int64))) :
    own_Met l Z (⟨"com/example/cotejo/cotejo/engine/Alignment", "<init>", "()V"⟩ : MethodName) prog_5_method_1_code 1 (none) ws ({ frames := 1, cells := 1, slots := 64, locals := 12 } : Room) #[(.ref a)] h0 (fun v h L => v = none ∧ Fr n0 L ∧ Keep h0 h [a] ∧ ∃ r, h0.size ≤ r ∧ own_Al Z h a r (List.replicate 64 0) 0 0 0) := by
  refine own_body (plainFor_of_name pn0) ?_
  intro p e s m below meth c T X hx hby hml hret hlk hZ hown hnm eT
  have N := Fr.nil n0
  refine own_entry (ef1 m a) ?_
  have K0 := Keep.refl h0 [a]
  refine own_st (T' := T) (F' := (mkF m 1 #[.val (.ref a)] [(.ref a)])) (fun _ kq => XS.aloadN X.here hx rfl (hb hby d1_0) rfl rfl kq) ?_
  obtain ⟨T1, X1, e1, st1⟩ := initO X hx hZ hown (hw _ (List.mem_of_getElem? (i := 8) rfl)) (hw _ (List.mem_of_getElem? (i := 9) rfl)) (hw _ (List.mem_of_getElem? (i := 10) rfl)) eT (g := (mkF m 1 #[.val (.ref a)] [(.ref a)])) rfl (by rw [hml]; rfl) rfl (hb hby d1_1) (by decide) (W := 0) (by show 2 * 0 + _ ≤ _; exact Nat.le_of_eq rfl) (by decide)
  refine own_st (T' := T1) (F' := (mkF m 4 #[.val (.ref a)] [])) (st1) ?_
  refine own_st (T' := T1) (F' := (mkF m 5 #[.val (.ref a)] [(.ref a)])) (fun _ kq => XS.aloadN X1.here hx rfl (hb hby d1_4) rfl rfl kq) ?_
  refine own_st (T' := T1) (F' := (mkF m 7 #[.val (.ref a)] [(.int (64 : Int32)), (.ref a)])) (fun _ kq => XS.bipush X1.here hx rfl (hb hby d1_5) kq) ?_
  obtain ⟨T2, h2, b2, X2, e2, E2, g2, gb2, Z2, V2, st2⟩ := own_newJ X1 hx hZ (hw _ (List.mem_of_getElem? (i := 1) rfl)) e1 Z0 (g := (mkF m 7 #[.val (.ref a)] [(.int (64 : Int32)), (.ref a)])) rfl rfl (hb hby d1_7) (by decide) 64 64 rfl (by decide) (by decide) (by decide) (by decide)
  have FAa_runs_3 := Fruns.ext E2
  have FAa_first_3 := Ffirst.ext E2
  have FAa_end_3 := Fend.ext E2
  have FAa_shift_3 := Fshift.ext E2
  have EAa_3 := Exa.ext E2 E0
  have K2 := K0.ext E2
  have ne_a_b2 : a ≠ b2 := by rw [g2]; exact Nat.ne_of_lt E0.lt
  refine own_st (T' := T2) (F' := (mkF m 9 #[.val (.ref a)] [(.ref b2), (.ref a)])) (st2) ?_
  obtain ⟨T4, h4, X4, e4, W4, st4⟩ := putF X2 hx hZ hown (host := "") (Or.inl (hw _ (List.mem_of_getElem? (i := 11) rfl))) Via.refl e2 FAa_runs_3 EAa_3 (Or.inl (hw _ (List.mem_of_getElem? (i := 12) rfl))) (hw _ (List.mem_of_getElem? (i := 3) rfl)) (ty := (.array .long)) (by decide) rfl rfl (g := (mkF m 9 #[.val (.ref a)] [(.ref b2), (.ref a)])) rfl rfl (hb hby d1_9)
  have FAa_runs_4 := FAa_runs_3.same W4
  have FAa_first_4 := FAa_first_3.other W4 (Or.inr (slot_ne (a0 := a0) (C := "com/example/cotejo/cotejo/engine/Alignment") (Or.inl (hw _ (List.mem_of_getElem? (i := 19) rfl))) (Or.inl (hw _ (List.mem_of_getElem? (i := 12) rfl))) (by decide) (t := .int) (t' := (.array .long)) (by decide) (by decide)))
  have FAa_end_4 := FAa_end_3.other W4 (Or.inr (slot_ne (a0 := a0) (C := "com/example/cotejo/cotejo/engine/Alignment") (Or.inl (hw _ (List.mem_of_getElem? (i := 21) rfl))) (Or.inl (hw _ (List.mem_of_getElem? (i := 12) rfl))) (by decide) (t := .int) (t' := (.array .long)) (by decide) (by decide)))
  have FAa_shift_4 := FAa_shift_3.other W4 (Or.inr (slot_ne (a0 := a0) (C := "com/example/cotejo/cotejo/engine/Alignment") (Or.inl (hw _ (List.mem_of_getElem? (i := 32) rfl))) (Or.inl (hw _ (List.mem_of_getElem? (i := 12) rfl))) (by decide) (t := .long) (t' := (.array .long)) (by decide) (by decide)))
  have EAa_4 := Exa.wr W4 EAa_3
  have VAb2_4 := V2.other W4 (Ne.symm ne_a_b2)
  have K4 := K2.wr W4 (Or.inl (List.mem_singleton.mpr rfl))
  have N4 := Fr.snoc X4 N ga
  have Z4 : n0 ≤ h4.size := by rw [W4.size]; exact Z2
  refine own_st (T' := T4) (F' := (mkF m 12 #[.val (.ref a)] [])) (st4) ?_
  exact own_retV X4 hx hlk hret (hb hby d1_12) (by decide) (by decide) (by rw [e4]; exact ⟨rfl, N4, K4, b2, Nat.le_of_eq g2.symm, ⟨EAa_4, FAa_runs_4, FAa_first_4, FAa_end_4, FAa_shift_4, VAb2_4, (Ne.symm ne_a_b2)⟩⟩)
theorem ef3 (m : MethodId) (x0 : Addr) (x1 : Int64) (x2 : Int64) (x3 : Int64) (x4 : Int64) : entryFrame m #[(.ref x0), (.long x1), (.long x2), (.long x3), (.long x4)] 9 = mkF m 0 #[.val (.ref x0), .val (.long x1), .second, .val (.long x2), .second, .val (.long x3), .second, .val (.long x4), .second] [] := by first | (simp [entryFrame, mkF, argsToLocals, Value.category]; done) | rfl
theorem d3_0 : decode prog_5_method_2_code 0 = .ok (.aload_n 0, 1) := by decide +kernel
theorem d3_1 : decode prog_5_method_2_code 1 = .ok (.getfield 13, 3) := by decide +kernel
theorem d3_4 : decode prog_5_method_2_code 4 = .ok (.ifCond .le 58, 3) := by decide +kernel
theorem d3_62 : decode prog_5_method_2_code 62 = .ok (.aload_n 0, 1) := by decide +kernel
theorem d3_63 : decode prog_5_method_2_code 63 = .ok (.getfield 17, 3) := by decide +kernel
theorem d3_66 : decode prog_5_method_2_code 66 = .ok (.aload_n 0, 1) := by decide +kernel
theorem d3_67 : decode prog_5_method_2_code 67 = .ok (.getfield 9, 3) := by decide +kernel
theorem d3_70 : decode prog_5_method_2_code 70 = .ok (.arraylength, 1) := by decide +kernel
theorem d3_71 : decode prog_5_method_2_code 71 = .ok (.if_icmp .ne 21, 3) := by decide +kernel
theorem d3_92 : decode prog_5_method_2_code 92 = .ok (.aload_n 0, 1) := by decide +kernel
theorem d3_93 : decode prog_5_method_2_code 93 = .ok (.getfield 9, 3) := by decide +kernel
theorem d3_96 : decode prog_5_method_2_code 96 = .ok (.aload_n 0, 1) := by decide +kernel
theorem d3_97 : decode prog_5_method_2_code 97 = .ok (.getfield 17, 3) := by decide +kernel
theorem d3_100 : decode prog_5_method_2_code 100 = .ok (.lload_n 1, 1) := by decide +kernel
theorem d3_101 : decode prog_5_method_2_code 101 = .ok (.lastore, 1) := by decide +kernel
theorem d3_102 : decode prog_5_method_2_code 102 = .ok (.aload_n 0, 1) := by decide +kernel
theorem d3_103 : decode prog_5_method_2_code 103 = .ok (.getfield 9, 3) := by decide +kernel
theorem d3_106 : decode prog_5_method_2_code 106 = .ok (.aload_n 0, 1) := by decide +kernel
theorem d3_107 : decode prog_5_method_2_code 107 = .ok (.getfield 17, 3) := by decide +kernel
theorem d3_110 : decode prog_5_method_2_code 110 = .ok (.iconst 1, 1) := by decide +kernel
theorem d3_111 : decode prog_5_method_2_code 111 = .ok (.iadd, 1) := by decide +kernel
theorem d3_112 : decode prog_5_method_2_code 112 = .ok (.lload_n 3, 1) := by decide +kernel
theorem d3_113 : decode prog_5_method_2_code 113 = .ok (.lastore, 1) := by decide +kernel
theorem d3_114 : decode prog_5_method_2_code 114 = .ok (.aload_n 0, 1) := by decide +kernel
theorem d3_115 : decode prog_5_method_2_code 115 = .ok (.getfield 9, 3) := by decide +kernel
theorem d3_118 : decode prog_5_method_2_code 118 = .ok (.aload_n 0, 1) := by decide +kernel
theorem d3_119 : decode prog_5_method_2_code 119 = .ok (.getfield 17, 3) := by decide +kernel
theorem d3_122 : decode prog_5_method_2_code 122 = .ok (.iconst 2, 1) := by decide +kernel
theorem d3_123 : decode prog_5_method_2_code 123 = .ok (.iadd, 1) := by decide +kernel
theorem d3_124 : decode prog_5_method_2_code 124 = .ok (.lload 5, 2) := by decide +kernel
theorem d3_126 : decode prog_5_method_2_code 126 = .ok (.lastore, 1) := by decide +kernel
theorem d3_127 : decode prog_5_method_2_code 127 = .ok (.aload_n 0, 1) := by decide +kernel
theorem d3_128 : decode prog_5_method_2_code 128 = .ok (.getfield 9, 3) := by decide +kernel
theorem d3_131 : decode prog_5_method_2_code 131 = .ok (.aload_n 0, 1) := by decide +kernel
theorem d3_132 : decode prog_5_method_2_code 132 = .ok (.getfield 17, 3) := by decide +kernel
theorem d3_135 : decode prog_5_method_2_code 135 = .ok (.iconst 3, 1) := by decide +kernel
theorem d3_136 : decode prog_5_method_2_code 136 = .ok (.iadd, 1) := by decide +kernel
theorem d3_137 : decode prog_5_method_2_code 137 = .ok (.lload 7, 2) := by decide +kernel
theorem d3_139 : decode prog_5_method_2_code 139 = .ok (.lastore, 1) := by decide +kernel
theorem d3_140 : decode prog_5_method_2_code 140 = .ok (.aload_n 0, 1) := by decide +kernel
theorem d3_141 : decode prog_5_method_2_code 141 = .ok (.dup, 1) := by decide +kernel
theorem d3_142 : decode prog_5_method_2_code 142 = .ok (.getfield 17, 3) := by decide +kernel
theorem d3_145 : decode prog_5_method_2_code 145 = .ok (.iconst 4, 1) := by decide +kernel
theorem d3_146 : decode prog_5_method_2_code 146 = .ok (.iadd, 1) := by decide +kernel
theorem d3_147 : decode prog_5_method_2_code 147 = .ok (.putfield 17, 3) := by decide +kernel
theorem d3_150 : decode prog_5_method_2_code 150 = .ok (.return_, 1) := by decide +kernel
set_option maxRecDepth 65536 in
set_option maxHeartbeats 40000000 in
theorem rm3 (l : Launch) (Z : State) (a0 : Array Value) (hw : ∀ d ∈ tables_1, d.before a0 Z = true) (ws : List Jvm.Cond) (a : Addr) (m1 : Int64) (m2 : Int64) (s1 : Int64) (s2 : Int64) (r : Addr) (xs : List Int64) (en : Int32) (sh : Int64) (h0 : Heap) (n0 : Nat) (Z0 : n0 ≤ h0.size) (ga : n0 ≤ a) (gr : n0 ≤ r) (A : own_Al Z h0 a r xs 0 en sh) (h0e : ¬ en < 0) (he : en.toInt ≤ 56) :
    own_Met l Z (⟨"com/example/cotejo/cotejo/engine/Alignment", "add", "(JJJJ)V"⟩ : MethodName) prog_5_method_2_code 9 (none) ws ({ frames := 0, cells := 0, slots := 0, locals := 0 } : Room) #[(.ref a), (.long m1), (.long m2), (.long s1), (.long s2)] h0 (fun v h L => v = none ∧ Fr n0 L ∧ Keep h0 h [a, r] ∧ own_Al Z h a r (own_add xs en m1 m2 s1 s2) 0 (en + 4) sh) := by
  refine own_body (plainFor_of_name pn0) ?_
  intro p e s m below meth c T X hx hby hml hret hlk hZ hown hnm eT
  have N := Fr.nil n0
  refine own_entry (ef3 m a m1 m2 s1 s2) ?_
  have hl := A.2.2.2.2.2.1.len
  have K0 := Keep.refl h0 [a, r]
  refine own_st (T' := T) (F' := (mkF m 1 #[.val (.ref a), .val (.long m1), .second, .val (.long m2), .second, .val (.long s1), .second, .val (.long s2), .second] [(.ref a)])) (fun _ kq => XS.aloadN X.here hx rfl (hb hby d3_0) rfl rfl kq) ?_
  obtain ⟨T5, X5, e5, st5⟩ := getF X hx hZ hown (host := "") (Or.inl (hw _ (List.mem_of_getElem? (i := 18) rfl))) Via.refl eT A.2.2.1 (g := (mkF m 1 #[.val (.ref a), .val (.long m1), .second, .val (.long m2), .second, .val (.long s1), .second, .val (.long s2), .second] [(.ref a)])) rfl rfl (hb hby d3_1)
  refine own_st (T' := T5) (F' := (mkF m 4 #[.val (.ref a), .val (.long m1), .second, .val (.long m2), .second, .val (.long s1), .second, .val (.long s2), .second] [(.int (0 : Int32))])) (st5) ?_
  refine own_st (T' := T5) (F' := (mkF m 62 #[.val (.ref a), .val (.long m1), .second, .val (.long m2), .second, .val (.long s1), .second, .val (.long s2), .second] [])) (fun _ kq => XS.ifYes X5.here hx rfl (pc0 := 4) (pc' := 62) rfl (hb hby d3_4) rfl ((if0 _ _).trans (flt (by decide : ¬ ((0 : Int32) < (0 : Int32)))).2.2.2) (by decide) (by decide) kq) ?_
  refine own_st (T' := T5) (F' := (mkF m 63 #[.val (.ref a), .val (.long m1), .second, .val (.long m2), .second, .val (.long s1), .second, .val (.long s2), .second] [(.ref a)])) (fun _ kq => XS.aloadN X5.here hx rfl (hb hby d3_62) rfl rfl kq) ?_
  obtain ⟨T6, X6, e6, st6⟩ := getF X5 hx hZ hown (host := "") (Or.inl (hw _ (List.mem_of_getElem? (i := 20) rfl))) Via.refl e5 A.2.2.2.1 (g := (mkF m 63 #[.val (.ref a), .val (.long m1), .second, .val (.long m2), .second, .val (.long s1), .second, .val (.long s2), .second] [(.ref a)])) rfl rfl (hb hby d3_63)
  refine own_st (T' := T6) (F' := (mkF m 66 #[.val (.ref a), .val (.long m1), .second, .val (.long m2), .second, .val (.long s1), .second, .val (.long s2), .second] [(.int en)])) (st6) ?_
  refine own_st (T' := T6) (F' := (mkF m 67 #[.val (.ref a), .val (.long m1), .second, .val (.long m2), .second, .val (.long s1), .second, .val (.long s2), .second] [(.ref a), (.int en)])) (fun _ kq => XS.aloadN X6.here hx rfl (hb hby d3_66) rfl rfl kq) ?_
  obtain ⟨T7, X7, e7, st7⟩ := getF X6 hx hZ hown (host := "") (Or.inl (hw _ (List.mem_of_getElem? (i := 11) rfl))) Via.refl e6 A.2.1 (g := (mkF m 67 #[.val (.ref a), .val (.long m1), .second, .val (.long m2), .second, .val (.long s1), .second, .val (.long s2), .second] [(.ref a), (.int en)])) rfl rfl (hb hby d3_67)
  refine own_st (T' := T7) (F' := (mkF m 70 #[.val (.ref a), .val (.long m1), .second, .val (.long m2), .second, .val (.long s1), .second, .val (.long s2), .second] [(.ref r), (.int en)])) (st7) ?_
  refine own_st (T' := T7) (F' := (mkF m 71 #[.val (.ref a), .val (.long m1), .second, .val (.long m2), .second, .val (.long s1), .second, .val (.long s2), .second] [(.int (64 : Int32)), (.int en)])) (own_lenJ X7 hx hZ e7 A.2.2.2.2.2.1 (g := (mkF m 70 #[.val (.ref a), .val (.long m1), .second, .val (.long m2), .second, .val (.long s1), .second, .val (.long s2), .second] [(.ref r), (.int en)])) rfl rfl (hb hby d3_70)) ?_
  refine own_st (T' := T7) (F' := (mkF m 92 #[.val (.ref a), .val (.long m1), .second, .val (.long m2), .second, .val (.long s1), .second, .val (.long s2), .second] [])) (fun _ kq => XS.icmpYes X7.here hx rfl (pc0 := 71) (pc' := 92) rfl (hb hby d3_71) rfl (feq (own_ne64 he)).2 (by decide) (by decide) kq) ?_
  refine own_st (T' := T7) (F' := (mkF m 93 #[.val (.ref a), .val (.long m1), .second, .val (.long m2), .second, .val (.long s1), .second, .val (.long s2), .second] [(.ref a)])) (fun _ kq => XS.aloadN X7.here hx rfl (hb hby d3_92) rfl rfl kq) ?_
  obtain ⟨T8, X8, e8, st8⟩ := getF X7 hx hZ hown (host := "") (Or.inl (hw _ (List.mem_of_getElem? (i := 11) rfl))) Via.refl e7 A.2.1 (g := (mkF m 93 #[.val (.ref a), .val (.long m1), .second, .val (.long m2), .second, .val (.long s1), .second, .val (.long s2), .second] [(.ref a)])) rfl rfl (hb hby d3_93)
  refine own_st (T' := T8) (F' := (mkF m 96 #[.val (.ref a), .val (.long m1), .second, .val (.long m2), .second, .val (.long s1), .second, .val (.long s2), .second] [(.ref r)])) (st8) ?_
  refine own_st (T' := T8) (F' := (mkF m 97 #[.val (.ref a), .val (.long m1), .second, .val (.long m2), .second, .val (.long s1), .second, .val (.long s2), .second] [(.ref a), (.ref r)])) (fun _ kq => XS.aloadN X8.here hx rfl (hb hby d3_96) rfl rfl kq) ?_
  obtain ⟨T9, X9, e9, st9⟩ := getF X8 hx hZ hown (host := "") (Or.inl (hw _ (List.mem_of_getElem? (i := 20) rfl))) Via.refl e8 A.2.2.2.1 (g := (mkF m 97 #[.val (.ref a), .val (.long m1), .second, .val (.long m2), .second, .val (.long s1), .second, .val (.long s2), .second] [(.ref a), (.ref r)])) rfl rfl (hb hby d3_97)
  refine own_st (T' := T9) (F' := (mkF m 100 #[.val (.ref a), .val (.long m1), .second, .val (.long m2), .second, .val (.long s1), .second, .val (.long s2), .second] [(.int en), (.ref r)])) (st9) ?_
  refine own_st (T' := T9) (F' := (mkF m 101 #[.val (.ref a), .val (.long m1), .second, .val (.long m2), .second, .val (.long s1), .second, .val (.long s2), .second] [(.long m1), (.int en), (.ref r)])) (fun _ kq => XS.lloadN X9.here hx rfl (hb hby d3_100) rfl kq) ?_
  obtain ⟨T10, h10, locs10, X10, e10, N10, W10, V10, st10⟩ := own_stJ X9 hx hZ e9 N (ys := (xs.set en.toNatClampNeg m1)) A.2.2.2.2.2.1 gr (g := (mkF m 101 #[.val (.ref a), .val (.long m1), .second, .val (.long m2), .second, .val (.long s1), .second, .val (.long s2), .second] [(.long m1), (.int en), (.ref r)])) rfl rfl (hb hby d3_101) h0e (by rw [hl]; exact (own_en0 h0e he)) rfl
  have FAa_runs_11 := A.2.1.other W10 (Or.inl (Ne.symm A.2.2.2.2.2.2))
  have FAa_first_11 := A.2.2.1.other W10 (Or.inl (Ne.symm A.2.2.2.2.2.2))
  have FAa_end_11 := A.2.2.2.1.other W10 (Or.inl (Ne.symm A.2.2.2.2.2.2))
  have FAa_shift_11 := A.2.2.2.2.1.other W10 (Or.inl (Ne.symm A.2.2.2.2.2.2))
  have EAa_11 := Exa.wr W10 A.1
  have K10 := K0.wr W10 (Or.inl (List.mem_cons_of_mem _ (List.mem_singleton.mpr rfl)))
  have Z10 : n0 ≤ h10.size := by rw [W10.size]; exact Z0
  refine own_st (T' := T10) (F' := (mkF m 102 #[.val (.ref a), .val (.long m1), .second, .val (.long m2), .second, .val (.long s1), .second, .val (.long s2), .second] [])) (st10) ?_
  refine own_st (T' := T10) (F' := (mkF m 103 #[.val (.ref a), .val (.long m1), .second, .val (.long m2), .second, .val (.long s1), .second, .val (.long s2), .second] [(.ref a)])) (fun _ kq => XS.aloadN X10.here hx rfl (hb hby d3_102) rfl rfl kq) ?_
  obtain ⟨T12, X12, e12, st12⟩ := getF X10 hx hZ hown (host := "") (Or.inl (hw _ (List.mem_of_getElem? (i := 11) rfl))) Via.refl e10 FAa_runs_11 (g := (mkF m 103 #[.val (.ref a), .val (.long m1), .second, .val (.long m2), .second, .val (.long s1), .second, .val (.long s2), .second] [(.ref a)])) rfl rfl (hb hby d3_103)
  refine own_st (T' := T12) (F' := (mkF m 106 #[.val (.ref a), .val (.long m1), .second, .val (.long m2), .second, .val (.long s1), .second, .val (.long s2), .second] [(.ref r)])) (st12) ?_
  refine own_st (T' := T12) (F' := (mkF m 107 #[.val (.ref a), .val (.long m1), .second, .val (.long m2), .second, .val (.long s1), .second, .val (.long s2), .second] [(.ref a), (.ref r)])) (fun _ kq => XS.aloadN X12.here hx rfl (hb hby d3_106) rfl rfl kq) ?_
  obtain ⟨T13, X13, e13, st13⟩ := getF X12 hx hZ hown (host := "") (Or.inl (hw _ (List.mem_of_getElem? (i := 20) rfl))) Via.refl e12 FAa_end_11 (g := (mkF m 107 #[.val (.ref a), .val (.long m1), .second, .val (.long m2), .second, .val (.long s1), .second, .val (.long s2), .second] [(.ref a), (.ref r)])) rfl rfl (hb hby d3_107)
  refine own_st (T' := T13) (F' := (mkF m 110 #[.val (.ref a), .val (.long m1), .second, .val (.long m2), .second, .val (.long s1), .second, .val (.long s2), .second] [(.int en), (.ref r)])) (st13) ?_
  refine own_st (T' := T13) (F' := (mkF m 111 #[.val (.ref a), .val (.long m1), .second, .val (.long m2), .second, .val (.long s1), .second, .val (.long s2), .second] [(.int (1 : Int32)), (.int en), (.ref r)])) (fun _ kq => XS.iconst X13.here hx rfl (hb hby d3_110) kq) ?_
  refine own_st (T' := T13) (F' := (mkF m 112 #[.val (.ref a), .val (.long m1), .second, .val (.long m2), .second, .val (.long s1), .second, .val (.long s2), .second] [(.int (en + (1 : Int32))), (.ref r)])) (fun _ kq => XS.iadd X13.here hx rfl (hb hby d3_111) rfl kq) ?_
  refine own_st (T' := T13) (F' := (mkF m 113 #[.val (.ref a), .val (.long m1), .second, .val (.long m2), .second, .val (.long s1), .second, .val (.long s2), .second] [(.long m2), (.int (en + (1 : Int32))), (.ref r)])) (fun _ kq => XS.lloadN X13.here hx rfl (hb hby d3_112) rfl kq) ?_
  obtain ⟨T14, h14, locs14, X14, e14, N14, W14, V14, st14⟩ := own_stJ X13 hx hZ e13 N10 (ys := ((xs.set en.toNatClampNeg m1).set (en + (1 : Int32)).toNatClampNeg m2)) V10 gr (g := (mkF m 113 #[.val (.ref a), .val (.long m1), .second, .val (.long m2), .second, .val (.long s1), .second, .val (.long s2), .second] [(.long m2), (.int (en + (1 : Int32))), (.ref r)])) rfl rfl (hb hby d3_113) (own_en h0e he 1 (by decide)).1 (by rw [(own_len4 hl en.toNatClampNeg 0 0 m1 0 0).1]; exact (own_en h0e he 1 (by decide)).2) rfl
  have FAa_runs_15 := FAa_runs_11.other W14 (Or.inl (Ne.symm A.2.2.2.2.2.2))
  have FAa_first_15 := FAa_first_11.other W14 (Or.inl (Ne.symm A.2.2.2.2.2.2))
  have FAa_end_15 := FAa_end_11.other W14 (Or.inl (Ne.symm A.2.2.2.2.2.2))
  have FAa_shift_15 := FAa_shift_11.other W14 (Or.inl (Ne.symm A.2.2.2.2.2.2))
  have EAa_15 := Exa.wr W14 EAa_11
  have K14 := K10.wr W14 (Or.inl (List.mem_cons_of_mem _ (List.mem_singleton.mpr rfl)))
  have Z14 : n0 ≤ h14.size := by rw [W14.size]; exact Z10
  refine own_st (T' := T14) (F' := (mkF m 114 #[.val (.ref a), .val (.long m1), .second, .val (.long m2), .second, .val (.long s1), .second, .val (.long s2), .second] [])) (st14) ?_
  refine own_st (T' := T14) (F' := (mkF m 115 #[.val (.ref a), .val (.long m1), .second, .val (.long m2), .second, .val (.long s1), .second, .val (.long s2), .second] [(.ref a)])) (fun _ kq => XS.aloadN X14.here hx rfl (hb hby d3_114) rfl rfl kq) ?_
  obtain ⟨T16, X16, e16, st16⟩ := getF X14 hx hZ hown (host := "") (Or.inl (hw _ (List.mem_of_getElem? (i := 11) rfl))) Via.refl e14 FAa_runs_15 (g := (mkF m 115 #[.val (.ref a), .val (.long m1), .second, .val (.long m2), .second, .val (.long s1), .second, .val (.long s2), .second] [(.ref a)])) rfl rfl (hb hby d3_115)
  refine own_st (T' := T16) (F' := (mkF m 118 #[.val (.ref a), .val (.long m1), .second, .val (.long m2), .second, .val (.long s1), .second, .val (.long s2), .second] [(.ref r)])) (st16) ?_
  refine own_st (T' := T16) (F' := (mkF m 119 #[.val (.ref a), .val (.long m1), .second, .val (.long m2), .second, .val (.long s1), .second, .val (.long s2), .second] [(.ref a), (.ref r)])) (fun _ kq => XS.aloadN X16.here hx rfl (hb hby d3_118) rfl rfl kq) ?_
  obtain ⟨T17, X17, e17, st17⟩ := getF X16 hx hZ hown (host := "") (Or.inl (hw _ (List.mem_of_getElem? (i := 20) rfl))) Via.refl e16 FAa_end_15 (g := (mkF m 119 #[.val (.ref a), .val (.long m1), .second, .val (.long m2), .second, .val (.long s1), .second, .val (.long s2), .second] [(.ref a), (.ref r)])) rfl rfl (hb hby d3_119)
  refine own_st (T' := T17) (F' := (mkF m 122 #[.val (.ref a), .val (.long m1), .second, .val (.long m2), .second, .val (.long s1), .second, .val (.long s2), .second] [(.int en), (.ref r)])) (st17) ?_
  refine own_st (T' := T17) (F' := (mkF m 123 #[.val (.ref a), .val (.long m1), .second, .val (.long m2), .second, .val (.long s1), .second, .val (.long s2), .second] [(.int (2 : Int32)), (.int en), (.ref r)])) (fun _ kq => XS.iconst X17.here hx rfl (hb hby d3_122) kq) ?_
  refine own_st (T' := T17) (F' := (mkF m 124 #[.val (.ref a), .val (.long m1), .second, .val (.long m2), .second, .val (.long s1), .second, .val (.long s2), .second] [(.int (en + (2 : Int32))), (.ref r)])) (fun _ kq => XS.iadd X17.here hx rfl (hb hby d3_123) rfl kq) ?_
  refine own_st (T' := T17) (F' := (mkF m 126 #[.val (.ref a), .val (.long m1), .second, .val (.long m2), .second, .val (.long s1), .second, .val (.long s2), .second] [(.long s1), (.int (en + (2 : Int32))), (.ref r)])) (fun _ kq => XS.lload X17.here hx rfl (hb hby d3_124) rfl kq) ?_
  obtain ⟨T18, h18, locs18, X18, e18, N18, W18, V18, st18⟩ := own_stJ X17 hx hZ e17 N14 (ys := (((xs.set en.toNatClampNeg m1).set (en + (1 : Int32)).toNatClampNeg m2).set (en + (2 : Int32)).toNatClampNeg s1)) V14 gr (g := (mkF m 126 #[.val (.ref a), .val (.long m1), .second, .val (.long m2), .second, .val (.long s1), .second, .val (.long s2), .second] [(.long s1), (.int (en + (2 : Int32))), (.ref r)])) rfl rfl (hb hby d3_126) (own_en h0e he 2 (by decide)).1 (by rw [(own_len4 hl en.toNatClampNeg (en + (1 : Int32)).toNatClampNeg 0 m1 m2 0).2.1]; exact (own_en h0e he 2 (by decide)).2) rfl
  have FAa_runs_19 := FAa_runs_15.other W18 (Or.inl (Ne.symm A.2.2.2.2.2.2))
  have FAa_first_19 := FAa_first_15.other W18 (Or.inl (Ne.symm A.2.2.2.2.2.2))
  have FAa_end_19 := FAa_end_15.other W18 (Or.inl (Ne.symm A.2.2.2.2.2.2))
  have FAa_shift_19 := FAa_shift_15.other W18 (Or.inl (Ne.symm A.2.2.2.2.2.2))
  have EAa_19 := Exa.wr W18 EAa_15
  have K18 := K14.wr W18 (Or.inl (List.mem_cons_of_mem _ (List.mem_singleton.mpr rfl)))
  have Z18 : n0 ≤ h18.size := by rw [W18.size]; exact Z14
  refine own_st (T' := T18) (F' := (mkF m 127 #[.val (.ref a), .val (.long m1), .second, .val (.long m2), .second, .val (.long s1), .second, .val (.long s2), .second] [])) (st18) ?_
  refine own_st (T' := T18) (F' := (mkF m 128 #[.val (.ref a), .val (.long m1), .second, .val (.long m2), .second, .val (.long s1), .second, .val (.long s2), .second] [(.ref a)])) (fun _ kq => XS.aloadN X18.here hx rfl (hb hby d3_127) rfl rfl kq) ?_
  obtain ⟨T20, X20, e20, st20⟩ := getF X18 hx hZ hown (host := "") (Or.inl (hw _ (List.mem_of_getElem? (i := 11) rfl))) Via.refl e18 FAa_runs_19 (g := (mkF m 128 #[.val (.ref a), .val (.long m1), .second, .val (.long m2), .second, .val (.long s1), .second, .val (.long s2), .second] [(.ref a)])) rfl rfl (hb hby d3_128)
  refine own_st (T' := T20) (F' := (mkF m 131 #[.val (.ref a), .val (.long m1), .second, .val (.long m2), .second, .val (.long s1), .second, .val (.long s2), .second] [(.ref r)])) (st20) ?_
  refine own_st (T' := T20) (F' := (mkF m 132 #[.val (.ref a), .val (.long m1), .second, .val (.long m2), .second, .val (.long s1), .second, .val (.long s2), .second] [(.ref a), (.ref r)])) (fun _ kq => XS.aloadN X20.here hx rfl (hb hby d3_131) rfl rfl kq) ?_
  obtain ⟨T21, X21, e21, st21⟩ := getF X20 hx hZ hown (host := "") (Or.inl (hw _ (List.mem_of_getElem? (i := 20) rfl))) Via.refl e20 FAa_end_19 (g := (mkF m 132 #[.val (.ref a), .val (.long m1), .second, .val (.long m2), .second, .val (.long s1), .second, .val (.long s2), .second] [(.ref a), (.ref r)])) rfl rfl (hb hby d3_132)
  refine own_st (T' := T21) (F' := (mkF m 135 #[.val (.ref a), .val (.long m1), .second, .val (.long m2), .second, .val (.long s1), .second, .val (.long s2), .second] [(.int en), (.ref r)])) (st21) ?_
  refine own_st (T' := T21) (F' := (mkF m 136 #[.val (.ref a), .val (.long m1), .second, .val (.long m2), .second, .val (.long s1), .second, .val (.long s2), .second] [(.int (3 : Int32)), (.int en), (.ref r)])) (fun _ kq => XS.iconst X21.here hx rfl (hb hby d3_135) kq) ?_
  refine own_st (T' := T21) (F' := (mkF m 137 #[.val (.ref a), .val (.long m1), .second, .val (.long m2), .second, .val (.long s1), .second, .val (.long s2), .second] [(.int (en + (3 : Int32))), (.ref r)])) (fun _ kq => XS.iadd X21.here hx rfl (hb hby d3_136) rfl kq) ?_
  refine own_st (T' := T21) (F' := (mkF m 139 #[.val (.ref a), .val (.long m1), .second, .val (.long m2), .second, .val (.long s1), .second, .val (.long s2), .second] [(.long s2), (.int (en + (3 : Int32))), (.ref r)])) (fun _ kq => XS.lload X21.here hx rfl (hb hby d3_137) rfl kq) ?_
  obtain ⟨T22, h22, locs22, X22, e22, N22, W22, V22, st22⟩ := own_stJ X21 hx hZ e21 N18 (ys := ((((xs.set en.toNatClampNeg m1).set (en + (1 : Int32)).toNatClampNeg m2).set (en + (2 : Int32)).toNatClampNeg s1).set (en + (3 : Int32)).toNatClampNeg s2)) V18 gr (g := (mkF m 139 #[.val (.ref a), .val (.long m1), .second, .val (.long m2), .second, .val (.long s1), .second, .val (.long s2), .second] [(.long s2), (.int (en + (3 : Int32))), (.ref r)])) rfl rfl (hb hby d3_139) (own_en h0e he 3 (by decide)).1 (by rw [(own_len4 hl en.toNatClampNeg (en + (1 : Int32)).toNatClampNeg (en + (2 : Int32)).toNatClampNeg m1 m2 s1).2.2]; exact (own_en h0e he 3 (by decide)).2) rfl
  have FAa_runs_23 := FAa_runs_19.other W22 (Or.inl (Ne.symm A.2.2.2.2.2.2))
  have FAa_first_23 := FAa_first_19.other W22 (Or.inl (Ne.symm A.2.2.2.2.2.2))
  have FAa_end_23 := FAa_end_19.other W22 (Or.inl (Ne.symm A.2.2.2.2.2.2))
  have FAa_shift_23 := FAa_shift_19.other W22 (Or.inl (Ne.symm A.2.2.2.2.2.2))
  have EAa_23 := Exa.wr W22 EAa_19
  have K22 := K18.wr W22 (Or.inl (List.mem_cons_of_mem _ (List.mem_singleton.mpr rfl)))
  have Z22 : n0 ≤ h22.size := by rw [W22.size]; exact Z18
  refine own_st (T' := T22) (F' := (mkF m 140 #[.val (.ref a), .val (.long m1), .second, .val (.long m2), .second, .val (.long s1), .second, .val (.long s2), .second] [])) (st22) ?_
  refine own_st (T' := T22) (F' := (mkF m 141 #[.val (.ref a), .val (.long m1), .second, .val (.long m2), .second, .val (.long s1), .second, .val (.long s2), .second] [(.ref a)])) (fun _ kq => XS.aloadN X22.here hx rfl (hb hby d3_140) rfl rfl kq) ?_
  refine own_st (T' := T22) (F' := (mkF m 142 #[.val (.ref a), .val (.long m1), .second, .val (.long m2), .second, .val (.long s1), .second, .val (.long s2), .second] [(.ref a), (.ref a)])) (fun _ kq => XS.dup X22.here hx rfl (hb hby d3_141) rfl rfl kq) ?_
  obtain ⟨T24, X24, e24, st24⟩ := getF X22 hx hZ hown (host := "") (Or.inl (hw _ (List.mem_of_getElem? (i := 20) rfl))) Via.refl e22 FAa_end_23 (g := (mkF m 142 #[.val (.ref a), .val (.long m1), .second, .val (.long m2), .second, .val (.long s1), .second, .val (.long s2), .second] [(.ref a), (.ref a)])) rfl rfl (hb hby d3_142)
  refine own_st (T' := T24) (F' := (mkF m 145 #[.val (.ref a), .val (.long m1), .second, .val (.long m2), .second, .val (.long s1), .second, .val (.long s2), .second] [(.int en), (.ref a)])) (st24) ?_
  refine own_st (T' := T24) (F' := (mkF m 146 #[.val (.ref a), .val (.long m1), .second, .val (.long m2), .second, .val (.long s1), .second, .val (.long s2), .second] [(.int (4 : Int32)), (.int en), (.ref a)])) (fun _ kq => XS.iconst X24.here hx rfl (hb hby d3_145) kq) ?_
  refine own_st (T' := T24) (F' := (mkF m 147 #[.val (.ref a), .val (.long m1), .second, .val (.long m2), .second, .val (.long s1), .second, .val (.long s2), .second] [(.int (en + (4 : Int32))), (.ref a)])) (fun _ kq => XS.iadd X24.here hx rfl (hb hby d3_146) rfl kq) ?_
  obtain ⟨T25, h25, X25, e25, W25, st25⟩ := putF X24 hx hZ hown (host := "") (Or.inl (hw _ (List.mem_of_getElem? (i := 20) rfl))) Via.refl e24 FAa_end_23 EAa_23 (Or.inl (hw _ (List.mem_of_getElem? (i := 21) rfl))) (hw _ (List.mem_of_getElem? (i := 3) rfl)) (ty := .int) (by decide) rfl rfl (g := (mkF m 147 #[.val (.ref a), .val (.long m1), .second, .val (.long m2), .second, .val (.long s1), .second, .val (.long s2), .second] [(.int (en + (4 : Int32))), (.ref a)])) rfl rfl (hb hby d3_147)
  have FAa_runs_25 := FAa_runs_23.other W25 (Or.inr (slot_ne (a0 := a0) (C := "com/example/cotejo/cotejo/engine/Alignment") (Or.inl (hw _ (List.mem_of_getElem? (i := 12) rfl))) (Or.inl (hw _ (List.mem_of_getElem? (i := 21) rfl))) (by decide) (t := (.array .long)) (t' := .int) (by decide) (by decide)))
  have FAa_first_25 := FAa_first_23.other W25 (Or.inr (slot_ne (a0 := a0) (C := "com/example/cotejo/cotejo/engine/Alignment") (Or.inl (hw _ (List.mem_of_getElem? (i := 19) rfl))) (Or.inl (hw _ (List.mem_of_getElem? (i := 21) rfl))) (by decide) (t := .int) (t' := .int) (by decide) (by decide)))
  have FAa_end_25 := FAa_end_23.same W25
  have FAa_shift_25 := FAa_shift_23.other W25 (Or.inr (slot_ne (a0 := a0) (C := "com/example/cotejo/cotejo/engine/Alignment") (Or.inl (hw _ (List.mem_of_getElem? (i := 32) rfl))) (Or.inl (hw _ (List.mem_of_getElem? (i := 21) rfl))) (by decide) (t := .long) (t' := .int) (by decide) (by decide)))
  have EAa_25 := Exa.wr W25 EAa_23
  have VAr_25 := V22.other W25 A.2.2.2.2.2.2
  have K25 := K22.wr W25 (Or.inl (List.mem_cons_self ..))
  have N25 := Fr.snoc X25 N22 ga
  have Z25 : n0 ≤ h25.size := by rw [W25.size]; exact Z22
  refine own_st (T' := T25) (F' := (mkF m 150 #[.val (.ref a), .val (.long m1), .second, .val (.long m2), .second, .val (.long s1), .second, .val (.long s2), .second] [])) (st25) ?_
  exact own_retV X25 hx hlk hret (hb hby d3_150) (by decide) (by decide) (by rw [e25]; exact ⟨rfl, N25, K25, ⟨EAa_25, FAa_runs_25, FAa_first_25, FAa_end_25, FAa_shift_25, VAr_25, A.2.2.2.2.2.2⟩⟩)
theorem ef5 (m : MethodId) (x0 : Addr) (x1 : Int64) : entryFrame m #[(.ref x0), (.long x1)] 3 = mkF m 0 #[.val (.ref x0), .val (.long x1), .second] [] := by first | (simp [entryFrame, mkF, argsToLocals, Value.category]; done) | rfl
theorem d5_0 : decode prog_5_method_5_code 0 = .ok (.aload_n 0, 1) := by decide +kernel
theorem d5_1 : decode prog_5_method_5_code 1 = .ok (.getfield 13, 3) := by decide +kernel
theorem d5_4 : decode prog_5_method_5_code 4 = .ok (.aload_n 0, 1) := by decide +kernel
theorem d5_5 : decode prog_5_method_5_code 5 = .ok (.getfield 17, 3) := by decide +kernel
theorem d5_8 : decode prog_5_method_5_code 8 = .ok (.if_icmp .ge 59, 3) := by decide +kernel
theorem d5_67 : decode prog_5_method_5_code 67 = .ok (.return_, 1) := by decide +kernel
theorem d5_11 : decode prog_5_method_5_code 11 = .ok (.aload_n 0, 1) := by decide +kernel
theorem d5_12 : decode prog_5_method_5_code 12 = .ok (.getfield 9, 3) := by decide +kernel
theorem d5_15 : decode prog_5_method_5_code 15 = .ok (.aload_n 0, 1) := by decide +kernel
theorem d5_16 : decode prog_5_method_5_code 16 = .ok (.getfield 13, 3) := by decide +kernel
theorem d5_19 : decode prog_5_method_5_code 19 = .ok (.iconst 1, 1) := by decide +kernel
theorem d5_20 : decode prog_5_method_5_code 20 = .ok (.iadd, 1) := by decide +kernel
theorem d5_21 : decode prog_5_method_5_code 21 = .ok (.laload, 1) := by decide +kernel
theorem d5_22 : decode prog_5_method_5_code 22 = .ok (.lload_n 1, 1) := by decide +kernel
theorem d5_23 : decode prog_5_method_5_code 23 = .ok (.lcmp, 1) := by decide +kernel
theorem d5_24 : decode prog_5_method_5_code 24 = .ok (.ifCond .gt 43, 3) := by decide +kernel
theorem d5_27 : decode prog_5_method_5_code 27 = .ok (.aload_n 0, 1) := by decide +kernel
theorem d5_28 : decode prog_5_method_5_code 28 = .ok (.aload_n 0, 1) := by decide +kernel
theorem d5_29 : decode prog_5_method_5_code 29 = .ok (.getfield 9, 3) := by decide +kernel
theorem d5_32 : decode prog_5_method_5_code 32 = .ok (.aload_n 0, 1) := by decide +kernel
theorem d5_33 : decode prog_5_method_5_code 33 = .ok (.getfield 13, 3) := by decide +kernel
theorem d5_36 : decode prog_5_method_5_code 36 = .ok (.iconst 3, 1) := by decide +kernel
theorem d5_37 : decode prog_5_method_5_code 37 = .ok (.iadd, 1) := by decide +kernel
theorem d5_38 : decode prog_5_method_5_code 38 = .ok (.laload, 1) := by decide +kernel
theorem d5_39 : decode prog_5_method_5_code 39 = .ok (.aload_n 0, 1) := by decide +kernel
theorem d5_40 : decode prog_5_method_5_code 40 = .ok (.getfield 9, 3) := by decide +kernel
theorem d5_43 : decode prog_5_method_5_code 43 = .ok (.aload_n 0, 1) := by decide +kernel
theorem d5_44 : decode prog_5_method_5_code 44 = .ok (.getfield 13, 3) := by decide +kernel
theorem d5_47 : decode prog_5_method_5_code 47 = .ok (.iconst 1, 1) := by decide +kernel
theorem d5_48 : decode prog_5_method_5_code 48 = .ok (.iadd, 1) := by decide +kernel
theorem d5_49 : decode prog_5_method_5_code 49 = .ok (.laload, 1) := by decide +kernel
theorem d5_50 : decode prog_5_method_5_code 50 = .ok (.lsub, 1) := by decide +kernel
theorem d5_51 : decode prog_5_method_5_code 51 = .ok (.putfield 40, 3) := by decide +kernel
theorem d5_54 : decode prog_5_method_5_code 54 = .ok (.aload_n 0, 1) := by decide +kernel
theorem d5_55 : decode prog_5_method_5_code 55 = .ok (.dup, 1) := by decide +kernel
theorem d5_56 : decode prog_5_method_5_code 56 = .ok (.getfield 13, 3) := by decide +kernel
theorem d5_59 : decode prog_5_method_5_code 59 = .ok (.iconst 4, 1) := by decide +kernel
theorem d5_60 : decode prog_5_method_5_code 60 = .ok (.iadd, 1) := by decide +kernel
theorem d5_61 : decode prog_5_method_5_code 61 = .ok (.putfield 13, 3) := by decide +kernel
theorem d5_64 : decode prog_5_method_5_code 64 = .ok (.goto (-64), 3) := by decide +kernel
set_option maxRecDepth 65536 in
set_option maxHeartbeats 40000000 in
theorem rm5 (l : Launch) (Z : State) (a0 : Array Value) (hw : ∀ d ∈ tables_1, d.before a0 Z = true) (ws : List Jvm.Cond) (a : Addr) (q : Int64) (r : Addr) (xs : List Int64) (fi en : Int32) (sh : Int64) (h0 : Heap) (n0 : Nat) (Z0 : n0 ≤ h0.size) (ga : n0 ≤ a) (A : own_Al Z h0 a r xs fi en sh) (hf : ¬ fi < 0) (he : en.toInt ≤ 60) (hk : en.toInt - fi.toInt ≤ 4 * ((3 : Nat) : Int)) :
    own_Met l Z (⟨"com/example/cotejo/cotejo/engine/Alignment", "pass", "(J)V"⟩ : MethodName) prog_5_method_5_code 3 (none) ws ({ frames := 0, cells := 0, slots := 0, locals := 0 } : Room) #[(.ref a), (.long q)] h0 (fun v h L => v = none ∧ Fr n0 L ∧ Keep h0 h [a] ∧ own_Al Z h a r xs (own_ps xs en q 3 fi sh).1 en (own_ps xs en q 3 fi sh).2) := by
  refine own_body (plainFor_of_name pn0) ?_
  intro p e s m below meth c T X hx hby hml hret hlk hZ hown hnm eT
  have N := Fr.nil n0
  refine own_entry (ef5 m a q) ?_
  have hl := A.2.2.2.2.2.1.len
  have loop : ∀ (k : Nat) (f : Int32) (u : Int64) (h : Heap) (T : State) (locs : List Loc), Stand p l e ({ frames := 0, cells := 0, slots := 0, locals := 0 } : Room) s m #[(.ref a), (.long q)] below meth c T locs 0 0 → T.heap = h → Fr n0 locs → n0 ≤ h.size → Keep h0 h [a] → own_Al Z h a r xs f en u → ¬ f < 0 → en.toInt - f.toInt ≤ 4 * (k : Int) → own_Ends p e below s 0 0 (fun v h L => v = none ∧ Fr n0 L ∧ Keep h0 h [a] ∧ own_Al Z h a r xs (own_ps xs en q k f u).1 en (own_ps xs en q k f u).2) T (mkF m 0 #[.val (.ref a), .val (.long q), .second] []) := by
    intro k
    induction k with
    | zero =>
      intro f u h T locs X eT N Zh K B hf hk
      rw [own_ps]
      refine own_st (T' := T) (F' := (mkF m 1 #[.val (.ref a), .val (.long q), .second] [(.ref a)])) (fun _ kq => XS.aloadN X.here hx rfl (hb hby d5_0) rfl rfl kq) ?_
      obtain ⟨T26, X26, e26, st26⟩ := getF X hx hZ hown (host := "") (Or.inl (hw _ (List.mem_of_getElem? (i := 18) rfl))) Via.refl eT B.2.2.1 (g := (mkF m 1 #[.val (.ref a), .val (.long q), .second] [(.ref a)])) rfl rfl (hb hby d5_1)
      refine own_st (T' := T26) (F' := (mkF m 4 #[.val (.ref a), .val (.long q), .second] [(.int f)])) (st26) ?_
      refine own_st (T' := T26) (F' := (mkF m 5 #[.val (.ref a), .val (.long q), .second] [(.ref a), (.int f)])) (fun _ kq => XS.aloadN X26.here hx rfl (hb hby d5_4) rfl rfl kq) ?_
      obtain ⟨T27, X27, e27, st27⟩ := getF X26 hx hZ hown (host := "") (Or.inl (hw _ (List.mem_of_getElem? (i := 20) rfl))) Via.refl e26 B.2.2.2.1 (g := (mkF m 5 #[.val (.ref a), .val (.long q), .second] [(.ref a), (.int f)])) rfl rfl (hb hby d5_5)
      refine own_st (T' := T27) (F' := (mkF m 8 #[.val (.ref a), .val (.long q), .second] [(.int en), (.int f)])) (st27) ?_
      refine own_st (T' := T27) (F' := (mkF m 67 #[.val (.ref a), .val (.long q), .second] [])) (fun _ kq => XS.icmpYes X27.here hx rfl (pc0 := 8) (pc' := 67) rfl (hb hby d5_8) rfl (flt (own_stop hk)).2.1 (by decide) (by decide) kq) ?_
      exact own_retV X27 hx hlk hret (hb hby d5_67) (by decide) (by decide) (by rw [e27]; exact ⟨rfl, N, K, ⟨B.1, B.2.1, B.2.2.1, B.2.2.2.1, B.2.2.2.2.1, B.2.2.2.2.2.1, B.2.2.2.2.2.2⟩⟩)
    | succ k ih =>
      intro f u h T locs X eT N Zh K B hf hk
      rw [own_ps]
      refine own_st (T' := T) (F' := (mkF m 1 #[.val (.ref a), .val (.long q), .second] [(.ref a)])) (fun _ kq => XS.aloadN X.here hx rfl (hb hby d5_0) rfl rfl kq) ?_
      obtain ⟨T28, X28, e28, st28⟩ := getF X hx hZ hown (host := "") (Or.inl (hw _ (List.mem_of_getElem? (i := 18) rfl))) Via.refl eT B.2.2.1 (g := (mkF m 1 #[.val (.ref a), .val (.long q), .second] [(.ref a)])) rfl rfl (hb hby d5_1)
      refine own_st (T' := T28) (F' := (mkF m 4 #[.val (.ref a), .val (.long q), .second] [(.int f)])) (st28) ?_
      refine own_st (T' := T28) (F' := (mkF m 5 #[.val (.ref a), .val (.long q), .second] [(.ref a), (.int f)])) (fun _ kq => XS.aloadN X28.here hx rfl (hb hby d5_4) rfl rfl kq) ?_
      obtain ⟨T29, X29, e29, st29⟩ := getF X28 hx hZ hown (host := "") (Or.inl (hw _ (List.mem_of_getElem? (i := 20) rfl))) Via.refl e28 B.2.2.2.1 (g := (mkF m 5 #[.val (.ref a), .val (.long q), .second] [(.ref a), (.int f)])) rfl rfl (hb hby d5_5)
      refine own_st (T' := T29) (F' := (mkF m 8 #[.val (.ref a), .val (.long q), .second] [(.int en), (.int f)])) (st29) ?_
      by_cases hc8_30 : f < en
      ·
        rw [if_pos hc8_30]
        refine own_st (T' := T29) (F' := (mkF m 11 #[.val (.ref a), .val (.long q), .second] [])) (fun _ kq => XS.icmpNo X29.here hx rfl (hb hby d5_8) rfl (tlt hc8_30).2.1 kq) ?_
        refine own_st (T' := T29) (F' := (mkF m 12 #[.val (.ref a), .val (.long q), .second] [(.ref a)])) (fun _ kq => XS.aloadN X29.here hx rfl (hb hby d5_11) rfl rfl kq) ?_
        obtain ⟨T31, X31, e31, st31⟩ := getF X29 hx hZ hown (host := "") (Or.inl (hw _ (List.mem_of_getElem? (i := 11) rfl))) Via.refl e29 B.2.1 (g := (mkF m 12 #[.val (.ref a), .val (.long q), .second] [(.ref a)])) rfl rfl (hb hby d5_12)
        refine own_st (T' := T31) (F' := (mkF m 15 #[.val (.ref a), .val (.long q), .second] [(.ref r)])) (st31) ?_
        refine own_st (T' := T31) (F' := (mkF m 16 #[.val (.ref a), .val (.long q), .second] [(.ref a), (.ref r)])) (fun _ kq => XS.aloadN X31.here hx rfl (hb hby d5_15) rfl rfl kq) ?_
        obtain ⟨T32, X32, e32, st32⟩ := getF X31 hx hZ hown (host := "") (Or.inl (hw _ (List.mem_of_getElem? (i := 18) rfl))) Via.refl e31 B.2.2.1 (g := (mkF m 16 #[.val (.ref a), .val (.long q), .second] [(.ref a), (.ref r)])) rfl rfl (hb hby d5_16)
        refine own_st (T' := T32) (F' := (mkF m 19 #[.val (.ref a), .val (.long q), .second] [(.int f), (.ref r)])) (st32) ?_
        refine own_st (T' := T32) (F' := (mkF m 20 #[.val (.ref a), .val (.long q), .second] [(.int (1 : Int32)), (.int f), (.ref r)])) (fun _ kq => XS.iconst X32.here hx rfl (hb hby d5_19) kq) ?_
        refine own_st (T' := T32) (F' := (mkF m 21 #[.val (.ref a), .val (.long q), .second] [(.int (f + (1 : Int32))), (.ref r)])) (fun _ kq => XS.iadd X32.here hx rfl (hb hby d5_20) rfl kq) ?_
        refine own_st (T' := T32) (F' := (mkF m 22 #[.val (.ref a), .val (.long q), .second] [(.long (xs.getD (f + 1).toNatClampNeg 0))])) (own_laload X32 hx hZ e32 B.2.2.2.2.2.1 (g := (mkF m 21 #[.val (.ref a), .val (.long q), .second] [(.int (f + (1 : Int32))), (.ref r)])) rfl rfl (hb hby d5_21) (own_ix hf he hc8_30 1 (by decide)).2.1 (by rw [hl]; exact (own_ix hf he hc8_30 1 (by decide)).2.2 (by decide)) (w := (xs.getD (f + 1).toNatClampNeg 0)) rfl) ?_
        refine own_st (T' := T32) (F' := (mkF m 23 #[.val (.ref a), .val (.long q), .second] [(.long q), (.long (xs.getD (f + 1).toNatClampNeg 0))])) (fun _ kq => XS.lloadN X32.here hx rfl (hb hby d5_22) rfl kq) ?_
        refine own_st (T' := T32) (F' := (mkF m 24 #[.val (.ref a), .val (.long q), .second] [(.int (lcmpW (xs.getD (f + 1).toNatClampNeg 0) q))])) (fun _ kq => XS.lcmp X32.here hx rfl (hb hby d5_23) rfl kq) ?_
        by_cases hc24_33 : q < (xs.getD (f + 1).toNatClampNeg 0)
        ·
          rw [if_pos hc24_33]
          refine own_st (T' := T32) (F' := (mkF m 67 #[.val (.ref a), .val (.long q), .second] [])) (fun _ kq => XS.ifYes X32.here hx rfl (pc0 := 24) (pc' := 67) rfl (hb hby d5_24) rfl ((if0 _ _).trans (tlt ((lw_gt (xs.getD (f + 1).toNatClampNeg 0) q).mpr hc24_33)).2.2.1) (by decide) (by decide) kq) ?_
          exact own_retV X32 hx hlk hret (hb hby d5_67) (by decide) (by decide) (by rw [e32]; exact ⟨rfl, N, K, ⟨B.1, B.2.1, B.2.2.1, B.2.2.2.1, B.2.2.2.2.1, B.2.2.2.2.2.1, B.2.2.2.2.2.2⟩⟩)
        ·
          rw [if_neg hc24_33]
          refine own_st (T' := T32) (F' := (mkF m 27 #[.val (.ref a), .val (.long q), .second] [])) (fun _ kq => XS.ifNo X32.here hx rfl (hb hby d5_24) rfl ((if0 _ _).trans (flt (mt (lw_gt (xs.getD (f + 1).toNatClampNeg 0) q).mp hc24_33)).2.2.1) kq) ?_
          refine own_st (T' := T32) (F' := (mkF m 28 #[.val (.ref a), .val (.long q), .second] [(.ref a)])) (fun _ kq => XS.aloadN X32.here hx rfl (hb hby d5_27) rfl rfl kq) ?_
          refine own_st (T' := T32) (F' := (mkF m 29 #[.val (.ref a), .val (.long q), .second] [(.ref a), (.ref a)])) (fun _ kq => XS.aloadN X32.here hx rfl (hb hby d5_28) rfl rfl kq) ?_
          obtain ⟨T34, X34, e34, st34⟩ := getF X32 hx hZ hown (host := "") (Or.inl (hw _ (List.mem_of_getElem? (i := 11) rfl))) Via.refl e32 B.2.1 (g := (mkF m 29 #[.val (.ref a), .val (.long q), .second] [(.ref a), (.ref a)])) rfl rfl (hb hby d5_29)
          refine own_st (T' := T34) (F' := (mkF m 32 #[.val (.ref a), .val (.long q), .second] [(.ref r), (.ref a)])) (st34) ?_
          refine own_st (T' := T34) (F' := (mkF m 33 #[.val (.ref a), .val (.long q), .second] [(.ref a), (.ref r), (.ref a)])) (fun _ kq => XS.aloadN X34.here hx rfl (hb hby d5_32) rfl rfl kq) ?_
          obtain ⟨T35, X35, e35, st35⟩ := getF X34 hx hZ hown (host := "") (Or.inl (hw _ (List.mem_of_getElem? (i := 18) rfl))) Via.refl e34 B.2.2.1 (g := (mkF m 33 #[.val (.ref a), .val (.long q), .second] [(.ref a), (.ref r), (.ref a)])) rfl rfl (hb hby d5_33)
          refine own_st (T' := T35) (F' := (mkF m 36 #[.val (.ref a), .val (.long q), .second] [(.int f), (.ref r), (.ref a)])) (st35) ?_
          refine own_st (T' := T35) (F' := (mkF m 37 #[.val (.ref a), .val (.long q), .second] [(.int (3 : Int32)), (.int f), (.ref r), (.ref a)])) (fun _ kq => XS.iconst X35.here hx rfl (hb hby d5_36) kq) ?_
          refine own_st (T' := T35) (F' := (mkF m 38 #[.val (.ref a), .val (.long q), .second] [(.int (f + (3 : Int32))), (.ref r), (.ref a)])) (fun _ kq => XS.iadd X35.here hx rfl (hb hby d5_37) rfl kq) ?_
          refine own_st (T' := T35) (F' := (mkF m 39 #[.val (.ref a), .val (.long q), .second] [(.long (xs.getD (f + 3).toNatClampNeg 0)), (.ref a)])) (own_laload X35 hx hZ e35 B.2.2.2.2.2.1 (g := (mkF m 38 #[.val (.ref a), .val (.long q), .second] [(.int (f + (3 : Int32))), (.ref r), (.ref a)])) rfl rfl (hb hby d5_38) (own_ix hf he hc8_30 3 (by decide)).2.1 (by rw [hl]; exact (own_ix hf he hc8_30 3 (by decide)).2.2 (by decide)) (w := (xs.getD (f + 3).toNatClampNeg 0)) rfl) ?_
          refine own_st (T' := T35) (F' := (mkF m 40 #[.val (.ref a), .val (.long q), .second] [(.ref a), (.long (xs.getD (f + 3).toNatClampNeg 0)), (.ref a)])) (fun _ kq => XS.aloadN X35.here hx rfl (hb hby d5_39) rfl rfl kq) ?_
          obtain ⟨T36, X36, e36, st36⟩ := getF X35 hx hZ hown (host := "") (Or.inl (hw _ (List.mem_of_getElem? (i := 11) rfl))) Via.refl e35 B.2.1 (g := (mkF m 40 #[.val (.ref a), .val (.long q), .second] [(.ref a), (.long (xs.getD (f + 3).toNatClampNeg 0)), (.ref a)])) rfl rfl (hb hby d5_40)
          refine own_st (T' := T36) (F' := (mkF m 43 #[.val (.ref a), .val (.long q), .second] [(.ref r), (.long (xs.getD (f + 3).toNatClampNeg 0)), (.ref a)])) (st36) ?_
          refine own_st (T' := T36) (F' := (mkF m 44 #[.val (.ref a), .val (.long q), .second] [(.ref a), (.ref r), (.long (xs.getD (f + 3).toNatClampNeg 0)), (.ref a)])) (fun _ kq => XS.aloadN X36.here hx rfl (hb hby d5_43) rfl rfl kq) ?_
          obtain ⟨T37, X37, e37, st37⟩ := getF X36 hx hZ hown (host := "") (Or.inl (hw _ (List.mem_of_getElem? (i := 18) rfl))) Via.refl e36 B.2.2.1 (g := (mkF m 44 #[.val (.ref a), .val (.long q), .second] [(.ref a), (.ref r), (.long (xs.getD (f + 3).toNatClampNeg 0)), (.ref a)])) rfl rfl (hb hby d5_44)
          refine own_st (T' := T37) (F' := (mkF m 47 #[.val (.ref a), .val (.long q), .second] [(.int f), (.ref r), (.long (xs.getD (f + 3).toNatClampNeg 0)), (.ref a)])) (st37) ?_
          refine own_st (T' := T37) (F' := (mkF m 48 #[.val (.ref a), .val (.long q), .second] [(.int (1 : Int32)), (.int f), (.ref r), (.long (xs.getD (f + 3).toNatClampNeg 0)), (.ref a)])) (fun _ kq => XS.iconst X37.here hx rfl (hb hby d5_47) kq) ?_
          refine own_st (T' := T37) (F' := (mkF m 49 #[.val (.ref a), .val (.long q), .second] [(.int (f + (1 : Int32))), (.ref r), (.long (xs.getD (f + 3).toNatClampNeg 0)), (.ref a)])) (fun _ kq => XS.iadd X37.here hx rfl (hb hby d5_48) rfl kq) ?_
          refine own_st (T' := T37) (F' := (mkF m 50 #[.val (.ref a), .val (.long q), .second] [(.long (xs.getD (f + 1).toNatClampNeg 0)), (.long (xs.getD (f + 3).toNatClampNeg 0)), (.ref a)])) (own_laload X37 hx hZ e37 B.2.2.2.2.2.1 (g := (mkF m 49 #[.val (.ref a), .val (.long q), .second] [(.int (f + (1 : Int32))), (.ref r), (.long (xs.getD (f + 3).toNatClampNeg 0)), (.ref a)])) rfl rfl (hb hby d5_49) (own_ix hf he hc8_30 1 (by decide)).2.1 (by rw [hl]; exact (own_ix hf he hc8_30 1 (by decide)).2.2 (by decide)) (w := (xs.getD (f + 1).toNatClampNeg 0)) rfl) ?_
          refine own_st (T' := T37) (F' := (mkF m 51 #[.val (.ref a), .val (.long q), .second] [(.long ((xs.getD (f + 3).toNatClampNeg 0) - (xs.getD (f + 1).toNatClampNeg 0))), (.ref a)])) (fun _ kq => XS.lsub X37.here hx rfl (hb hby d5_50) rfl kq) ?_
          obtain ⟨T38, h38, X38, e38, W38, st38⟩ := putF X37 hx hZ hown (host := "") (Or.inl (hw _ (List.mem_of_getElem? (i := 31) rfl))) Via.refl e37 B.2.2.2.2.1 B.1 (Or.inl (hw _ (List.mem_of_getElem? (i := 32) rfl))) (hw _ (List.mem_of_getElem? (i := 3) rfl)) (ty := .long) (by decide) rfl rfl (g := (mkF m 51 #[.val (.ref a), .val (.long q), .second] [(.long ((xs.getD (f + 3).toNatClampNeg 0) - (xs.getD (f + 1).toNatClampNeg 0))), (.ref a)])) rfl rfl (hb hby d5_51)
          have FAa_runs_38 := B.2.1.other W38 (Or.inr (slot_ne (a0 := a0) (C := "com/example/cotejo/cotejo/engine/Alignment") (Or.inl (hw _ (List.mem_of_getElem? (i := 12) rfl))) (Or.inl (hw _ (List.mem_of_getElem? (i := 32) rfl))) (by decide) (t := (.array .long)) (t' := .long) (by decide) (by decide)))
          have FAa_first_38 := B.2.2.1.other W38 (Or.inr (slot_ne (a0 := a0) (C := "com/example/cotejo/cotejo/engine/Alignment") (Or.inl (hw _ (List.mem_of_getElem? (i := 19) rfl))) (Or.inl (hw _ (List.mem_of_getElem? (i := 32) rfl))) (by decide) (t := .int) (t' := .long) (by decide) (by decide)))
          have FAa_end_38 := B.2.2.2.1.other W38 (Or.inr (slot_ne (a0 := a0) (C := "com/example/cotejo/cotejo/engine/Alignment") (Or.inl (hw _ (List.mem_of_getElem? (i := 21) rfl))) (Or.inl (hw _ (List.mem_of_getElem? (i := 32) rfl))) (by decide) (t := .int) (t' := .long) (by decide) (by decide)))
          have FAa_shift_38 := B.2.2.2.2.1.same W38
          have EAa_38 := Exa.wr W38 B.1
          have VAr_38 := B.2.2.2.2.2.1.other W38 B.2.2.2.2.2.2
          have K38 := K.wr W38 (Or.inl (List.mem_singleton.mpr rfl))
          have N38 := Fr.snoc X38 N ga
          have Z38 : n0 ≤ h38.size := by rw [W38.size]; exact Zh
          refine own_st (T' := T38) (F' := (mkF m 54 #[.val (.ref a), .val (.long q), .second] [])) (st38) ?_
          refine own_st (T' := T38) (F' := (mkF m 55 #[.val (.ref a), .val (.long q), .second] [(.ref a)])) (fun _ kq => XS.aloadN X38.here hx rfl (hb hby d5_54) rfl rfl kq) ?_
          refine own_st (T' := T38) (F' := (mkF m 56 #[.val (.ref a), .val (.long q), .second] [(.ref a), (.ref a)])) (fun _ kq => XS.dup X38.here hx rfl (hb hby d5_55) rfl rfl kq) ?_
          obtain ⟨T39, X39, e39, st39⟩ := getF X38 hx hZ hown (host := "") (Or.inl (hw _ (List.mem_of_getElem? (i := 18) rfl))) Via.refl e38 FAa_first_38 (g := (mkF m 56 #[.val (.ref a), .val (.long q), .second] [(.ref a), (.ref a)])) rfl rfl (hb hby d5_56)
          refine own_st (T' := T39) (F' := (mkF m 59 #[.val (.ref a), .val (.long q), .second] [(.int f), (.ref a)])) (st39) ?_
          refine own_st (T' := T39) (F' := (mkF m 60 #[.val (.ref a), .val (.long q), .second] [(.int (4 : Int32)), (.int f), (.ref a)])) (fun _ kq => XS.iconst X39.here hx rfl (hb hby d5_59) kq) ?_
          refine own_st (T' := T39) (F' := (mkF m 61 #[.val (.ref a), .val (.long q), .second] [(.int (f + (4 : Int32))), (.ref a)])) (fun _ kq => XS.iadd X39.here hx rfl (hb hby d5_60) rfl kq) ?_
          obtain ⟨T40, h40, X40, e40, W40, st40⟩ := putF X39 hx hZ hown (host := "") (Or.inl (hw _ (List.mem_of_getElem? (i := 18) rfl))) Via.refl e39 FAa_first_38 EAa_38 (Or.inl (hw _ (List.mem_of_getElem? (i := 19) rfl))) (hw _ (List.mem_of_getElem? (i := 3) rfl)) (ty := .int) (by decide) rfl rfl (g := (mkF m 61 #[.val (.ref a), .val (.long q), .second] [(.int (f + (4 : Int32))), (.ref a)])) rfl rfl (hb hby d5_61)
          have FAa_runs_40 := FAa_runs_38.other W40 (Or.inr (slot_ne (a0 := a0) (C := "com/example/cotejo/cotejo/engine/Alignment") (Or.inl (hw _ (List.mem_of_getElem? (i := 12) rfl))) (Or.inl (hw _ (List.mem_of_getElem? (i := 19) rfl))) (by decide) (t := (.array .long)) (t' := .int) (by decide) (by decide)))
          have FAa_first_40 := FAa_first_38.same W40
          have FAa_end_40 := FAa_end_38.other W40 (Or.inr (slot_ne (a0 := a0) (C := "com/example/cotejo/cotejo/engine/Alignment") (Or.inl (hw _ (List.mem_of_getElem? (i := 21) rfl))) (Or.inl (hw _ (List.mem_of_getElem? (i := 19) rfl))) (by decide) (t := .int) (t' := .int) (by decide) (by decide)))
          have FAa_shift_40 := FAa_shift_38.other W40 (Or.inr (slot_ne (a0 := a0) (C := "com/example/cotejo/cotejo/engine/Alignment") (Or.inl (hw _ (List.mem_of_getElem? (i := 32) rfl))) (Or.inl (hw _ (List.mem_of_getElem? (i := 19) rfl))) (by decide) (t := .long) (t' := .int) (by decide) (by decide)))
          have EAa_40 := Exa.wr W40 EAa_38
          have VAr_40 := VAr_38.other W40 B.2.2.2.2.2.2
          have K40 := K38.wr W40 (Or.inl (List.mem_singleton.mpr rfl))
          have N40 := Fr.snoc X40 N38 ga
          have Z40 : n0 ≤ h40.size := by rw [W40.size]; exact Z38
          refine own_st (T' := T40) (F' := (mkF m 64 #[.val (.ref a), .val (.long q), .second] [])) (st40) ?_
          refine own_st (T' := T40) (F' := (mkF m 0 #[.val (.ref a), .val (.long q), .second] [])) (fun _ kq => XS.goto X40.here hx rfl (pc0 := 64) (pc' := 0) rfl (hb hby d5_64) (by decide) (by decide) kq) ?_
          exact ih _ _ _ _ _ X40 e40 N40 Z40 K40 ⟨EAa_40, FAa_runs_40, FAa_first_40, FAa_end_40, FAa_shift_40, VAr_40, B.2.2.2.2.2.2⟩ (own_ix hf he hc8_30 4 (by decide)).2.1 (own_more hf he hc8_30 hk)
      ·
        rw [if_neg hc8_30]
        refine own_st (T' := T29) (F' := (mkF m 67 #[.val (.ref a), .val (.long q), .second] [])) (fun _ kq => XS.icmpYes X29.here hx rfl (pc0 := 8) (pc' := 67) rfl (hb hby d5_8) rfl (flt hc8_30).2.1 (by decide) (by decide) kq) ?_
        exact own_retV X29 hx hlk hret (hb hby d5_67) (by decide) (by decide) (by rw [e29]; exact ⟨rfl, N, K, ⟨B.1, B.2.1, B.2.2.1, B.2.2.2.1, B.2.2.2.2.1, B.2.2.2.2.2.1, B.2.2.2.2.2.2⟩⟩)
  exact loop 3 fi sh h0 T [] X eT N Z0 (Keep.refl h0 [a]) A hf hk
theorem d6_0 : decode prog_5_method_6_code 0 = .ok (.aload_n 0, 1) := by decide +kernel
theorem d6_1 : decode prog_5_method_6_code 1 = .ok (.getfield 13, 3) := by decide +kernel
theorem d6_4 : decode prog_5_method_6_code 4 = .ok (.aload_n 0, 1) := by decide +kernel
theorem d6_5 : decode prog_5_method_6_code 5 = .ok (.getfield 17, 3) := by decide +kernel
theorem d6_11 : decode prog_5_method_6_code 11 = .ok (.aload_n 0, 1) := by decide +kernel
theorem d6_12 : decode prog_5_method_6_code 12 = .ok (.getfield 9, 3) := by decide +kernel
theorem d6_15 : decode prog_5_method_6_code 15 = .ok (.aload_n 0, 1) := by decide +kernel
theorem d6_16 : decode prog_5_method_6_code 16 = .ok (.getfield 13, 3) := by decide +kernel
theorem d6_19 : decode prog_5_method_6_code 19 = .ok (.laload, 1) := by decide +kernel
theorem d6_20 : decode prog_5_method_6_code 20 = .ok (.lload_n 1, 1) := by decide +kernel
theorem d6_21 : decode prog_5_method_6_code 21 = .ok (.lcmp, 1) := by decide +kernel
theorem d6_29 : decode prog_5_method_6_code 29 = .ok (.iconst 0, 1) := by decide +kernel
theorem d6_25 : decode prog_5_method_6_code 25 = .ok (.iconst 1, 1) := by decide +kernel
theorem d6_26 : decode prog_5_method_6_code 26 = .ok (.goto 4, 3) := by decide +kernel
theorem ef6 (m : MethodId) (x0 : Addr) (x1 : Int64) : entryFrame m #[(.ref x0), (.long x1)] 3 = mkF m 0 #[.val (.ref x0), .val (.long x1), .second] [] := by first | (simp [entryFrame, mkF, argsToLocals, Value.category]; done) | rfl
theorem d6_8 : decode prog_5_method_6_code 8 = .ok (.if_icmp .ge 21, 3) := by decide +kernel
theorem d6_22 : decode prog_5_method_6_code 22 = .ok (.ifCond .gt 7, 3) := by decide +kernel
theorem d6_30 : decode prog_5_method_6_code 30 = .ok (.ireturn, 1) := by decide +kernel
def f6 (q : Int64) (xs : List Int64) (fi : Int32) (en : Int32) : Int32 := if fi < en then (if q < (xs.getD fi.toNatClampNeg 0) then ((0 : Int32)) else ((1 : Int32))) else ((0 : Int32))
set_option maxRecDepth 65536 in
set_option maxHeartbeats 40000000 in
theorem rm6 (l : Launch) (Z : State) (a0 : Array Value) (hw : ∀ d ∈ tables_1, d.before a0 Z = true) (ws : List Jvm.Cond) (a : Addr) (q : Int64) (r : Addr) (sh : Int64) (xs : List Int64) (fi : Int32) (en : Int32) (h0 : Heap) (n0 : Nat) (A : own_Al Z h0 a r xs fi en sh) (hf : ¬ fi < 0) (he : en.toInt ≤ 60) :
    own_Met l Z (⟨"com/example/cotejo/cotejo/engine/Alignment", "inRun", "(J)Z"⟩ : MethodName) prog_5_method_6_code 3 (some .boolean) ws ({ frames := 0, cells := 0, slots := 0, locals := 0 } : Room) #[(.ref a), (.long q)] h0 (own_PQ (.int (f6 q xs fi en)) h0 n0) := by
  refine own_body (plainFor_of_name pn0) ?_
  intro p e s m below meth c T X hx hby hml hret hlk hZ hown hnm eT
  have N := Fr.nil n0
  refine own_entry (ef6 m a q) ?_
  unfold f6
  refine own_st (T' := T) (F' := (mkF m 1 #[.val (.ref a), .val (.long q), .second] [(.ref a)])) (fun _ kq => XS.aloadN X.here hx rfl (hb hby d6_0) rfl rfl kq) ?_
  obtain ⟨T45, X45, e45, st45⟩ := getF X hx hZ hown (host := "") (Or.inl (hw _ (List.mem_of_getElem? (i := 18) rfl))) Via.refl eT A.2.2.1 (g := (mkF m 1 #[.val (.ref a), .val (.long q), .second] [(.ref a)])) rfl rfl (hb hby d6_1)
  refine own_st (T' := T45) (F' := (mkF m 4 #[.val (.ref a), .val (.long q), .second] [(.int fi)])) (st45) ?_
  refine own_st (T' := T45) (F' := (mkF m 5 #[.val (.ref a), .val (.long q), .second] [(.ref a), (.int fi)])) (fun _ kq => XS.aloadN X45.here hx rfl (hb hby d6_4) rfl rfl kq) ?_
  obtain ⟨T46, X46, e46, st46⟩ := getF X45 hx hZ hown (host := "") (Or.inl (hw _ (List.mem_of_getElem? (i := 20) rfl))) Via.refl e45 A.2.2.2.1 (g := (mkF m 5 #[.val (.ref a), .val (.long q), .second] [(.ref a), (.int fi)])) rfl rfl (hb hby d6_5)
  refine own_st (T' := T46) (F' := (mkF m 8 #[.val (.ref a), .val (.long q), .second] [(.int en), (.int fi)])) (st46) ?_
  by_cases hc8_47 : fi < en
  ·
    rw [if_pos hc8_47]
    refine own_st (T' := T46) (F' := (mkF m 11 #[.val (.ref a), .val (.long q), .second] [])) (fun _ kq => XS.icmpNo X46.here hx rfl (hb hby d6_8) rfl (tlt hc8_47).2.1 kq) ?_
    refine own_st (T' := T46) (F' := (mkF m 12 #[.val (.ref a), .val (.long q), .second] [(.ref a)])) (fun _ kq => XS.aloadN X46.here hx rfl (hb hby d6_11) rfl rfl kq) ?_
    obtain ⟨T48, X48, e48, st48⟩ := getF X46 hx hZ hown (host := "") (Or.inl (hw _ (List.mem_of_getElem? (i := 11) rfl))) Via.refl e46 A.2.1 (g := (mkF m 12 #[.val (.ref a), .val (.long q), .second] [(.ref a)])) rfl rfl (hb hby d6_12)
    refine own_st (T' := T48) (F' := (mkF m 15 #[.val (.ref a), .val (.long q), .second] [(.ref r)])) (st48) ?_
    refine own_st (T' := T48) (F' := (mkF m 16 #[.val (.ref a), .val (.long q), .second] [(.ref a), (.ref r)])) (fun _ kq => XS.aloadN X48.here hx rfl (hb hby d6_15) rfl rfl kq) ?_
    obtain ⟨T49, X49, e49, st49⟩ := getF X48 hx hZ hown (host := "") (Or.inl (hw _ (List.mem_of_getElem? (i := 18) rfl))) Via.refl e48 A.2.2.1 (g := (mkF m 16 #[.val (.ref a), .val (.long q), .second] [(.ref a), (.ref r)])) rfl rfl (hb hby d6_16)
    refine own_st (T' := T49) (F' := (mkF m 19 #[.val (.ref a), .val (.long q), .second] [(.int fi), (.ref r)])) (st49) ?_
    refine own_st (T' := T49) (F' := (mkF m 20 #[.val (.ref a), .val (.long q), .second] [(.long (xs.getD fi.toNatClampNeg 0))])) (own_laload X49 hx hZ e49 A.2.2.2.2.2.1 (g := (mkF m 19 #[.val (.ref a), .val (.long q), .second] [(.int fi), (.ref r)])) rfl rfl (hb hby d6_19) hf (by rw [A.2.2.2.2.2.1.len]; exact own_i0 hf he hc8_47) (w := (xs.getD fi.toNatClampNeg 0)) rfl) ?_
    refine own_st (T' := T49) (F' := (mkF m 21 #[.val (.ref a), .val (.long q), .second] [(.long q), (.long (xs.getD fi.toNatClampNeg 0))])) (fun _ kq => XS.lloadN X49.here hx rfl (hb hby d6_20) rfl kq) ?_
    refine own_st (T' := T49) (F' := (mkF m 22 #[.val (.ref a), .val (.long q), .second] [(.int (lcmpW (xs.getD fi.toNatClampNeg 0) q))])) (fun _ kq => XS.lcmp X49.here hx rfl (hb hby d6_21) rfl kq) ?_
    by_cases hc22_50 : q < (xs.getD fi.toNatClampNeg 0)
    ·
      rw [if_pos hc22_50]
      refine own_st (T' := T49) (F' := (mkF m 29 #[.val (.ref a), .val (.long q), .second] [])) (fun _ kq => XS.ifYes X49.here hx rfl (pc0 := 22) (pc' := 29) rfl (hb hby d6_22) rfl ((if0 _ _).trans (tlt ((lw_gt (xs.getD fi.toNatClampNeg 0) q).mpr hc22_50)).2.2.1) (by decide) (by decide) kq) ?_
      refine own_st (T' := T49) (F' := (mkF m 30 #[.val (.ref a), .val (.long q), .second] [(.int (0 : Int32))])) (fun _ kq => XS.iconst X49.here hx rfl (hb hby d6_29) kq) ?_
      exact own_retN X49 hx hlk hret (by simp) (hb hby d6_30) (by decide) (by decide) (own_PQi rfl N e49)
    ·
      rw [if_neg hc22_50]
      refine own_st (T' := T49) (F' := (mkF m 25 #[.val (.ref a), .val (.long q), .second] [])) (fun _ kq => XS.ifNo X49.here hx rfl (hb hby d6_22) rfl ((if0 _ _).trans (flt (mt (lw_gt (xs.getD fi.toNatClampNeg 0) q).mp hc22_50)).2.2.1) kq) ?_
      refine own_st (T' := T49) (F' := (mkF m 26 #[.val (.ref a), .val (.long q), .second] [(.int (1 : Int32))])) (fun _ kq => XS.iconst X49.here hx rfl (hb hby d6_25) kq) ?_
      refine own_st (T' := T49) (F' := (mkF m 30 #[.val (.ref a), .val (.long q), .second] [(.int (1 : Int32))])) (fun _ kq => XS.goto X49.here hx rfl (pc0 := 26) (pc' := 30) rfl (hb hby d6_26) (by decide) (by decide) kq) ?_
      exact own_retN X49 hx hlk hret (by simp) (hb hby d6_30) (by decide) (by decide) (own_PQi rfl N e49)
  ·
    rw [if_neg hc8_47]
    refine own_st (T' := T46) (F' := (mkF m 29 #[.val (.ref a), .val (.long q), .second] [])) (fun _ kq => XS.icmpYes X46.here hx rfl (pc0 := 8) (pc' := 29) rfl (hb hby d6_8) rfl (flt hc8_47).2.1 (by decide) (by decide) kq) ?_
    refine own_st (T' := T46) (F' := (mkF m 30 #[.val (.ref a), .val (.long q), .second] [(.int (0 : Int32))])) (fun _ kq => XS.iconst X46.here hx rfl (hb hby d6_29) kq) ?_
    exact own_retN X46 hx hlk hret (by simp) (hb hby d6_30) (by decide) (by decide) (own_PQi rfl N e46)
def own_ss (xs : List Int64) (en : Int32) (q : Int64) (f : Int32) (u : Int64) : Int64 := if (f6 q xs f en) = (0 : Int32) then (q + u) else xs.getD (f + 2).toNatClampNeg 0
theorem own_ss_lt {q : Int64} {xs : List Int64} {f en : Int32} (h : ¬ f6 q xs f en = 0) : f < en := by
  by_cases z : f < en
  · exact z
  · exact absurd (by unfold f6; rw [if_neg z]) h
theorem ef4 (m : MethodId) (x0 : Addr) (x1 : Int64) : entryFrame m #[(.ref x0), (.long x1)] 3 = mkF m 0 #[.val (.ref x0), .val (.long x1), .second] [] := by first | (simp [entryFrame, mkF, argsToLocals, Value.category]; done) | rfl
theorem d4_0 : decode prog_5_method_3_code 0 = .ok (.aload_n 0, 1) := by decide +kernel
theorem d4_1 : decode prog_5_method_3_code 1 = .ok (.lload_n 1, 1) := by decide +kernel
theorem pd0 : parseMethodDescriptor "(J)V" = some ⟨[.long], none⟩ := by decide +kernel
theorem d4_2 : decode prog_5_method_3_code 2 = .ok (.invokevirtual 32, 3) := by decide +kernel
theorem d4_5 : decode prog_5_method_3_code 5 = .ok (.aload_n 0, 1) := by decide +kernel
theorem d4_6 : decode prog_5_method_3_code 6 = .ok (.lload_n 1, 1) := by decide +kernel
theorem pd1 : parseMethodDescriptor "(J)Z" = some ⟨[.long], some .boolean⟩ := by decide +kernel
theorem d4_7 : decode prog_5_method_3_code 7 = .ok (.invokevirtual 36, 3) := by decide +kernel
theorem d4_10 : decode prog_5_method_3_code 10 = .ok (.ifCond .eq 17, 3) := by decide +kernel
theorem d4_27 : decode prog_5_method_3_code 27 = .ok (.lload_n 1, 1) := by decide +kernel
theorem d4_28 : decode prog_5_method_3_code 28 = .ok (.aload_n 0, 1) := by decide +kernel
theorem d4_29 : decode prog_5_method_3_code 29 = .ok (.getfield 40, 3) := by decide +kernel
theorem d4_32 : decode prog_5_method_3_code 32 = .ok (.ladd, 1) := by decide +kernel
theorem d4_33 : decode prog_5_method_3_code 33 = .ok (.lreturn, 1) := by decide +kernel
theorem d4_13 : decode prog_5_method_3_code 13 = .ok (.aload_n 0, 1) := by decide +kernel
theorem d4_14 : decode prog_5_method_3_code 14 = .ok (.getfield 9, 3) := by decide +kernel
theorem d4_17 : decode prog_5_method_3_code 17 = .ok (.aload_n 0, 1) := by decide +kernel
theorem d4_18 : decode prog_5_method_3_code 18 = .ok (.getfield 13, 3) := by decide +kernel
theorem d4_21 : decode prog_5_method_3_code 21 = .ok (.iconst 2, 1) := by decide +kernel
theorem d4_22 : decode prog_5_method_3_code 22 = .ok (.iadd, 1) := by decide +kernel
theorem d4_23 : decode prog_5_method_3_code 23 = .ok (.laload, 1) := by decide +kernel
theorem d4_24 : decode prog_5_method_3_code 24 = .ok (.goto 9, 3) := by decide +kernel
set_option maxRecDepth 65536 in
set_option maxHeartbeats 40000000 in
theorem rm4 (l : Launch) (Z : State) (a0 : Array Value) (hw : ∀ d ∈ tables_1, d.before a0 Z = true) (ws : List Jvm.Cond) (a : Addr) (q : Int64) (r : Addr) (xs : List Int64) (fi en : Int32) (sh : Int64) (h0 : Heap) (n0 : Nat) (Z0 : n0 ≤ h0.size) (ga : n0 ≤ a) (A : own_Al Z h0 a r xs fi en sh) (hf : ¬ fi < 0) (he : en.toInt ≤ 60) (hk : en.toInt - fi.toInt ≤ 4 * ((3 : Nat) : Int)) :
    own_Met l Z (⟨"com/example/cotejo/cotejo/engine/Alignment", "sourceStart", "(J)J"⟩ : MethodName) prog_5_method_3_code 3 (some .long) ws ({ frames := 1, cells := 0, slots := 0, locals := 14 } : Room) #[(.ref a), (.long q)] h0 (fun v h L => v = some (.long (own_ss xs en q (own_ps xs en q 3 fi sh).1 (own_ps xs en q 3 fi sh).2)) ∧ Fr n0 L ∧ Keep h0 h [a] ∧ own_Al Z h a r xs (own_ps xs en q 3 fi sh).1 en (own_ps xs en q 3 fi sh).2) := by
  refine own_body (plainFor_of_name pn0) ?_
  intro p e s m below meth c T X hx hby hml hret hlk hZ hown hnm eT
  have N := Fr.nil n0
  refine own_entry (ef4 m a q) ?_
  have hl := A.2.2.2.2.2.1.len
  refine own_st (T' := T) (F' := (mkF m 1 #[.val (.ref a), .val (.long q), .second] [(.ref a)])) (fun _ kq => XS.aloadN X.here hx rfl (hb hby d4_0) rfl rfl kq) ?_
  refine own_st (T' := T) (F' := (mkF m 2 #[.val (.ref a), .val (.long q), .second] [(.long q), (.ref a)])) (fun _ kq => XS.lloadN X.here hx rfl (hb hby d4_1) rfl kq) ?_
  obtain ⟨v51, T51, L51, X51, hQ51, st51⟩ := own_callX X hx hZ 0 hown (hw _ (List.mem_of_getElem? (i := 27) rfl)) (hw _ (List.mem_of_getElem? (i := 28) rfl)) (hw _ (List.mem_of_getElem? (i := 29) rfl)) (hw _ (List.mem_of_getElem? (i := 16) rfl)) rfl (hw _ (List.mem_of_getElem? (i := 4) rfl)) (hw _ (List.mem_of_getElem? (i := 30) rfl)) (by decide) (rm5 l Z a0 hw [] a q r xs fi en sh h0 n0 Z0 ga ⟨A.1, A.2.1, A.2.2.1, A.2.2.2.1, A.2.2.2.2.1, A.2.2.2.2.2.1, A.2.2.2.2.2.2⟩ hf he hk) (by decide) (by decide) eT A.1 (by decide) (by decide) (g := (mkF m 2 #[.val (.ref a), .val (.long q), .second] [(.long q), (.ref a)])) rfl (by rw [hml]; rfl) (argsL := [(.long q)]) (rest := []) (lenOf pd0 rfl) rfl rfl (by show 2 * 0 + _ ≤ _; exact Nat.le_of_eq rfl) (hb hby d4_2)
  obtain ⟨rfl, NQ51, K51, A51⟩ := hQ51
  have N51 := Fr.app N NQ51
  have Z51 := Nat.le_trans Z0 K51.1
  refine own_st (T' := T51) (F' := (mkF m 5 #[.val (.ref a), .val (.long q), .second] [])) (st51) ?_
  refine own_st (T' := T51) (F' := (mkF m 6 #[.val (.ref a), .val (.long q), .second] [(.ref a)])) (fun _ kq => XS.aloadN X51.here hx rfl (hb hby d4_5) rfl rfl kq) ?_
  refine own_st (T' := T51) (F' := (mkF m 7 #[.val (.ref a), .val (.long q), .second] [(.long q), (.ref a)])) (fun _ kq => XS.lloadN X51.here hx rfl (hb hby d4_6) rfl kq) ?_
  obtain ⟨v52, T52, L52, X52, hQ52, st52⟩ := own_callX X51 hx hZ 0 hown (hw _ (List.mem_of_getElem? (i := 33) rfl)) (hw _ (List.mem_of_getElem? (i := 34) rfl)) (hw _ (List.mem_of_getElem? (i := 35) rfl)) (hw _ (List.mem_of_getElem? (i := 16) rfl)) rfl (hw _ (List.mem_of_getElem? (i := 4) rfl)) (hw _ (List.mem_of_getElem? (i := 36) rfl)) (by decide) (rm6 l Z a0 hw [] a q r (own_ps xs en q 3 fi sh).2 xs (own_ps xs en q 3 fi sh).1 en T51.heap n0 ⟨A51.1, A51.2.1, A51.2.2.1, A51.2.2.2.1, A51.2.2.2.2.1, A51.2.2.2.2.2.1, A51.2.2.2.2.2.2⟩ (own_ps_nn he 3 fi sh hf) he) (by decide) (by decide) rfl A51.1 (by decide) (by decide) (g := (mkF m 7 #[.val (.ref a), .val (.long q), .second] [(.long q), (.ref a)])) rfl (by rw [hml]; rfl) (argsL := [(.long q)]) (rest := []) (lenOf pd1 rfl) rfl rfl (by show 2 * 0 + _ ≤ _; exact Nat.le_of_eq rfl) (hb hby d4_7)
  obtain ⟨rfl, NQ52, e52⟩ := hQ52
  have N52 := Fr.app N51 NQ52
  refine own_st (T' := T52) (F' := (mkF m 10 #[.val (.ref a), .val (.long q), .second] [(.int (f6 q xs (own_ps xs en q 3 fi sh).1 en))])) (st52) ?_
  by_cases hc10_53 : (f6 q xs (own_ps xs en q 3 fi sh).1 en) = (0 : Int32)
  ·
    refine own_st (T' := T52) (F' := (mkF m 27 #[.val (.ref a), .val (.long q), .second] [])) (fun _ kq => XS.ifYes X52.here hx rfl (pc0 := 10) (pc' := 27) rfl (hb hby d4_10) rfl ((if0 _ _).trans (teq hc10_53).1) (by decide) (by decide) kq) ?_
    refine own_st (T' := T52) (F' := (mkF m 28 #[.val (.ref a), .val (.long q), .second] [(.long q)])) (fun _ kq => XS.lloadN X52.here hx rfl (hb hby d4_27) rfl kq) ?_
    refine own_st (T' := T52) (F' := (mkF m 29 #[.val (.ref a), .val (.long q), .second] [(.ref a), (.long q)])) (fun _ kq => XS.aloadN X52.here hx rfl (hb hby d4_28) rfl rfl kq) ?_
    obtain ⟨T54, X54, e54, st54⟩ := getF X52 hx hZ hown (host := "") (Or.inl (hw _ (List.mem_of_getElem? (i := 31) rfl))) Via.refl e52 A51.2.2.2.2.1 (g := (mkF m 29 #[.val (.ref a), .val (.long q), .second] [(.ref a), (.long q)])) rfl rfl (hb hby d4_29)
    refine own_st (T' := T54) (F' := (mkF m 32 #[.val (.ref a), .val (.long q), .second] [(.long (own_ps xs en q 3 fi sh).2), (.long q)])) (st54) ?_
    refine own_st (T' := T54) (F' := (mkF m 33 #[.val (.ref a), .val (.long q), .second] [(.long (q + (own_ps xs en q 3 fi sh).2))])) (fun _ kq => XS.ladd X54.here hx rfl (hb hby d4_32) rfl kq) ?_
    exact own_retL X54 hx hlk hret (hb hby d4_33) (by decide) (by decide) (by rw [e54]; exact ⟨by rw [own_ss, if_pos hc10_53], N52, K51, ⟨A51.1, A51.2.1, A51.2.2.1, A51.2.2.2.1, A51.2.2.2.2.1, A51.2.2.2.2.2.1, A51.2.2.2.2.2.2⟩⟩)
  ·
    refine own_st (T' := T52) (F' := (mkF m 13 #[.val (.ref a), .val (.long q), .second] [])) (fun _ kq => XS.ifNo X52.here hx rfl (hb hby d4_10) rfl ((if0 _ _).trans (feq hc10_53).1) kq) ?_
    refine own_st (T' := T52) (F' := (mkF m 14 #[.val (.ref a), .val (.long q), .second] [(.ref a)])) (fun _ kq => XS.aloadN X52.here hx rfl (hb hby d4_13) rfl rfl kq) ?_
    obtain ⟨T55, X55, e55, st55⟩ := getF X52 hx hZ hown (host := "") (Or.inl (hw _ (List.mem_of_getElem? (i := 11) rfl))) Via.refl e52 A51.2.1 (g := (mkF m 14 #[.val (.ref a), .val (.long q), .second] [(.ref a)])) rfl rfl (hb hby d4_14)
    refine own_st (T' := T55) (F' := (mkF m 17 #[.val (.ref a), .val (.long q), .second] [(.ref r)])) (st55) ?_
    refine own_st (T' := T55) (F' := (mkF m 18 #[.val (.ref a), .val (.long q), .second] [(.ref a), (.ref r)])) (fun _ kq => XS.aloadN X55.here hx rfl (hb hby d4_17) rfl rfl kq) ?_
    obtain ⟨T56, X56, e56, st56⟩ := getF X55 hx hZ hown (host := "") (Or.inl (hw _ (List.mem_of_getElem? (i := 18) rfl))) Via.refl e55 A51.2.2.1 (g := (mkF m 18 #[.val (.ref a), .val (.long q), .second] [(.ref a), (.ref r)])) rfl rfl (hb hby d4_18)
    refine own_st (T' := T56) (F' := (mkF m 21 #[.val (.ref a), .val (.long q), .second] [(.int (own_ps xs en q 3 fi sh).1), (.ref r)])) (st56) ?_
    refine own_st (T' := T56) (F' := (mkF m 22 #[.val (.ref a), .val (.long q), .second] [(.int (2 : Int32)), (.int (own_ps xs en q 3 fi sh).1), (.ref r)])) (fun _ kq => XS.iconst X56.here hx rfl (hb hby d4_21) kq) ?_
    refine own_st (T' := T56) (F' := (mkF m 23 #[.val (.ref a), .val (.long q), .second] [(.int ((own_ps xs en q 3 fi sh).1 + (2 : Int32))), (.ref r)])) (fun _ kq => XS.iadd X56.here hx rfl (hb hby d4_22) rfl kq) ?_
    refine own_st (T' := T56) (F' := (mkF m 24 #[.val (.ref a), .val (.long q), .second] [(.long (xs.getD ((own_ps xs en q 3 fi sh).1 + 2).toNatClampNeg 0))])) (own_laload X56 hx hZ e56 A51.2.2.2.2.2.1 (g := (mkF m 23 #[.val (.ref a), .val (.long q), .second] [(.int ((own_ps xs en q 3 fi sh).1 + (2 : Int32))), (.ref r)])) rfl rfl (hb hby d4_23) (own_ix (own_ps_nn he 3 fi sh hf) he (own_ss_lt hc10_53) 2 (by decide)).2.1 (by rw [hl]; exact (own_ix (own_ps_nn he 3 fi sh hf) he (own_ss_lt hc10_53) 2 (by decide)).2.2 (by decide)) (w := (xs.getD ((own_ps xs en q 3 fi sh).1 + 2).toNatClampNeg 0)) rfl) ?_
    refine own_st (T' := T56) (F' := (mkF m 33 #[.val (.ref a), .val (.long q), .second] [(.long (xs.getD ((own_ps xs en q 3 fi sh).1 + 2).toNatClampNeg 0))])) (fun _ kq => XS.goto X56.here hx rfl (pc0 := 24) (pc' := 33) rfl (hb hby d4_24) (by decide) (by decide) kq) ?_
    exact own_retL X56 hx hlk hret (hb hby d4_33) (by decide) (by decide) (by rw [e56]; exact ⟨by rw [own_ss, if_neg hc10_53], N52, K51, ⟨A51.1, A51.2.1, A51.2.2.1, A51.2.2.2.1, A51.2.2.2.2.1, A51.2.2.2.2.2.1, A51.2.2.2.2.2.2⟩⟩)
def own_se (xs : List Int64) (en : Int32) (q : Int64) (f : Int32) (u : Int64) : Int64 := if (f6 q xs f en) = (0 : Int32) then (q + u + 1) else xs.getD (f + 3).toNatClampNeg 0
theorem own_se_lt {q : Int64} {xs : List Int64} {f en : Int32} (h : ¬ f6 q xs f en = 0) : f < en := by
  by_cases z : f < en
  · exact z
  · exact absurd (by unfold f6; rw [if_neg z]) h
theorem ef8 (m : MethodId) (x0 : Addr) (x1 : Int64) : entryFrame m #[(.ref x0), (.long x1)] 3 = mkF m 0 #[.val (.ref x0), .val (.long x1), .second] [] := by first | (simp [entryFrame, mkF, argsToLocals, Value.category]; done) | rfl
theorem d8_0 : decode prog_5_method_4_code 0 = .ok (.aload_n 0, 1) := by decide +kernel
theorem d8_1 : decode prog_5_method_4_code 1 = .ok (.lload_n 1, 1) := by decide +kernel
theorem d8_2 : decode prog_5_method_4_code 2 = .ok (.invokevirtual 32, 3) := by decide +kernel
theorem d8_5 : decode prog_5_method_4_code 5 = .ok (.aload_n 0, 1) := by decide +kernel
theorem d8_6 : decode prog_5_method_4_code 6 = .ok (.lload_n 1, 1) := by decide +kernel
theorem d8_7 : decode prog_5_method_4_code 7 = .ok (.invokevirtual 36, 3) := by decide +kernel
theorem d8_10 : decode prog_5_method_4_code 10 = .ok (.ifCond .eq 17, 3) := by decide +kernel
theorem d8_27 : decode prog_5_method_4_code 27 = .ok (.lload_n 1, 1) := by decide +kernel
theorem d8_28 : decode prog_5_method_4_code 28 = .ok (.aload_n 0, 1) := by decide +kernel
theorem d8_29 : decode prog_5_method_4_code 29 = .ok (.getfield 40, 3) := by decide +kernel
theorem d8_32 : decode prog_5_method_4_code 32 = .ok (.ladd, 1) := by decide +kernel
theorem d8_33 : decode prog_5_method_4_code 33 = .ok (.lconst 1, 1) := by decide +kernel
theorem d8_34 : decode prog_5_method_4_code 34 = .ok (.ladd, 1) := by decide +kernel
theorem d8_35 : decode prog_5_method_4_code 35 = .ok (.lreturn, 1) := by decide +kernel
theorem d8_13 : decode prog_5_method_4_code 13 = .ok (.aload_n 0, 1) := by decide +kernel
theorem d8_14 : decode prog_5_method_4_code 14 = .ok (.getfield 9, 3) := by decide +kernel
theorem d8_17 : decode prog_5_method_4_code 17 = .ok (.aload_n 0, 1) := by decide +kernel
theorem d8_18 : decode prog_5_method_4_code 18 = .ok (.getfield 13, 3) := by decide +kernel
theorem d8_21 : decode prog_5_method_4_code 21 = .ok (.iconst 3, 1) := by decide +kernel
theorem d8_22 : decode prog_5_method_4_code 22 = .ok (.iadd, 1) := by decide +kernel
theorem d8_23 : decode prog_5_method_4_code 23 = .ok (.laload, 1) := by decide +kernel
theorem d8_24 : decode prog_5_method_4_code 24 = .ok (.goto 11, 3) := by decide +kernel
set_option maxRecDepth 65536 in
set_option maxHeartbeats 40000000 in
theorem rm8 (l : Launch) (Z : State) (a0 : Array Value) (hw : ∀ d ∈ tables_1, d.before a0 Z = true) (ws : List Jvm.Cond) (a : Addr) (q : Int64) (r : Addr) (xs : List Int64) (fi en : Int32) (sh : Int64) (h0 : Heap) (n0 : Nat) (Z0 : n0 ≤ h0.size) (ga : n0 ≤ a) (A : own_Al Z h0 a r xs fi en sh) (hf : ¬ fi < 0) (he : en.toInt ≤ 60) (hk : en.toInt - fi.toInt ≤ 4 * ((3 : Nat) : Int)) :
    own_Met l Z (⟨"com/example/cotejo/cotejo/engine/Alignment", "sourceEnd", "(J)J"⟩ : MethodName) prog_5_method_4_code 3 (some .long) ws ({ frames := 1, cells := 0, slots := 0, locals := 14 } : Room) #[(.ref a), (.long q)] h0 (fun v h L => v = some (.long (own_se xs en q (own_ps xs en q 3 fi sh).1 (own_ps xs en q 3 fi sh).2)) ∧ Fr n0 L ∧ Keep h0 h [a] ∧ own_Al Z h a r xs (own_ps xs en q 3 fi sh).1 en (own_ps xs en q 3 fi sh).2) := by
  refine own_body (plainFor_of_name pn0) ?_
  intro p e s m below meth c T X hx hby hml hret hlk hZ hown hnm eT
  have N := Fr.nil n0
  refine own_entry (ef8 m a q) ?_
  have hl := A.2.2.2.2.2.1.len
  refine own_st (T' := T) (F' := (mkF m 1 #[.val (.ref a), .val (.long q), .second] [(.ref a)])) (fun _ kq => XS.aloadN X.here hx rfl (hb hby d8_0) rfl rfl kq) ?_
  refine own_st (T' := T) (F' := (mkF m 2 #[.val (.ref a), .val (.long q), .second] [(.long q), (.ref a)])) (fun _ kq => XS.lloadN X.here hx rfl (hb hby d8_1) rfl kq) ?_
  obtain ⟨v57, T57, L57, X57, hQ57, st57⟩ := own_callX X hx hZ 0 hown (hw _ (List.mem_of_getElem? (i := 27) rfl)) (hw _ (List.mem_of_getElem? (i := 28) rfl)) (hw _ (List.mem_of_getElem? (i := 29) rfl)) (hw _ (List.mem_of_getElem? (i := 16) rfl)) rfl (hw _ (List.mem_of_getElem? (i := 4) rfl)) (hw _ (List.mem_of_getElem? (i := 30) rfl)) (by decide) (rm5 l Z a0 hw [] a q r xs fi en sh h0 n0 Z0 ga ⟨A.1, A.2.1, A.2.2.1, A.2.2.2.1, A.2.2.2.2.1, A.2.2.2.2.2.1, A.2.2.2.2.2.2⟩ hf he hk) (by decide) (by decide) eT A.1 (by decide) (by decide) (g := (mkF m 2 #[.val (.ref a), .val (.long q), .second] [(.long q), (.ref a)])) rfl (by rw [hml]; rfl) (argsL := [(.long q)]) (rest := []) (lenOf pd0 rfl) rfl rfl (by show 2 * 0 + _ ≤ _; exact Nat.le_of_eq rfl) (hb hby d8_2)
  obtain ⟨rfl, NQ57, K57, A57⟩ := hQ57
  have N57 := Fr.app N NQ57
  have Z57 := Nat.le_trans Z0 K57.1
  refine own_st (T' := T57) (F' := (mkF m 5 #[.val (.ref a), .val (.long q), .second] [])) (st57) ?_
  refine own_st (T' := T57) (F' := (mkF m 6 #[.val (.ref a), .val (.long q), .second] [(.ref a)])) (fun _ kq => XS.aloadN X57.here hx rfl (hb hby d8_5) rfl rfl kq) ?_
  refine own_st (T' := T57) (F' := (mkF m 7 #[.val (.ref a), .val (.long q), .second] [(.long q), (.ref a)])) (fun _ kq => XS.lloadN X57.here hx rfl (hb hby d8_6) rfl kq) ?_
  obtain ⟨v58, T58, L58, X58, hQ58, st58⟩ := own_callX X57 hx hZ 0 hown (hw _ (List.mem_of_getElem? (i := 33) rfl)) (hw _ (List.mem_of_getElem? (i := 34) rfl)) (hw _ (List.mem_of_getElem? (i := 35) rfl)) (hw _ (List.mem_of_getElem? (i := 16) rfl)) rfl (hw _ (List.mem_of_getElem? (i := 4) rfl)) (hw _ (List.mem_of_getElem? (i := 36) rfl)) (by decide) (rm6 l Z a0 hw [] a q r (own_ps xs en q 3 fi sh).2 xs (own_ps xs en q 3 fi sh).1 en T57.heap n0 ⟨A57.1, A57.2.1, A57.2.2.1, A57.2.2.2.1, A57.2.2.2.2.1, A57.2.2.2.2.2.1, A57.2.2.2.2.2.2⟩ (own_ps_nn he 3 fi sh hf) he) (by decide) (by decide) rfl A57.1 (by decide) (by decide) (g := (mkF m 7 #[.val (.ref a), .val (.long q), .second] [(.long q), (.ref a)])) rfl (by rw [hml]; rfl) (argsL := [(.long q)]) (rest := []) (lenOf pd1 rfl) rfl rfl (by show 2 * 0 + _ ≤ _; exact Nat.le_of_eq rfl) (hb hby d8_7)
  obtain ⟨rfl, NQ58, e58⟩ := hQ58
  have N58 := Fr.app N57 NQ58
  refine own_st (T' := T58) (F' := (mkF m 10 #[.val (.ref a), .val (.long q), .second] [(.int (f6 q xs (own_ps xs en q 3 fi sh).1 en))])) (st58) ?_
  by_cases hc10_59 : (f6 q xs (own_ps xs en q 3 fi sh).1 en) = (0 : Int32)
  ·
    refine own_st (T' := T58) (F' := (mkF m 27 #[.val (.ref a), .val (.long q), .second] [])) (fun _ kq => XS.ifYes X58.here hx rfl (pc0 := 10) (pc' := 27) rfl (hb hby d8_10) rfl ((if0 _ _).trans (teq hc10_59).1) (by decide) (by decide) kq) ?_
    refine own_st (T' := T58) (F' := (mkF m 28 #[.val (.ref a), .val (.long q), .second] [(.long q)])) (fun _ kq => XS.lloadN X58.here hx rfl (hb hby d8_27) rfl kq) ?_
    refine own_st (T' := T58) (F' := (mkF m 29 #[.val (.ref a), .val (.long q), .second] [(.ref a), (.long q)])) (fun _ kq => XS.aloadN X58.here hx rfl (hb hby d8_28) rfl rfl kq) ?_
    obtain ⟨T60, X60, e60, st60⟩ := getF X58 hx hZ hown (host := "") (Or.inl (hw _ (List.mem_of_getElem? (i := 31) rfl))) Via.refl e58 A57.2.2.2.2.1 (g := (mkF m 29 #[.val (.ref a), .val (.long q), .second] [(.ref a), (.long q)])) rfl rfl (hb hby d8_29)
    refine own_st (T' := T60) (F' := (mkF m 32 #[.val (.ref a), .val (.long q), .second] [(.long (own_ps xs en q 3 fi sh).2), (.long q)])) (st60) ?_
    refine own_st (T' := T60) (F' := (mkF m 33 #[.val (.ref a), .val (.long q), .second] [(.long (q + (own_ps xs en q 3 fi sh).2))])) (fun _ kq => XS.ladd X60.here hx rfl (hb hby d8_32) rfl kq) ?_
    refine own_st (T' := T60) (F' := (mkF m 34 #[.val (.ref a), .val (.long q), .second] [(.long (1 : Int64)), (.long (q + (own_ps xs en q 3 fi sh).2))])) (fun _ kq => XS.lconst X60.here hx rfl (hb hby d8_33) kq) ?_
    refine own_st (T' := T60) (F' := (mkF m 35 #[.val (.ref a), .val (.long q), .second] [(.long ((q + (own_ps xs en q 3 fi sh).2) + (1 : Int64)))])) (fun _ kq => XS.ladd X60.here hx rfl (hb hby d8_34) rfl kq) ?_
    exact own_retL X60 hx hlk hret (hb hby d8_35) (by decide) (by decide) (by rw [e60]; exact ⟨by rw [own_se, if_pos hc10_59], N58, K57, ⟨A57.1, A57.2.1, A57.2.2.1, A57.2.2.2.1, A57.2.2.2.2.1, A57.2.2.2.2.2.1, A57.2.2.2.2.2.2⟩⟩)
  ·
    refine own_st (T' := T58) (F' := (mkF m 13 #[.val (.ref a), .val (.long q), .second] [])) (fun _ kq => XS.ifNo X58.here hx rfl (hb hby d8_10) rfl ((if0 _ _).trans (feq hc10_59).1) kq) ?_
    refine own_st (T' := T58) (F' := (mkF m 14 #[.val (.ref a), .val (.long q), .second] [(.ref a)])) (fun _ kq => XS.aloadN X58.here hx rfl (hb hby d8_13) rfl rfl kq) ?_
    obtain ⟨T61, X61, e61, st61⟩ := getF X58 hx hZ hown (host := "") (Or.inl (hw _ (List.mem_of_getElem? (i := 11) rfl))) Via.refl e58 A57.2.1 (g := (mkF m 14 #[.val (.ref a), .val (.long q), .second] [(.ref a)])) rfl rfl (hb hby d8_14)
    refine own_st (T' := T61) (F' := (mkF m 17 #[.val (.ref a), .val (.long q), .second] [(.ref r)])) (st61) ?_
    refine own_st (T' := T61) (F' := (mkF m 18 #[.val (.ref a), .val (.long q), .second] [(.ref a), (.ref r)])) (fun _ kq => XS.aloadN X61.here hx rfl (hb hby d8_17) rfl rfl kq) ?_
    obtain ⟨T62, X62, e62, st62⟩ := getF X61 hx hZ hown (host := "") (Or.inl (hw _ (List.mem_of_getElem? (i := 18) rfl))) Via.refl e61 A57.2.2.1 (g := (mkF m 18 #[.val (.ref a), .val (.long q), .second] [(.ref a), (.ref r)])) rfl rfl (hb hby d8_18)
    refine own_st (T' := T62) (F' := (mkF m 21 #[.val (.ref a), .val (.long q), .second] [(.int (own_ps xs en q 3 fi sh).1), (.ref r)])) (st62) ?_
    refine own_st (T' := T62) (F' := (mkF m 22 #[.val (.ref a), .val (.long q), .second] [(.int (3 : Int32)), (.int (own_ps xs en q 3 fi sh).1), (.ref r)])) (fun _ kq => XS.iconst X62.here hx rfl (hb hby d8_21) kq) ?_
    refine own_st (T' := T62) (F' := (mkF m 23 #[.val (.ref a), .val (.long q), .second] [(.int ((own_ps xs en q 3 fi sh).1 + (3 : Int32))), (.ref r)])) (fun _ kq => XS.iadd X62.here hx rfl (hb hby d8_22) rfl kq) ?_
    refine own_st (T' := T62) (F' := (mkF m 24 #[.val (.ref a), .val (.long q), .second] [(.long (xs.getD ((own_ps xs en q 3 fi sh).1 + 3).toNatClampNeg 0))])) (own_laload X62 hx hZ e62 A57.2.2.2.2.2.1 (g := (mkF m 23 #[.val (.ref a), .val (.long q), .second] [(.int ((own_ps xs en q 3 fi sh).1 + (3 : Int32))), (.ref r)])) rfl rfl (hb hby d8_23) (own_ix (own_ps_nn he 3 fi sh hf) he (own_se_lt hc10_59) 3 (by decide)).2.1 (by rw [hl]; exact (own_ix (own_ps_nn he 3 fi sh hf) he (own_se_lt hc10_59) 3 (by decide)).2.2 (by decide)) (w := (xs.getD ((own_ps xs en q 3 fi sh).1 + 3).toNatClampNeg 0)) rfl) ?_
    refine own_st (T' := T62) (F' := (mkF m 35 #[.val (.ref a), .val (.long q), .second] [(.long (xs.getD ((own_ps xs en q 3 fi sh).1 + 3).toNatClampNeg 0))])) (fun _ kq => XS.goto X62.here hx rfl (pc0 := 24) (pc' := 35) rfl (hb hby d8_24) (by decide) (by decide) kq) ?_
    exact own_retL X62 hx hlk hret (hb hby d8_35) (by decide) (by decide) (by rw [e62]; exact ⟨by rw [own_se, if_neg hc10_59], N58, K57, ⟨A57.1, A57.2.1, A57.2.2.1, A57.2.2.2.1, A57.2.2.2.2.1, A57.2.2.2.2.2.1, A57.2.2.2.2.2.2⟩⟩)
theorem d7_0 : decode method_3_code 0 = .ok (.iload_n 3, 1) := by decide +kernel
theorem d7_8 : decode method_3_code 8 = .ok (.lconst 0, 1) := by decide +kernel
theorem d7_9 : decode method_3_code 9 = .ok (.lstore 4, 2) := by decide +kernel
theorem d7_11 : decode method_3_code 11 = .ok (.lload_n 0, 1) := by decide +kernel
theorem d7_12 : decode method_3_code 12 = .ok (.aload_n 2, 1) := by decide +kernel
theorem d7_13 : decode method_3_code 13 = .ok (.iconst 0, 1) := by decide +kernel
theorem d7_14 : decode method_3_code 14 = .ok (.laload, 1) := by decide +kernel
theorem d7_15 : decode method_3_code 15 = .ok (.lcmp, 1) := by decide +kernel
theorem d7_19 : decode method_3_code 19 = .ok (.lload_n 0, 1) := by decide +kernel
theorem d7_20 : decode method_3_code 20 = .ok (.lload 4, 2) := by decide +kernel
theorem d7_22 : decode method_3_code 22 = .ok (.ladd, 1) := by decide +kernel
theorem d7_24 : decode method_3_code 24 = .ok (.lload_n 0, 1) := by decide +kernel
theorem d7_25 : decode method_3_code 25 = .ok (.aload_n 2, 1) := by decide +kernel
theorem d7_26 : decode method_3_code 26 = .ok (.iconst 1, 1) := by decide +kernel
theorem d7_27 : decode method_3_code 27 = .ok (.laload, 1) := by decide +kernel
theorem d7_28 : decode method_3_code 28 = .ok (.lcmp, 1) := by decide +kernel
theorem d7_32 : decode method_3_code 32 = .ok (.iload_n 3, 1) := by decide +kernel
theorem d7_42 : decode method_3_code 42 = .ok (.aload_n 2, 1) := by decide +kernel
theorem d7_43 : decode method_3_code 43 = .ok (.iconst 2, 1) := by decide +kernel
theorem d7_44 : decode method_3_code 44 = .ok (.laload, 1) := by decide +kernel
theorem d7_46 : decode method_3_code 46 = .ok (.lload_n 0, 1) := by decide +kernel
theorem d7_47 : decode method_3_code 47 = .ok (.aload_n 2, 1) := by decide +kernel
theorem d7_48 : decode method_3_code 48 = .ok (.iconst 4, 1) := by decide +kernel
theorem d7_49 : decode method_3_code 49 = .ok (.laload, 1) := by decide +kernel
theorem d7_50 : decode method_3_code 50 = .ok (.lcmp, 1) := by decide +kernel
theorem d7_54 : decode method_3_code 54 = .ok (.lload_n 0, 1) := by decide +kernel
theorem d7_55 : decode method_3_code 55 = .ok (.aload_n 2, 1) := by decide +kernel
theorem d7_56 : decode method_3_code 56 = .ok (.iconst 3, 1) := by decide +kernel
theorem d7_57 : decode method_3_code 57 = .ok (.laload, 1) := by decide +kernel
theorem d7_58 : decode method_3_code 58 = .ok (.aload_n 2, 1) := by decide +kernel
theorem d7_59 : decode method_3_code 59 = .ok (.iconst 1, 1) := by decide +kernel
theorem d7_60 : decode method_3_code 60 = .ok (.laload, 1) := by decide +kernel
theorem d7_61 : decode method_3_code 61 = .ok (.lsub, 1) := by decide +kernel
theorem d7_62 : decode method_3_code 62 = .ok (.ladd, 1) := by decide +kernel
theorem d7_63 : decode method_3_code 63 = .ok (.lload 4, 2) := by decide +kernel
theorem d7_65 : decode method_3_code 65 = .ok (.ladd, 1) := by decide +kernel
theorem d7_67 : decode method_3_code 67 = .ok (.lload_n 0, 1) := by decide +kernel
theorem d7_68 : decode method_3_code 68 = .ok (.aload_n 2, 1) := by decide +kernel
theorem d7_69 : decode method_3_code 69 = .ok (.iconst 5, 1) := by decide +kernel
theorem d7_70 : decode method_3_code 70 = .ok (.laload, 1) := by decide +kernel
theorem d7_71 : decode method_3_code 71 = .ok (.lcmp, 1) := by decide +kernel
theorem d7_75 : decode method_3_code 75 = .ok (.iload_n 3, 1) := by decide +kernel
theorem d7_86 : decode method_3_code 86 = .ok (.aload_n 2, 1) := by decide +kernel
theorem d7_87 : decode method_3_code 87 = .ok (.bipush 6, 2) := by decide +kernel
theorem d7_89 : decode method_3_code 89 = .ok (.laload, 1) := by decide +kernel
theorem d7_91 : decode method_3_code 91 = .ok (.lload_n 0, 1) := by decide +kernel
theorem d7_92 : decode method_3_code 92 = .ok (.aload_n 2, 1) := by decide +kernel
theorem d7_93 : decode method_3_code 93 = .ok (.bipush 8, 2) := by decide +kernel
theorem d7_95 : decode method_3_code 95 = .ok (.laload, 1) := by decide +kernel
theorem d7_96 : decode method_3_code 96 = .ok (.lcmp, 1) := by decide +kernel
theorem d7_100 : decode method_3_code 100 = .ok (.lload_n 0, 1) := by decide +kernel
theorem d7_101 : decode method_3_code 101 = .ok (.aload_n 2, 1) := by decide +kernel
theorem d7_102 : decode method_3_code 102 = .ok (.bipush 7, 2) := by decide +kernel
theorem d7_104 : decode method_3_code 104 = .ok (.laload, 1) := by decide +kernel
theorem d7_105 : decode method_3_code 105 = .ok (.aload_n 2, 1) := by decide +kernel
theorem d7_106 : decode method_3_code 106 = .ok (.iconst 5, 1) := by decide +kernel
theorem d7_107 : decode method_3_code 107 = .ok (.laload, 1) := by decide +kernel
theorem d7_108 : decode method_3_code 108 = .ok (.lsub, 1) := by decide +kernel
theorem d7_109 : decode method_3_code 109 = .ok (.ladd, 1) := by decide +kernel
theorem d7_110 : decode method_3_code 110 = .ok (.lload 4, 2) := by decide +kernel
theorem d7_112 : decode method_3_code 112 = .ok (.ladd, 1) := by decide +kernel
theorem d7_114 : decode method_3_code 114 = .ok (.lload_n 0, 1) := by decide +kernel
theorem d7_115 : decode method_3_code 115 = .ok (.aload_n 2, 1) := by decide +kernel
theorem d7_116 : decode method_3_code 116 = .ok (.bipush 9, 2) := by decide +kernel
theorem d7_118 : decode method_3_code 118 = .ok (.laload, 1) := by decide +kernel
theorem d7_119 : decode method_3_code 119 = .ok (.lcmp, 1) := by decide +kernel
theorem d7_123 : decode method_3_code 123 = .ok (.iload_n 3, 1) := by decide +kernel
theorem d7_134 : decode method_3_code 134 = .ok (.aload_n 2, 1) := by decide +kernel
theorem d7_135 : decode method_3_code 135 = .ok (.bipush 10, 2) := by decide +kernel
theorem d7_137 : decode method_3_code 137 = .ok (.laload, 1) := by decide +kernel
theorem d7_139 : decode method_3_code 139 = .ok (.lload_n 0, 1) := by decide +kernel
theorem d7_140 : decode method_3_code 140 = .ok (.aload_n 2, 1) := by decide +kernel
theorem d7_141 : decode method_3_code 141 = .ok (.bipush 11, 2) := by decide +kernel
theorem d7_143 : decode method_3_code 143 = .ok (.laload, 1) := by decide +kernel
theorem d7_144 : decode method_3_code 144 = .ok (.aload_n 2, 1) := by decide +kernel
theorem d7_145 : decode method_3_code 145 = .ok (.bipush 9, 2) := by decide +kernel
theorem d7_147 : decode method_3_code 147 = .ok (.laload, 1) := by decide +kernel
theorem d7_148 : decode method_3_code 148 = .ok (.lsub, 1) := by decide +kernel
theorem d7_149 : decode method_3_code 149 = .ok (.ladd, 1) := by decide +kernel
theorem d7_150 : decode method_3_code 150 = .ok (.lload 4, 2) := by decide +kernel
theorem d7_152 : decode method_3_code 152 = .ok (.ladd, 1) := by decide +kernel
theorem d7_16 : decode method_3_code 16 = .ok (.ifCond .ge 8, 3) := by decide +kernel
theorem d7_23 : decode method_3_code 23 = .ok (.lreturn, 1) := by decide +kernel
theorem d7_29 : decode method_3_code 29 = .ok (.ifCond .ge 17, 3) := by decide +kernel
theorem d7_33 : decode method_3_code 33 = .ok (.ifCond .eq 9, 3) := by decide +kernel
theorem d7_45 : decode method_3_code 45 = .ok (.lreturn, 1) := by decide +kernel
theorem d7_51 : decode method_3_code 51 = .ok (.ifCond .ge 16, 3) := by decide +kernel
theorem d7_66 : decode method_3_code 66 = .ok (.lreturn, 1) := by decide +kernel
theorem d7_72 : decode method_3_code 72 = .ok (.ifCond .ge 19, 3) := by decide +kernel
theorem d7_76 : decode method_3_code 76 = .ok (.ifCond .eq 10, 3) := by decide +kernel
theorem d7_90 : decode method_3_code 90 = .ok (.lreturn, 1) := by decide +kernel
theorem d7_97 : decode method_3_code 97 = .ok (.ifCond .ge 17, 3) := by decide +kernel
theorem d7_113 : decode method_3_code 113 = .ok (.lreturn, 1) := by decide +kernel
theorem d7_120 : decode method_3_code 120 = .ok (.ifCond .ge 19, 3) := by decide +kernel
theorem d7_124 : decode method_3_code 124 = .ok (.ifCond .eq 10, 3) := by decide +kernel
theorem d7_138 : decode method_3_code 138 = .ok (.lreturn, 1) := by decide +kernel
theorem d7_153 : decode method_3_code 153 = .ok (.lreturn, 1) := by decide +kernel
theorem ef7 (m : MethodId) (x0 : Int64) (x1 : Addr) (x2 : Int32) : entryFrame m #[(.long x0), (.ref x1), (.int x2)] 6 = mkF m 0 #[.val (.long x0), .second, .val (.ref x1), .val (.int x2), .unset, .unset] [] := by first | (simp [entryFrame, mkF, argsToLocals, Value.category]; done) | rfl
theorem d7_1 : decode method_3_code 1 = .ok (.ifCond .eq 7, 3) := by decide +kernel
theorem pn1 : plainName "com/example/cotejo/cotejo/engine/AlignmentAddPinLaw" = true := by first | (simp [plainName, overriddenIn]; done) | decide +kernel
def rf0_9 (q : Int64) (x0 : Int64) (x1 : Int64) (x2 : Int64) (x3 : Int64) (x4 : Int64) (x5 : Int64) (x6 : Int64) (x7 : Int64) (x8 : Int64) (x9 : Int64) (x10 : Int64) (x11 : Int64) : Int64 := if q < x0 then ((q + (0 : Int64))) else (if q < x1 then (x2) else (if q < x4 then (((q + (x3 - x1)) + (0 : Int64))) else (if q < x5 then (x6) else (if q < x8 then (((q + (x7 - x5)) + (0 : Int64))) else (if q < x9 then (x10) else (((q + (x11 - x9)) + (0 : Int64))))))))
def rf0 (q : Int64) (x0 : Int64) (x1 : Int64) (x2 : Int64) (x3 : Int64) (x4 : Int64) (x5 : Int64) (x6 : Int64) (x7 : Int64) (x8 : Int64) (x9 : Int64) (x10 : Int64) (x11 : Int64) : Int64 := rf0_9 q x0 x1 x2 x3 x4 x5 x6 x7 x8 x9 x10 x11
set_option maxRecDepth 65536 in
set_option maxHeartbeats 40000000 in
theorem rm7_0 (l : Launch) (Z : State) (a0 : Array Value) (hw : ∀ d ∈ tables_1, d.before a0 Z = true) (ws : List Jvm.Cond) (q : Int64) (a : Addr) (x0 : Int64) (x1 : Int64) (x2 : Int64) (x3 : Int64) (x4 : Int64) (x5 : Int64) (x6 : Int64) (x7 : Int64) (x8 : Int64) (x9 : Int64) (x10 : Int64) (x11 : Int64) (h0 : Heap) (n0 : Nat) (V : own_AJ Z h0 a (12 : Int32) [x0, x1, x2, x3, x4, x5, x6, x7, x8, x9, x10, x11]) :
    own_Met l Z (⟨"com/example/cotejo/cotejo/engine/AlignmentAddPinLaw", "ref", "(J[JZ)J"⟩ : MethodName) method_3_code 6 (some .long) ws ({ frames := 0, cells := 0, slots := 0, locals := 0 } : Room) #[(.long q), (.ref a), (.int (0 : Int32))] h0 (own_PQ (.long (rf0 q x0 x1 x2 x3 x4 x5 x6 x7 x8 x9 x10 x11)) h0 n0) := by
  refine own_body (plainFor_of_name pn1) ?_
  intro p e s m below meth c T X hx hby hml hret hlk hZ hown hnm eT
  have J9 : ∀ (T : State) (locs : List Loc) (X : Stand p l e ({ frames := 0, cells := 0, slots := 0, locals := 0 } : Room) s m #[(.long q), (.ref a), (.int (0 : Int32))] below meth c T locs 0 0) (eT : T.heap = h0) (N : Fr n0 locs), own_Ends p e below s 0 0 (own_PQ (.long (rf0_9 q x0 x1 x2 x3 x4 x5 x6 x7 x8 x9 x10 x11)) h0 n0) T (mkF m 9 #[.val (.long q), .second, .val (.ref a), .val (.int (0 : Int32)), .unset, .unset] [(.long (0 : Int64))]) := by
    intro T locs X eT N
    unfold rf0_9
    refine own_st (T' := T) (F' := (mkF m 11 #[.val (.long q), .second, .val (.ref a), .val (.int (0 : Int32)), .val (.long (0 : Int64)), .second] [])) (fun _ kq => XS.lstore X.here hx rfl (hb hby d7_9) rfl (l' := #[.val (.long q), .second, .val (.ref a), .val (.int (0 : Int32)), .val (.long (0 : Int64)), .second]) rfl kq) ?_
    refine own_st (T' := T) (F' := (mkF m 12 #[.val (.long q), .second, .val (.ref a), .val (.int (0 : Int32)), .val (.long (0 : Int64)), .second] [(.long q)])) (fun _ kq => XS.lloadN X.here hx rfl (hb hby d7_11) rfl kq) ?_
    refine own_st (T' := T) (F' := (mkF m 13 #[.val (.long q), .second, .val (.ref a), .val (.int (0 : Int32)), .val (.long (0 : Int64)), .second] [(.ref a), (.long q)])) (fun _ kq => XS.aloadN X.here hx rfl (hb hby d7_12) rfl rfl kq) ?_
    refine own_st (T' := T) (F' := (mkF m 14 #[.val (.long q), .second, .val (.ref a), .val (.int (0 : Int32)), .val (.long (0 : Int64)), .second] [(.int (0 : Int32)), (.ref a), (.long q)])) (fun _ kq => XS.iconst X.here hx rfl (hb hby d7_13) kq) ?_
    refine own_st (T' := T) (F' := (mkF m 15 #[.val (.long q), .second, .val (.ref a), .val (.int (0 : Int32)), .val (.long (0 : Int64)), .second] [(.long x0), (.long q)])) (own_laload X hx hZ eT V (g := (mkF m 14 #[.val (.long q), .second, .val (.ref a), .val (.int (0 : Int32)), .val (.long (0 : Int64)), .second] [(.int (0 : Int32)), (.ref a), (.long q)])) rfl rfl (hb hby d7_14) (by decide) (Nat.le_of_ble_eq_true rfl) (w := x0) rfl) ?_
    refine own_st (T' := T) (F' := (mkF m 16 #[.val (.long q), .second, .val (.ref a), .val (.int (0 : Int32)), .val (.long (0 : Int64)), .second] [(.int (lcmpW q x0))])) (fun _ kq => XS.lcmp X.here hx rfl (hb hby d7_15) rfl kq) ?_
    by_cases hc16_63 : q < x0
    ·
      rw [if_pos hc16_63]
      refine own_st (T' := T) (F' := (mkF m 19 #[.val (.long q), .second, .val (.ref a), .val (.int (0 : Int32)), .val (.long (0 : Int64)), .second] [])) (fun _ kq => XS.ifNo X.here hx rfl (hb hby d7_16) rfl ((if0 _ _).trans (tlt ((lw_lt q x0).mpr hc16_63)).2.1) kq) ?_
      refine own_st (T' := T) (F' := (mkF m 20 #[.val (.long q), .second, .val (.ref a), .val (.int (0 : Int32)), .val (.long (0 : Int64)), .second] [(.long q)])) (fun _ kq => XS.lloadN X.here hx rfl (hb hby d7_19) rfl kq) ?_
      refine own_st (T' := T) (F' := (mkF m 22 #[.val (.long q), .second, .val (.ref a), .val (.int (0 : Int32)), .val (.long (0 : Int64)), .second] [(.long (0 : Int64)), (.long q)])) (fun _ kq => XS.lload X.here hx rfl (hb hby d7_20) rfl kq) ?_
      refine own_st (T' := T) (F' := (mkF m 23 #[.val (.long q), .second, .val (.ref a), .val (.int (0 : Int32)), .val (.long (0 : Int64)), .second] [(.long (q + (0 : Int64)))])) (fun _ kq => XS.ladd X.here hx rfl (hb hby d7_22) rfl kq) ?_
      exact own_retL X hx hlk hret (hb hby d7_23) (by decide) (by decide) (own_PQi rfl N eT)
    ·
      rw [if_neg hc16_63]
      refine own_st (T' := T) (F' := (mkF m 24 #[.val (.long q), .second, .val (.ref a), .val (.int (0 : Int32)), .val (.long (0 : Int64)), .second] [])) (fun _ kq => XS.ifYes X.here hx rfl (pc0 := 16) (pc' := 24) rfl (hb hby d7_16) rfl ((if0 _ _).trans (flt (mt (lw_lt q x0).mp hc16_63)).2.1) (by decide) (by decide) kq) ?_
      refine own_st (T' := T) (F' := (mkF m 25 #[.val (.long q), .second, .val (.ref a), .val (.int (0 : Int32)), .val (.long (0 : Int64)), .second] [(.long q)])) (fun _ kq => XS.lloadN X.here hx rfl (hb hby d7_24) rfl kq) ?_
      refine own_st (T' := T) (F' := (mkF m 26 #[.val (.long q), .second, .val (.ref a), .val (.int (0 : Int32)), .val (.long (0 : Int64)), .second] [(.ref a), (.long q)])) (fun _ kq => XS.aloadN X.here hx rfl (hb hby d7_25) rfl rfl kq) ?_
      refine own_st (T' := T) (F' := (mkF m 27 #[.val (.long q), .second, .val (.ref a), .val (.int (0 : Int32)), .val (.long (0 : Int64)), .second] [(.int (1 : Int32)), (.ref a), (.long q)])) (fun _ kq => XS.iconst X.here hx rfl (hb hby d7_26) kq) ?_
      refine own_st (T' := T) (F' := (mkF m 28 #[.val (.long q), .second, .val (.ref a), .val (.int (0 : Int32)), .val (.long (0 : Int64)), .second] [(.long x1), (.long q)])) (own_laload X hx hZ eT V (g := (mkF m 27 #[.val (.long q), .second, .val (.ref a), .val (.int (0 : Int32)), .val (.long (0 : Int64)), .second] [(.int (1 : Int32)), (.ref a), (.long q)])) rfl rfl (hb hby d7_27) (by decide) (Nat.le_of_ble_eq_true rfl) (w := x1) rfl) ?_
      refine own_st (T' := T) (F' := (mkF m 29 #[.val (.long q), .second, .val (.ref a), .val (.int (0 : Int32)), .val (.long (0 : Int64)), .second] [(.int (lcmpW q x1))])) (fun _ kq => XS.lcmp X.here hx rfl (hb hby d7_28) rfl kq) ?_
      by_cases hc29_64 : q < x1
      ·
        rw [if_pos hc29_64]
        refine own_st (T' := T) (F' := (mkF m 32 #[.val (.long q), .second, .val (.ref a), .val (.int (0 : Int32)), .val (.long (0 : Int64)), .second] [])) (fun _ kq => XS.ifNo X.here hx rfl (hb hby d7_29) rfl ((if0 _ _).trans (tlt ((lw_lt q x1).mpr hc29_64)).2.1) kq) ?_
        refine own_st (T' := T) (F' := (mkF m 33 #[.val (.long q), .second, .val (.ref a), .val (.int (0 : Int32)), .val (.long (0 : Int64)), .second] [(.int (0 : Int32))])) (fun _ kq => XS.iloadN X.here hx rfl (hb hby d7_32) rfl kq) ?_
        refine own_st (T' := T) (F' := (mkF m 42 #[.val (.long q), .second, .val (.ref a), .val (.int (0 : Int32)), .val (.long (0 : Int64)), .second] [])) (fun _ kq => XS.ifYes X.here hx rfl (pc0 := 33) (pc' := 42) rfl (hb hby d7_33) rfl ((if0 _ _).trans (teq (rfl : (0 : Int32) = (0 : Int32))).1) (by decide) (by decide) kq) ?_
        refine own_st (T' := T) (F' := (mkF m 43 #[.val (.long q), .second, .val (.ref a), .val (.int (0 : Int32)), .val (.long (0 : Int64)), .second] [(.ref a)])) (fun _ kq => XS.aloadN X.here hx rfl (hb hby d7_42) rfl rfl kq) ?_
        refine own_st (T' := T) (F' := (mkF m 44 #[.val (.long q), .second, .val (.ref a), .val (.int (0 : Int32)), .val (.long (0 : Int64)), .second] [(.int (2 : Int32)), (.ref a)])) (fun _ kq => XS.iconst X.here hx rfl (hb hby d7_43) kq) ?_
        refine own_st (T' := T) (F' := (mkF m 45 #[.val (.long q), .second, .val (.ref a), .val (.int (0 : Int32)), .val (.long (0 : Int64)), .second] [(.long x2)])) (own_laload X hx hZ eT V (g := (mkF m 44 #[.val (.long q), .second, .val (.ref a), .val (.int (0 : Int32)), .val (.long (0 : Int64)), .second] [(.int (2 : Int32)), (.ref a)])) rfl rfl (hb hby d7_44) (by decide) (Nat.le_of_ble_eq_true rfl) (w := x2) rfl) ?_
        exact own_retL X hx hlk hret (hb hby d7_45) (by decide) (by decide) (own_PQi rfl N eT)
      ·
        rw [if_neg hc29_64]
        refine own_st (T' := T) (F' := (mkF m 46 #[.val (.long q), .second, .val (.ref a), .val (.int (0 : Int32)), .val (.long (0 : Int64)), .second] [])) (fun _ kq => XS.ifYes X.here hx rfl (pc0 := 29) (pc' := 46) rfl (hb hby d7_29) rfl ((if0 _ _).trans (flt (mt (lw_lt q x1).mp hc29_64)).2.1) (by decide) (by decide) kq) ?_
        refine own_st (T' := T) (F' := (mkF m 47 #[.val (.long q), .second, .val (.ref a), .val (.int (0 : Int32)), .val (.long (0 : Int64)), .second] [(.long q)])) (fun _ kq => XS.lloadN X.here hx rfl (hb hby d7_46) rfl kq) ?_
        refine own_st (T' := T) (F' := (mkF m 48 #[.val (.long q), .second, .val (.ref a), .val (.int (0 : Int32)), .val (.long (0 : Int64)), .second] [(.ref a), (.long q)])) (fun _ kq => XS.aloadN X.here hx rfl (hb hby d7_47) rfl rfl kq) ?_
        refine own_st (T' := T) (F' := (mkF m 49 #[.val (.long q), .second, .val (.ref a), .val (.int (0 : Int32)), .val (.long (0 : Int64)), .second] [(.int (4 : Int32)), (.ref a), (.long q)])) (fun _ kq => XS.iconst X.here hx rfl (hb hby d7_48) kq) ?_
        refine own_st (T' := T) (F' := (mkF m 50 #[.val (.long q), .second, .val (.ref a), .val (.int (0 : Int32)), .val (.long (0 : Int64)), .second] [(.long x4), (.long q)])) (own_laload X hx hZ eT V (g := (mkF m 49 #[.val (.long q), .second, .val (.ref a), .val (.int (0 : Int32)), .val (.long (0 : Int64)), .second] [(.int (4 : Int32)), (.ref a), (.long q)])) rfl rfl (hb hby d7_49) (by decide) (Nat.le_of_ble_eq_true rfl) (w := x4) rfl) ?_
        refine own_st (T' := T) (F' := (mkF m 51 #[.val (.long q), .second, .val (.ref a), .val (.int (0 : Int32)), .val (.long (0 : Int64)), .second] [(.int (lcmpW q x4))])) (fun _ kq => XS.lcmp X.here hx rfl (hb hby d7_50) rfl kq) ?_
        by_cases hc51_65 : q < x4
        ·
          rw [if_pos hc51_65]
          refine own_st (T' := T) (F' := (mkF m 54 #[.val (.long q), .second, .val (.ref a), .val (.int (0 : Int32)), .val (.long (0 : Int64)), .second] [])) (fun _ kq => XS.ifNo X.here hx rfl (hb hby d7_51) rfl ((if0 _ _).trans (tlt ((lw_lt q x4).mpr hc51_65)).2.1) kq) ?_
          refine own_st (T' := T) (F' := (mkF m 55 #[.val (.long q), .second, .val (.ref a), .val (.int (0 : Int32)), .val (.long (0 : Int64)), .second] [(.long q)])) (fun _ kq => XS.lloadN X.here hx rfl (hb hby d7_54) rfl kq) ?_
          refine own_st (T' := T) (F' := (mkF m 56 #[.val (.long q), .second, .val (.ref a), .val (.int (0 : Int32)), .val (.long (0 : Int64)), .second] [(.ref a), (.long q)])) (fun _ kq => XS.aloadN X.here hx rfl (hb hby d7_55) rfl rfl kq) ?_
          refine own_st (T' := T) (F' := (mkF m 57 #[.val (.long q), .second, .val (.ref a), .val (.int (0 : Int32)), .val (.long (0 : Int64)), .second] [(.int (3 : Int32)), (.ref a), (.long q)])) (fun _ kq => XS.iconst X.here hx rfl (hb hby d7_56) kq) ?_
          refine own_st (T' := T) (F' := (mkF m 58 #[.val (.long q), .second, .val (.ref a), .val (.int (0 : Int32)), .val (.long (0 : Int64)), .second] [(.long x3), (.long q)])) (own_laload X hx hZ eT V (g := (mkF m 57 #[.val (.long q), .second, .val (.ref a), .val (.int (0 : Int32)), .val (.long (0 : Int64)), .second] [(.int (3 : Int32)), (.ref a), (.long q)])) rfl rfl (hb hby d7_57) (by decide) (Nat.le_of_ble_eq_true rfl) (w := x3) rfl) ?_
          refine own_st (T' := T) (F' := (mkF m 59 #[.val (.long q), .second, .val (.ref a), .val (.int (0 : Int32)), .val (.long (0 : Int64)), .second] [(.ref a), (.long x3), (.long q)])) (fun _ kq => XS.aloadN X.here hx rfl (hb hby d7_58) rfl rfl kq) ?_
          refine own_st (T' := T) (F' := (mkF m 60 #[.val (.long q), .second, .val (.ref a), .val (.int (0 : Int32)), .val (.long (0 : Int64)), .second] [(.int (1 : Int32)), (.ref a), (.long x3), (.long q)])) (fun _ kq => XS.iconst X.here hx rfl (hb hby d7_59) kq) ?_
          refine own_st (T' := T) (F' := (mkF m 61 #[.val (.long q), .second, .val (.ref a), .val (.int (0 : Int32)), .val (.long (0 : Int64)), .second] [(.long x1), (.long x3), (.long q)])) (own_laload X hx hZ eT V (g := (mkF m 60 #[.val (.long q), .second, .val (.ref a), .val (.int (0 : Int32)), .val (.long (0 : Int64)), .second] [(.int (1 : Int32)), (.ref a), (.long x3), (.long q)])) rfl rfl (hb hby d7_60) (by decide) (Nat.le_of_ble_eq_true rfl) (w := x1) rfl) ?_
          refine own_st (T' := T) (F' := (mkF m 62 #[.val (.long q), .second, .val (.ref a), .val (.int (0 : Int32)), .val (.long (0 : Int64)), .second] [(.long (x3 - x1)), (.long q)])) (fun _ kq => XS.lsub X.here hx rfl (hb hby d7_61) rfl kq) ?_
          refine own_st (T' := T) (F' := (mkF m 63 #[.val (.long q), .second, .val (.ref a), .val (.int (0 : Int32)), .val (.long (0 : Int64)), .second] [(.long (q + (x3 - x1)))])) (fun _ kq => XS.ladd X.here hx rfl (hb hby d7_62) rfl kq) ?_
          refine own_st (T' := T) (F' := (mkF m 65 #[.val (.long q), .second, .val (.ref a), .val (.int (0 : Int32)), .val (.long (0 : Int64)), .second] [(.long (0 : Int64)), (.long (q + (x3 - x1)))])) (fun _ kq => XS.lload X.here hx rfl (hb hby d7_63) rfl kq) ?_
          refine own_st (T' := T) (F' := (mkF m 66 #[.val (.long q), .second, .val (.ref a), .val (.int (0 : Int32)), .val (.long (0 : Int64)), .second] [(.long ((q + (x3 - x1)) + (0 : Int64)))])) (fun _ kq => XS.ladd X.here hx rfl (hb hby d7_65) rfl kq) ?_
          exact own_retL X hx hlk hret (hb hby d7_66) (by decide) (by decide) (own_PQi rfl N eT)
        ·
          rw [if_neg hc51_65]
          refine own_st (T' := T) (F' := (mkF m 67 #[.val (.long q), .second, .val (.ref a), .val (.int (0 : Int32)), .val (.long (0 : Int64)), .second] [])) (fun _ kq => XS.ifYes X.here hx rfl (pc0 := 51) (pc' := 67) rfl (hb hby d7_51) rfl ((if0 _ _).trans (flt (mt (lw_lt q x4).mp hc51_65)).2.1) (by decide) (by decide) kq) ?_
          refine own_st (T' := T) (F' := (mkF m 68 #[.val (.long q), .second, .val (.ref a), .val (.int (0 : Int32)), .val (.long (0 : Int64)), .second] [(.long q)])) (fun _ kq => XS.lloadN X.here hx rfl (hb hby d7_67) rfl kq) ?_
          refine own_st (T' := T) (F' := (mkF m 69 #[.val (.long q), .second, .val (.ref a), .val (.int (0 : Int32)), .val (.long (0 : Int64)), .second] [(.ref a), (.long q)])) (fun _ kq => XS.aloadN X.here hx rfl (hb hby d7_68) rfl rfl kq) ?_
          refine own_st (T' := T) (F' := (mkF m 70 #[.val (.long q), .second, .val (.ref a), .val (.int (0 : Int32)), .val (.long (0 : Int64)), .second] [(.int (5 : Int32)), (.ref a), (.long q)])) (fun _ kq => XS.iconst X.here hx rfl (hb hby d7_69) kq) ?_
          refine own_st (T' := T) (F' := (mkF m 71 #[.val (.long q), .second, .val (.ref a), .val (.int (0 : Int32)), .val (.long (0 : Int64)), .second] [(.long x5), (.long q)])) (own_laload X hx hZ eT V (g := (mkF m 70 #[.val (.long q), .second, .val (.ref a), .val (.int (0 : Int32)), .val (.long (0 : Int64)), .second] [(.int (5 : Int32)), (.ref a), (.long q)])) rfl rfl (hb hby d7_70) (by decide) (Nat.le_of_ble_eq_true rfl) (w := x5) rfl) ?_
          refine own_st (T' := T) (F' := (mkF m 72 #[.val (.long q), .second, .val (.ref a), .val (.int (0 : Int32)), .val (.long (0 : Int64)), .second] [(.int (lcmpW q x5))])) (fun _ kq => XS.lcmp X.here hx rfl (hb hby d7_71) rfl kq) ?_
          by_cases hc72_66 : q < x5
          ·
            rw [if_pos hc72_66]
            refine own_st (T' := T) (F' := (mkF m 75 #[.val (.long q), .second, .val (.ref a), .val (.int (0 : Int32)), .val (.long (0 : Int64)), .second] [])) (fun _ kq => XS.ifNo X.here hx rfl (hb hby d7_72) rfl ((if0 _ _).trans (tlt ((lw_lt q x5).mpr hc72_66)).2.1) kq) ?_
            refine own_st (T' := T) (F' := (mkF m 76 #[.val (.long q), .second, .val (.ref a), .val (.int (0 : Int32)), .val (.long (0 : Int64)), .second] [(.int (0 : Int32))])) (fun _ kq => XS.iloadN X.here hx rfl (hb hby d7_75) rfl kq) ?_
            refine own_st (T' := T) (F' := (mkF m 86 #[.val (.long q), .second, .val (.ref a), .val (.int (0 : Int32)), .val (.long (0 : Int64)), .second] [])) (fun _ kq => XS.ifYes X.here hx rfl (pc0 := 76) (pc' := 86) rfl (hb hby d7_76) rfl ((if0 _ _).trans (teq (rfl : (0 : Int32) = (0 : Int32))).1) (by decide) (by decide) kq) ?_
            refine own_st (T' := T) (F' := (mkF m 87 #[.val (.long q), .second, .val (.ref a), .val (.int (0 : Int32)), .val (.long (0 : Int64)), .second] [(.ref a)])) (fun _ kq => XS.aloadN X.here hx rfl (hb hby d7_86) rfl rfl kq) ?_
            refine own_st (T' := T) (F' := (mkF m 89 #[.val (.long q), .second, .val (.ref a), .val (.int (0 : Int32)), .val (.long (0 : Int64)), .second] [(.int (6 : Int32)), (.ref a)])) (fun _ kq => XS.bipush X.here hx rfl (hb hby d7_87) kq) ?_
            refine own_st (T' := T) (F' := (mkF m 90 #[.val (.long q), .second, .val (.ref a), .val (.int (0 : Int32)), .val (.long (0 : Int64)), .second] [(.long x6)])) (own_laload X hx hZ eT V (g := (mkF m 89 #[.val (.long q), .second, .val (.ref a), .val (.int (0 : Int32)), .val (.long (0 : Int64)), .second] [(.int (6 : Int32)), (.ref a)])) rfl rfl (hb hby d7_89) (by decide) (Nat.le_of_ble_eq_true rfl) (w := x6) rfl) ?_
            exact own_retL X hx hlk hret (hb hby d7_90) (by decide) (by decide) (own_PQi rfl N eT)
          ·
            rw [if_neg hc72_66]
            refine own_st (T' := T) (F' := (mkF m 91 #[.val (.long q), .second, .val (.ref a), .val (.int (0 : Int32)), .val (.long (0 : Int64)), .second] [])) (fun _ kq => XS.ifYes X.here hx rfl (pc0 := 72) (pc' := 91) rfl (hb hby d7_72) rfl ((if0 _ _).trans (flt (mt (lw_lt q x5).mp hc72_66)).2.1) (by decide) (by decide) kq) ?_
            refine own_st (T' := T) (F' := (mkF m 92 #[.val (.long q), .second, .val (.ref a), .val (.int (0 : Int32)), .val (.long (0 : Int64)), .second] [(.long q)])) (fun _ kq => XS.lloadN X.here hx rfl (hb hby d7_91) rfl kq) ?_
            refine own_st (T' := T) (F' := (mkF m 93 #[.val (.long q), .second, .val (.ref a), .val (.int (0 : Int32)), .val (.long (0 : Int64)), .second] [(.ref a), (.long q)])) (fun _ kq => XS.aloadN X.here hx rfl (hb hby d7_92) rfl rfl kq) ?_
            refine own_st (T' := T) (F' := (mkF m 95 #[.val (.long q), .second, .val (.ref a), .val (.int (0 : Int32)), .val (.long (0 : Int64)), .second] [(.int (8 : Int32)), (.ref a), (.long q)])) (fun _ kq => XS.bipush X.here hx rfl (hb hby d7_93) kq) ?_
            refine own_st (T' := T) (F' := (mkF m 96 #[.val (.long q), .second, .val (.ref a), .val (.int (0 : Int32)), .val (.long (0 : Int64)), .second] [(.long x8), (.long q)])) (own_laload X hx hZ eT V (g := (mkF m 95 #[.val (.long q), .second, .val (.ref a), .val (.int (0 : Int32)), .val (.long (0 : Int64)), .second] [(.int (8 : Int32)), (.ref a), (.long q)])) rfl rfl (hb hby d7_95) (by decide) (Nat.le_of_ble_eq_true rfl) (w := x8) rfl) ?_
            refine own_st (T' := T) (F' := (mkF m 97 #[.val (.long q), .second, .val (.ref a), .val (.int (0 : Int32)), .val (.long (0 : Int64)), .second] [(.int (lcmpW q x8))])) (fun _ kq => XS.lcmp X.here hx rfl (hb hby d7_96) rfl kq) ?_
            by_cases hc97_67 : q < x8
            ·
              rw [if_pos hc97_67]
              refine own_st (T' := T) (F' := (mkF m 100 #[.val (.long q), .second, .val (.ref a), .val (.int (0 : Int32)), .val (.long (0 : Int64)), .second] [])) (fun _ kq => XS.ifNo X.here hx rfl (hb hby d7_97) rfl ((if0 _ _).trans (tlt ((lw_lt q x8).mpr hc97_67)).2.1) kq) ?_
              refine own_st (T' := T) (F' := (mkF m 101 #[.val (.long q), .second, .val (.ref a), .val (.int (0 : Int32)), .val (.long (0 : Int64)), .second] [(.long q)])) (fun _ kq => XS.lloadN X.here hx rfl (hb hby d7_100) rfl kq) ?_
              refine own_st (T' := T) (F' := (mkF m 102 #[.val (.long q), .second, .val (.ref a), .val (.int (0 : Int32)), .val (.long (0 : Int64)), .second] [(.ref a), (.long q)])) (fun _ kq => XS.aloadN X.here hx rfl (hb hby d7_101) rfl rfl kq) ?_
              refine own_st (T' := T) (F' := (mkF m 104 #[.val (.long q), .second, .val (.ref a), .val (.int (0 : Int32)), .val (.long (0 : Int64)), .second] [(.int (7 : Int32)), (.ref a), (.long q)])) (fun _ kq => XS.bipush X.here hx rfl (hb hby d7_102) kq) ?_
              refine own_st (T' := T) (F' := (mkF m 105 #[.val (.long q), .second, .val (.ref a), .val (.int (0 : Int32)), .val (.long (0 : Int64)), .second] [(.long x7), (.long q)])) (own_laload X hx hZ eT V (g := (mkF m 104 #[.val (.long q), .second, .val (.ref a), .val (.int (0 : Int32)), .val (.long (0 : Int64)), .second] [(.int (7 : Int32)), (.ref a), (.long q)])) rfl rfl (hb hby d7_104) (by decide) (Nat.le_of_ble_eq_true rfl) (w := x7) rfl) ?_
              refine own_st (T' := T) (F' := (mkF m 106 #[.val (.long q), .second, .val (.ref a), .val (.int (0 : Int32)), .val (.long (0 : Int64)), .second] [(.ref a), (.long x7), (.long q)])) (fun _ kq => XS.aloadN X.here hx rfl (hb hby d7_105) rfl rfl kq) ?_
              refine own_st (T' := T) (F' := (mkF m 107 #[.val (.long q), .second, .val (.ref a), .val (.int (0 : Int32)), .val (.long (0 : Int64)), .second] [(.int (5 : Int32)), (.ref a), (.long x7), (.long q)])) (fun _ kq => XS.iconst X.here hx rfl (hb hby d7_106) kq) ?_
              refine own_st (T' := T) (F' := (mkF m 108 #[.val (.long q), .second, .val (.ref a), .val (.int (0 : Int32)), .val (.long (0 : Int64)), .second] [(.long x5), (.long x7), (.long q)])) (own_laload X hx hZ eT V (g := (mkF m 107 #[.val (.long q), .second, .val (.ref a), .val (.int (0 : Int32)), .val (.long (0 : Int64)), .second] [(.int (5 : Int32)), (.ref a), (.long x7), (.long q)])) rfl rfl (hb hby d7_107) (by decide) (Nat.le_of_ble_eq_true rfl) (w := x5) rfl) ?_
              refine own_st (T' := T) (F' := (mkF m 109 #[.val (.long q), .second, .val (.ref a), .val (.int (0 : Int32)), .val (.long (0 : Int64)), .second] [(.long (x7 - x5)), (.long q)])) (fun _ kq => XS.lsub X.here hx rfl (hb hby d7_108) rfl kq) ?_
              refine own_st (T' := T) (F' := (mkF m 110 #[.val (.long q), .second, .val (.ref a), .val (.int (0 : Int32)), .val (.long (0 : Int64)), .second] [(.long (q + (x7 - x5)))])) (fun _ kq => XS.ladd X.here hx rfl (hb hby d7_109) rfl kq) ?_
              refine own_st (T' := T) (F' := (mkF m 112 #[.val (.long q), .second, .val (.ref a), .val (.int (0 : Int32)), .val (.long (0 : Int64)), .second] [(.long (0 : Int64)), (.long (q + (x7 - x5)))])) (fun _ kq => XS.lload X.here hx rfl (hb hby d7_110) rfl kq) ?_
              refine own_st (T' := T) (F' := (mkF m 113 #[.val (.long q), .second, .val (.ref a), .val (.int (0 : Int32)), .val (.long (0 : Int64)), .second] [(.long ((q + (x7 - x5)) + (0 : Int64)))])) (fun _ kq => XS.ladd X.here hx rfl (hb hby d7_112) rfl kq) ?_
              exact own_retL X hx hlk hret (hb hby d7_113) (by decide) (by decide) (own_PQi rfl N eT)
            ·
              rw [if_neg hc97_67]
              refine own_st (T' := T) (F' := (mkF m 114 #[.val (.long q), .second, .val (.ref a), .val (.int (0 : Int32)), .val (.long (0 : Int64)), .second] [])) (fun _ kq => XS.ifYes X.here hx rfl (pc0 := 97) (pc' := 114) rfl (hb hby d7_97) rfl ((if0 _ _).trans (flt (mt (lw_lt q x8).mp hc97_67)).2.1) (by decide) (by decide) kq) ?_
              refine own_st (T' := T) (F' := (mkF m 115 #[.val (.long q), .second, .val (.ref a), .val (.int (0 : Int32)), .val (.long (0 : Int64)), .second] [(.long q)])) (fun _ kq => XS.lloadN X.here hx rfl (hb hby d7_114) rfl kq) ?_
              refine own_st (T' := T) (F' := (mkF m 116 #[.val (.long q), .second, .val (.ref a), .val (.int (0 : Int32)), .val (.long (0 : Int64)), .second] [(.ref a), (.long q)])) (fun _ kq => XS.aloadN X.here hx rfl (hb hby d7_115) rfl rfl kq) ?_
              refine own_st (T' := T) (F' := (mkF m 118 #[.val (.long q), .second, .val (.ref a), .val (.int (0 : Int32)), .val (.long (0 : Int64)), .second] [(.int (9 : Int32)), (.ref a), (.long q)])) (fun _ kq => XS.bipush X.here hx rfl (hb hby d7_116) kq) ?_
              refine own_st (T' := T) (F' := (mkF m 119 #[.val (.long q), .second, .val (.ref a), .val (.int (0 : Int32)), .val (.long (0 : Int64)), .second] [(.long x9), (.long q)])) (own_laload X hx hZ eT V (g := (mkF m 118 #[.val (.long q), .second, .val (.ref a), .val (.int (0 : Int32)), .val (.long (0 : Int64)), .second] [(.int (9 : Int32)), (.ref a), (.long q)])) rfl rfl (hb hby d7_118) (by decide) (Nat.le_of_ble_eq_true rfl) (w := x9) rfl) ?_
              refine own_st (T' := T) (F' := (mkF m 120 #[.val (.long q), .second, .val (.ref a), .val (.int (0 : Int32)), .val (.long (0 : Int64)), .second] [(.int (lcmpW q x9))])) (fun _ kq => XS.lcmp X.here hx rfl (hb hby d7_119) rfl kq) ?_
              by_cases hc120_68 : q < x9
              ·
                rw [if_pos hc120_68]
                refine own_st (T' := T) (F' := (mkF m 123 #[.val (.long q), .second, .val (.ref a), .val (.int (0 : Int32)), .val (.long (0 : Int64)), .second] [])) (fun _ kq => XS.ifNo X.here hx rfl (hb hby d7_120) rfl ((if0 _ _).trans (tlt ((lw_lt q x9).mpr hc120_68)).2.1) kq) ?_
                refine own_st (T' := T) (F' := (mkF m 124 #[.val (.long q), .second, .val (.ref a), .val (.int (0 : Int32)), .val (.long (0 : Int64)), .second] [(.int (0 : Int32))])) (fun _ kq => XS.iloadN X.here hx rfl (hb hby d7_123) rfl kq) ?_
                refine own_st (T' := T) (F' := (mkF m 134 #[.val (.long q), .second, .val (.ref a), .val (.int (0 : Int32)), .val (.long (0 : Int64)), .second] [])) (fun _ kq => XS.ifYes X.here hx rfl (pc0 := 124) (pc' := 134) rfl (hb hby d7_124) rfl ((if0 _ _).trans (teq (rfl : (0 : Int32) = (0 : Int32))).1) (by decide) (by decide) kq) ?_
                refine own_st (T' := T) (F' := (mkF m 135 #[.val (.long q), .second, .val (.ref a), .val (.int (0 : Int32)), .val (.long (0 : Int64)), .second] [(.ref a)])) (fun _ kq => XS.aloadN X.here hx rfl (hb hby d7_134) rfl rfl kq) ?_
                refine own_st (T' := T) (F' := (mkF m 137 #[.val (.long q), .second, .val (.ref a), .val (.int (0 : Int32)), .val (.long (0 : Int64)), .second] [(.int (10 : Int32)), (.ref a)])) (fun _ kq => XS.bipush X.here hx rfl (hb hby d7_135) kq) ?_
                refine own_st (T' := T) (F' := (mkF m 138 #[.val (.long q), .second, .val (.ref a), .val (.int (0 : Int32)), .val (.long (0 : Int64)), .second] [(.long x10)])) (own_laload X hx hZ eT V (g := (mkF m 137 #[.val (.long q), .second, .val (.ref a), .val (.int (0 : Int32)), .val (.long (0 : Int64)), .second] [(.int (10 : Int32)), (.ref a)])) rfl rfl (hb hby d7_137) (by decide) (Nat.le_of_ble_eq_true rfl) (w := x10) rfl) ?_
                exact own_retL X hx hlk hret (hb hby d7_138) (by decide) (by decide) (own_PQi rfl N eT)
              ·
                rw [if_neg hc120_68]
                refine own_st (T' := T) (F' := (mkF m 139 #[.val (.long q), .second, .val (.ref a), .val (.int (0 : Int32)), .val (.long (0 : Int64)), .second] [])) (fun _ kq => XS.ifYes X.here hx rfl (pc0 := 120) (pc' := 139) rfl (hb hby d7_120) rfl ((if0 _ _).trans (flt (mt (lw_lt q x9).mp hc120_68)).2.1) (by decide) (by decide) kq) ?_
                refine own_st (T' := T) (F' := (mkF m 140 #[.val (.long q), .second, .val (.ref a), .val (.int (0 : Int32)), .val (.long (0 : Int64)), .second] [(.long q)])) (fun _ kq => XS.lloadN X.here hx rfl (hb hby d7_139) rfl kq) ?_
                refine own_st (T' := T) (F' := (mkF m 141 #[.val (.long q), .second, .val (.ref a), .val (.int (0 : Int32)), .val (.long (0 : Int64)), .second] [(.ref a), (.long q)])) (fun _ kq => XS.aloadN X.here hx rfl (hb hby d7_140) rfl rfl kq) ?_
                refine own_st (T' := T) (F' := (mkF m 143 #[.val (.long q), .second, .val (.ref a), .val (.int (0 : Int32)), .val (.long (0 : Int64)), .second] [(.int (11 : Int32)), (.ref a), (.long q)])) (fun _ kq => XS.bipush X.here hx rfl (hb hby d7_141) kq) ?_
                refine own_st (T' := T) (F' := (mkF m 144 #[.val (.long q), .second, .val (.ref a), .val (.int (0 : Int32)), .val (.long (0 : Int64)), .second] [(.long x11), (.long q)])) (own_laload X hx hZ eT V (g := (mkF m 143 #[.val (.long q), .second, .val (.ref a), .val (.int (0 : Int32)), .val (.long (0 : Int64)), .second] [(.int (11 : Int32)), (.ref a), (.long q)])) rfl rfl (hb hby d7_143) (by decide) (Nat.le_of_ble_eq_true rfl) (w := x11) rfl) ?_
                refine own_st (T' := T) (F' := (mkF m 145 #[.val (.long q), .second, .val (.ref a), .val (.int (0 : Int32)), .val (.long (0 : Int64)), .second] [(.ref a), (.long x11), (.long q)])) (fun _ kq => XS.aloadN X.here hx rfl (hb hby d7_144) rfl rfl kq) ?_
                refine own_st (T' := T) (F' := (mkF m 147 #[.val (.long q), .second, .val (.ref a), .val (.int (0 : Int32)), .val (.long (0 : Int64)), .second] [(.int (9 : Int32)), (.ref a), (.long x11), (.long q)])) (fun _ kq => XS.bipush X.here hx rfl (hb hby d7_145) kq) ?_
                refine own_st (T' := T) (F' := (mkF m 148 #[.val (.long q), .second, .val (.ref a), .val (.int (0 : Int32)), .val (.long (0 : Int64)), .second] [(.long x9), (.long x11), (.long q)])) (own_laload X hx hZ eT V (g := (mkF m 147 #[.val (.long q), .second, .val (.ref a), .val (.int (0 : Int32)), .val (.long (0 : Int64)), .second] [(.int (9 : Int32)), (.ref a), (.long x11), (.long q)])) rfl rfl (hb hby d7_147) (by decide) (Nat.le_of_ble_eq_true rfl) (w := x9) rfl) ?_
                refine own_st (T' := T) (F' := (mkF m 149 #[.val (.long q), .second, .val (.ref a), .val (.int (0 : Int32)), .val (.long (0 : Int64)), .second] [(.long (x11 - x9)), (.long q)])) (fun _ kq => XS.lsub X.here hx rfl (hb hby d7_148) rfl kq) ?_
                refine own_st (T' := T) (F' := (mkF m 150 #[.val (.long q), .second, .val (.ref a), .val (.int (0 : Int32)), .val (.long (0 : Int64)), .second] [(.long (q + (x11 - x9)))])) (fun _ kq => XS.ladd X.here hx rfl (hb hby d7_149) rfl kq) ?_
                refine own_st (T' := T) (F' := (mkF m 152 #[.val (.long q), .second, .val (.ref a), .val (.int (0 : Int32)), .val (.long (0 : Int64)), .second] [(.long (0 : Int64)), (.long (q + (x11 - x9)))])) (fun _ kq => XS.lload X.here hx rfl (hb hby d7_150) rfl kq) ?_
                refine own_st (T' := T) (F' := (mkF m 153 #[.val (.long q), .second, .val (.ref a), .val (.int (0 : Int32)), .val (.long (0 : Int64)), .second] [(.long ((q + (x11 - x9)) + (0 : Int64)))])) (fun _ kq => XS.ladd X.here hx rfl (hb hby d7_152) rfl kq) ?_
                exact own_retL X hx hlk hret (hb hby d7_153) (by decide) (by decide) (own_PQi rfl N eT)
  have N := Fr.nil n0
  refine own_entry (ef7 m q a (0 : Int32)) ?_
  unfold rf0
  refine own_st (T' := T) (F' := (mkF m 1 #[.val (.long q), .second, .val (.ref a), .val (.int (0 : Int32)), .unset, .unset] [(.int (0 : Int32))])) (fun _ kq => XS.iloadN X.here hx rfl (hb hby d7_0) rfl kq) ?_
  refine own_st (T' := T) (F' := (mkF m 8 #[.val (.long q), .second, .val (.ref a), .val (.int (0 : Int32)), .unset, .unset] [])) (fun _ kq => XS.ifYes X.here hx rfl (pc0 := 1) (pc' := 8) rfl (hb hby d7_1) rfl ((if0 _ _).trans (teq (rfl : (0 : Int32) = (0 : Int32))).1) (by decide) (by decide) kq) ?_
  refine own_st (T' := T) (F' := (mkF m 9 #[.val (.long q), .second, .val (.ref a), .val (.int (0 : Int32)), .unset, .unset] [(.long (0 : Int64))])) (fun _ kq => XS.lconst X.here hx rfl (hb hby d7_8) kq) ?_
  exact J9  T _ X eT N
theorem d7_4 : decode method_3_code 4 = .ok (.lconst 1, 1) := by decide +kernel
theorem d7_5 : decode method_3_code 5 = .ok (.goto 4, 3) := by decide +kernel
theorem d7_36 : decode method_3_code 36 = .ok (.aload_n 2, 1) := by decide +kernel
theorem d7_37 : decode method_3_code 37 = .ok (.iconst 3, 1) := by decide +kernel
theorem d7_38 : decode method_3_code 38 = .ok (.laload, 1) := by decide +kernel
theorem d7_39 : decode method_3_code 39 = .ok (.goto 6, 3) := by decide +kernel
theorem d7_79 : decode method_3_code 79 = .ok (.aload_n 2, 1) := by decide +kernel
theorem d7_80 : decode method_3_code 80 = .ok (.bipush 7, 2) := by decide +kernel
theorem d7_82 : decode method_3_code 82 = .ok (.laload, 1) := by decide +kernel
theorem d7_83 : decode method_3_code 83 = .ok (.goto 7, 3) := by decide +kernel
theorem d7_127 : decode method_3_code 127 = .ok (.aload_n 2, 1) := by decide +kernel
theorem d7_128 : decode method_3_code 128 = .ok (.bipush 11, 2) := by decide +kernel
theorem d7_130 : decode method_3_code 130 = .ok (.laload, 1) := by decide +kernel
theorem d7_131 : decode method_3_code 131 = .ok (.goto 7, 3) := by decide +kernel
def rf1_9 (q : Int64) (x0 : Int64) (x1 : Int64) (x3 : Int64) (x4 : Int64) (x5 : Int64) (x7 : Int64) (x8 : Int64) (x9 : Int64) (x11 : Int64) : Int64 := if q < x0 then ((q + (1 : Int64))) else (if q < x1 then (x3) else (if q < x4 then (((q + (x3 - x1)) + (1 : Int64))) else (if q < x5 then (x7) else (if q < x8 then (((q + (x7 - x5)) + (1 : Int64))) else (if q < x9 then (x11) else (((q + (x11 - x9)) + (1 : Int64))))))))
def rf1 (q : Int64) (x0 : Int64) (x1 : Int64) (x3 : Int64) (x4 : Int64) (x5 : Int64) (x7 : Int64) (x8 : Int64) (x9 : Int64) (x11 : Int64) : Int64 := rf1_9 q x0 x1 x3 x4 x5 x7 x8 x9 x11
set_option maxRecDepth 65536 in
set_option maxHeartbeats 40000000 in
theorem rm7_1 (l : Launch) (Z : State) (a0 : Array Value) (hw : ∀ d ∈ tables_1, d.before a0 Z = true) (ws : List Jvm.Cond) (q : Int64) (a : Addr) (x0 : Int64) (x1 : Int64) (x2 : Int64) (x3 : Int64) (x4 : Int64) (x5 : Int64) (x6 : Int64) (x7 : Int64) (x8 : Int64) (x9 : Int64) (x10 : Int64) (x11 : Int64) (h0 : Heap) (n0 : Nat) (V : own_AJ Z h0 a (12 : Int32) [x0, x1, x2, x3, x4, x5, x6, x7, x8, x9, x10, x11]) :
    own_Met l Z (⟨"com/example/cotejo/cotejo/engine/AlignmentAddPinLaw", "ref", "(J[JZ)J"⟩ : MethodName) method_3_code 6 (some .long) ws ({ frames := 0, cells := 0, slots := 0, locals := 0 } : Room) #[(.long q), (.ref a), (.int (1 : Int32))] h0 (own_PQ (.long (rf1 q x0 x1 x3 x4 x5 x7 x8 x9 x11)) h0 n0) := by
  refine own_body (plainFor_of_name pn1) ?_
  intro p e s m below meth c T X hx hby hml hret hlk hZ hown hnm eT
  have J9 : ∀ (T : State) (locs : List Loc) (X : Stand p l e ({ frames := 0, cells := 0, slots := 0, locals := 0 } : Room) s m #[(.long q), (.ref a), (.int (1 : Int32))] below meth c T locs 0 0) (eT : T.heap = h0) (N : Fr n0 locs), own_Ends p e below s 0 0 (own_PQ (.long (rf1_9 q x0 x1 x3 x4 x5 x7 x8 x9 x11)) h0 n0) T (mkF m 9 #[.val (.long q), .second, .val (.ref a), .val (.int (1 : Int32)), .unset, .unset] [(.long (1 : Int64))]) := by
    intro T locs X eT N
    unfold rf1_9
    refine own_st (T' := T) (F' := (mkF m 11 #[.val (.long q), .second, .val (.ref a), .val (.int (1 : Int32)), .val (.long (1 : Int64)), .second] [])) (fun _ kq => XS.lstore X.here hx rfl (hb hby d7_9) rfl (l' := #[.val (.long q), .second, .val (.ref a), .val (.int (1 : Int32)), .val (.long (1 : Int64)), .second]) rfl kq) ?_
    refine own_st (T' := T) (F' := (mkF m 12 #[.val (.long q), .second, .val (.ref a), .val (.int (1 : Int32)), .val (.long (1 : Int64)), .second] [(.long q)])) (fun _ kq => XS.lloadN X.here hx rfl (hb hby d7_11) rfl kq) ?_
    refine own_st (T' := T) (F' := (mkF m 13 #[.val (.long q), .second, .val (.ref a), .val (.int (1 : Int32)), .val (.long (1 : Int64)), .second] [(.ref a), (.long q)])) (fun _ kq => XS.aloadN X.here hx rfl (hb hby d7_12) rfl rfl kq) ?_
    refine own_st (T' := T) (F' := (mkF m 14 #[.val (.long q), .second, .val (.ref a), .val (.int (1 : Int32)), .val (.long (1 : Int64)), .second] [(.int (0 : Int32)), (.ref a), (.long q)])) (fun _ kq => XS.iconst X.here hx rfl (hb hby d7_13) kq) ?_
    refine own_st (T' := T) (F' := (mkF m 15 #[.val (.long q), .second, .val (.ref a), .val (.int (1 : Int32)), .val (.long (1 : Int64)), .second] [(.long x0), (.long q)])) (own_laload X hx hZ eT V (g := (mkF m 14 #[.val (.long q), .second, .val (.ref a), .val (.int (1 : Int32)), .val (.long (1 : Int64)), .second] [(.int (0 : Int32)), (.ref a), (.long q)])) rfl rfl (hb hby d7_14) (by decide) (Nat.le_of_ble_eq_true rfl) (w := x0) rfl) ?_
    refine own_st (T' := T) (F' := (mkF m 16 #[.val (.long q), .second, .val (.ref a), .val (.int (1 : Int32)), .val (.long (1 : Int64)), .second] [(.int (lcmpW q x0))])) (fun _ kq => XS.lcmp X.here hx rfl (hb hby d7_15) rfl kq) ?_
    by_cases hc16_69 : q < x0
    ·
      rw [if_pos hc16_69]
      refine own_st (T' := T) (F' := (mkF m 19 #[.val (.long q), .second, .val (.ref a), .val (.int (1 : Int32)), .val (.long (1 : Int64)), .second] [])) (fun _ kq => XS.ifNo X.here hx rfl (hb hby d7_16) rfl ((if0 _ _).trans (tlt ((lw_lt q x0).mpr hc16_69)).2.1) kq) ?_
      refine own_st (T' := T) (F' := (mkF m 20 #[.val (.long q), .second, .val (.ref a), .val (.int (1 : Int32)), .val (.long (1 : Int64)), .second] [(.long q)])) (fun _ kq => XS.lloadN X.here hx rfl (hb hby d7_19) rfl kq) ?_
      refine own_st (T' := T) (F' := (mkF m 22 #[.val (.long q), .second, .val (.ref a), .val (.int (1 : Int32)), .val (.long (1 : Int64)), .second] [(.long (1 : Int64)), (.long q)])) (fun _ kq => XS.lload X.here hx rfl (hb hby d7_20) rfl kq) ?_
      refine own_st (T' := T) (F' := (mkF m 23 #[.val (.long q), .second, .val (.ref a), .val (.int (1 : Int32)), .val (.long (1 : Int64)), .second] [(.long (q + (1 : Int64)))])) (fun _ kq => XS.ladd X.here hx rfl (hb hby d7_22) rfl kq) ?_
      exact own_retL X hx hlk hret (hb hby d7_23) (by decide) (by decide) (own_PQi rfl N eT)
    ·
      rw [if_neg hc16_69]
      refine own_st (T' := T) (F' := (mkF m 24 #[.val (.long q), .second, .val (.ref a), .val (.int (1 : Int32)), .val (.long (1 : Int64)), .second] [])) (fun _ kq => XS.ifYes X.here hx rfl (pc0 := 16) (pc' := 24) rfl (hb hby d7_16) rfl ((if0 _ _).trans (flt (mt (lw_lt q x0).mp hc16_69)).2.1) (by decide) (by decide) kq) ?_
      refine own_st (T' := T) (F' := (mkF m 25 #[.val (.long q), .second, .val (.ref a), .val (.int (1 : Int32)), .val (.long (1 : Int64)), .second] [(.long q)])) (fun _ kq => XS.lloadN X.here hx rfl (hb hby d7_24) rfl kq) ?_
      refine own_st (T' := T) (F' := (mkF m 26 #[.val (.long q), .second, .val (.ref a), .val (.int (1 : Int32)), .val (.long (1 : Int64)), .second] [(.ref a), (.long q)])) (fun _ kq => XS.aloadN X.here hx rfl (hb hby d7_25) rfl rfl kq) ?_
      refine own_st (T' := T) (F' := (mkF m 27 #[.val (.long q), .second, .val (.ref a), .val (.int (1 : Int32)), .val (.long (1 : Int64)), .second] [(.int (1 : Int32)), (.ref a), (.long q)])) (fun _ kq => XS.iconst X.here hx rfl (hb hby d7_26) kq) ?_
      refine own_st (T' := T) (F' := (mkF m 28 #[.val (.long q), .second, .val (.ref a), .val (.int (1 : Int32)), .val (.long (1 : Int64)), .second] [(.long x1), (.long q)])) (own_laload X hx hZ eT V (g := (mkF m 27 #[.val (.long q), .second, .val (.ref a), .val (.int (1 : Int32)), .val (.long (1 : Int64)), .second] [(.int (1 : Int32)), (.ref a), (.long q)])) rfl rfl (hb hby d7_27) (by decide) (Nat.le_of_ble_eq_true rfl) (w := x1) rfl) ?_
      refine own_st (T' := T) (F' := (mkF m 29 #[.val (.long q), .second, .val (.ref a), .val (.int (1 : Int32)), .val (.long (1 : Int64)), .second] [(.int (lcmpW q x1))])) (fun _ kq => XS.lcmp X.here hx rfl (hb hby d7_28) rfl kq) ?_
      by_cases hc29_70 : q < x1
      ·
        rw [if_pos hc29_70]
        refine own_st (T' := T) (F' := (mkF m 32 #[.val (.long q), .second, .val (.ref a), .val (.int (1 : Int32)), .val (.long (1 : Int64)), .second] [])) (fun _ kq => XS.ifNo X.here hx rfl (hb hby d7_29) rfl ((if0 _ _).trans (tlt ((lw_lt q x1).mpr hc29_70)).2.1) kq) ?_
        refine own_st (T' := T) (F' := (mkF m 33 #[.val (.long q), .second, .val (.ref a), .val (.int (1 : Int32)), .val (.long (1 : Int64)), .second] [(.int (1 : Int32))])) (fun _ kq => XS.iloadN X.here hx rfl (hb hby d7_32) rfl kq) ?_
        refine own_st (T' := T) (F' := (mkF m 36 #[.val (.long q), .second, .val (.ref a), .val (.int (1 : Int32)), .val (.long (1 : Int64)), .second] [])) (fun _ kq => XS.ifNo X.here hx rfl (hb hby d7_33) rfl ((if0 _ _).trans (feq (by decide : ¬ ((1 : Int32) = (0 : Int32)))).1) kq) ?_
        refine own_st (T' := T) (F' := (mkF m 37 #[.val (.long q), .second, .val (.ref a), .val (.int (1 : Int32)), .val (.long (1 : Int64)), .second] [(.ref a)])) (fun _ kq => XS.aloadN X.here hx rfl (hb hby d7_36) rfl rfl kq) ?_
        refine own_st (T' := T) (F' := (mkF m 38 #[.val (.long q), .second, .val (.ref a), .val (.int (1 : Int32)), .val (.long (1 : Int64)), .second] [(.int (3 : Int32)), (.ref a)])) (fun _ kq => XS.iconst X.here hx rfl (hb hby d7_37) kq) ?_
        refine own_st (T' := T) (F' := (mkF m 39 #[.val (.long q), .second, .val (.ref a), .val (.int (1 : Int32)), .val (.long (1 : Int64)), .second] [(.long x3)])) (own_laload X hx hZ eT V (g := (mkF m 38 #[.val (.long q), .second, .val (.ref a), .val (.int (1 : Int32)), .val (.long (1 : Int64)), .second] [(.int (3 : Int32)), (.ref a)])) rfl rfl (hb hby d7_38) (by decide) (Nat.le_of_ble_eq_true rfl) (w := x3) rfl) ?_
        refine own_st (T' := T) (F' := (mkF m 45 #[.val (.long q), .second, .val (.ref a), .val (.int (1 : Int32)), .val (.long (1 : Int64)), .second] [(.long x3)])) (fun _ kq => XS.goto X.here hx rfl (pc0 := 39) (pc' := 45) rfl (hb hby d7_39) (by decide) (by decide) kq) ?_
        exact own_retL X hx hlk hret (hb hby d7_45) (by decide) (by decide) (own_PQi rfl N eT)
      ·
        rw [if_neg hc29_70]
        refine own_st (T' := T) (F' := (mkF m 46 #[.val (.long q), .second, .val (.ref a), .val (.int (1 : Int32)), .val (.long (1 : Int64)), .second] [])) (fun _ kq => XS.ifYes X.here hx rfl (pc0 := 29) (pc' := 46) rfl (hb hby d7_29) rfl ((if0 _ _).trans (flt (mt (lw_lt q x1).mp hc29_70)).2.1) (by decide) (by decide) kq) ?_
        refine own_st (T' := T) (F' := (mkF m 47 #[.val (.long q), .second, .val (.ref a), .val (.int (1 : Int32)), .val (.long (1 : Int64)), .second] [(.long q)])) (fun _ kq => XS.lloadN X.here hx rfl (hb hby d7_46) rfl kq) ?_
        refine own_st (T' := T) (F' := (mkF m 48 #[.val (.long q), .second, .val (.ref a), .val (.int (1 : Int32)), .val (.long (1 : Int64)), .second] [(.ref a), (.long q)])) (fun _ kq => XS.aloadN X.here hx rfl (hb hby d7_47) rfl rfl kq) ?_
        refine own_st (T' := T) (F' := (mkF m 49 #[.val (.long q), .second, .val (.ref a), .val (.int (1 : Int32)), .val (.long (1 : Int64)), .second] [(.int (4 : Int32)), (.ref a), (.long q)])) (fun _ kq => XS.iconst X.here hx rfl (hb hby d7_48) kq) ?_
        refine own_st (T' := T) (F' := (mkF m 50 #[.val (.long q), .second, .val (.ref a), .val (.int (1 : Int32)), .val (.long (1 : Int64)), .second] [(.long x4), (.long q)])) (own_laload X hx hZ eT V (g := (mkF m 49 #[.val (.long q), .second, .val (.ref a), .val (.int (1 : Int32)), .val (.long (1 : Int64)), .second] [(.int (4 : Int32)), (.ref a), (.long q)])) rfl rfl (hb hby d7_49) (by decide) (Nat.le_of_ble_eq_true rfl) (w := x4) rfl) ?_
        refine own_st (T' := T) (F' := (mkF m 51 #[.val (.long q), .second, .val (.ref a), .val (.int (1 : Int32)), .val (.long (1 : Int64)), .second] [(.int (lcmpW q x4))])) (fun _ kq => XS.lcmp X.here hx rfl (hb hby d7_50) rfl kq) ?_
        by_cases hc51_71 : q < x4
        ·
          rw [if_pos hc51_71]
          refine own_st (T' := T) (F' := (mkF m 54 #[.val (.long q), .second, .val (.ref a), .val (.int (1 : Int32)), .val (.long (1 : Int64)), .second] [])) (fun _ kq => XS.ifNo X.here hx rfl (hb hby d7_51) rfl ((if0 _ _).trans (tlt ((lw_lt q x4).mpr hc51_71)).2.1) kq) ?_
          refine own_st (T' := T) (F' := (mkF m 55 #[.val (.long q), .second, .val (.ref a), .val (.int (1 : Int32)), .val (.long (1 : Int64)), .second] [(.long q)])) (fun _ kq => XS.lloadN X.here hx rfl (hb hby d7_54) rfl kq) ?_
          refine own_st (T' := T) (F' := (mkF m 56 #[.val (.long q), .second, .val (.ref a), .val (.int (1 : Int32)), .val (.long (1 : Int64)), .second] [(.ref a), (.long q)])) (fun _ kq => XS.aloadN X.here hx rfl (hb hby d7_55) rfl rfl kq) ?_
          refine own_st (T' := T) (F' := (mkF m 57 #[.val (.long q), .second, .val (.ref a), .val (.int (1 : Int32)), .val (.long (1 : Int64)), .second] [(.int (3 : Int32)), (.ref a), (.long q)])) (fun _ kq => XS.iconst X.here hx rfl (hb hby d7_56) kq) ?_
          refine own_st (T' := T) (F' := (mkF m 58 #[.val (.long q), .second, .val (.ref a), .val (.int (1 : Int32)), .val (.long (1 : Int64)), .second] [(.long x3), (.long q)])) (own_laload X hx hZ eT V (g := (mkF m 57 #[.val (.long q), .second, .val (.ref a), .val (.int (1 : Int32)), .val (.long (1 : Int64)), .second] [(.int (3 : Int32)), (.ref a), (.long q)])) rfl rfl (hb hby d7_57) (by decide) (Nat.le_of_ble_eq_true rfl) (w := x3) rfl) ?_
          refine own_st (T' := T) (F' := (mkF m 59 #[.val (.long q), .second, .val (.ref a), .val (.int (1 : Int32)), .val (.long (1 : Int64)), .second] [(.ref a), (.long x3), (.long q)])) (fun _ kq => XS.aloadN X.here hx rfl (hb hby d7_58) rfl rfl kq) ?_
          refine own_st (T' := T) (F' := (mkF m 60 #[.val (.long q), .second, .val (.ref a), .val (.int (1 : Int32)), .val (.long (1 : Int64)), .second] [(.int (1 : Int32)), (.ref a), (.long x3), (.long q)])) (fun _ kq => XS.iconst X.here hx rfl (hb hby d7_59) kq) ?_
          refine own_st (T' := T) (F' := (mkF m 61 #[.val (.long q), .second, .val (.ref a), .val (.int (1 : Int32)), .val (.long (1 : Int64)), .second] [(.long x1), (.long x3), (.long q)])) (own_laload X hx hZ eT V (g := (mkF m 60 #[.val (.long q), .second, .val (.ref a), .val (.int (1 : Int32)), .val (.long (1 : Int64)), .second] [(.int (1 : Int32)), (.ref a), (.long x3), (.long q)])) rfl rfl (hb hby d7_60) (by decide) (Nat.le_of_ble_eq_true rfl) (w := x1) rfl) ?_
          refine own_st (T' := T) (F' := (mkF m 62 #[.val (.long q), .second, .val (.ref a), .val (.int (1 : Int32)), .val (.long (1 : Int64)), .second] [(.long (x3 - x1)), (.long q)])) (fun _ kq => XS.lsub X.here hx rfl (hb hby d7_61) rfl kq) ?_
          refine own_st (T' := T) (F' := (mkF m 63 #[.val (.long q), .second, .val (.ref a), .val (.int (1 : Int32)), .val (.long (1 : Int64)), .second] [(.long (q + (x3 - x1)))])) (fun _ kq => XS.ladd X.here hx rfl (hb hby d7_62) rfl kq) ?_
          refine own_st (T' := T) (F' := (mkF m 65 #[.val (.long q), .second, .val (.ref a), .val (.int (1 : Int32)), .val (.long (1 : Int64)), .second] [(.long (1 : Int64)), (.long (q + (x3 - x1)))])) (fun _ kq => XS.lload X.here hx rfl (hb hby d7_63) rfl kq) ?_
          refine own_st (T' := T) (F' := (mkF m 66 #[.val (.long q), .second, .val (.ref a), .val (.int (1 : Int32)), .val (.long (1 : Int64)), .second] [(.long ((q + (x3 - x1)) + (1 : Int64)))])) (fun _ kq => XS.ladd X.here hx rfl (hb hby d7_65) rfl kq) ?_
          exact own_retL X hx hlk hret (hb hby d7_66) (by decide) (by decide) (own_PQi rfl N eT)
        ·
          rw [if_neg hc51_71]
          refine own_st (T' := T) (F' := (mkF m 67 #[.val (.long q), .second, .val (.ref a), .val (.int (1 : Int32)), .val (.long (1 : Int64)), .second] [])) (fun _ kq => XS.ifYes X.here hx rfl (pc0 := 51) (pc' := 67) rfl (hb hby d7_51) rfl ((if0 _ _).trans (flt (mt (lw_lt q x4).mp hc51_71)).2.1) (by decide) (by decide) kq) ?_
          refine own_st (T' := T) (F' := (mkF m 68 #[.val (.long q), .second, .val (.ref a), .val (.int (1 : Int32)), .val (.long (1 : Int64)), .second] [(.long q)])) (fun _ kq => XS.lloadN X.here hx rfl (hb hby d7_67) rfl kq) ?_
          refine own_st (T' := T) (F' := (mkF m 69 #[.val (.long q), .second, .val (.ref a), .val (.int (1 : Int32)), .val (.long (1 : Int64)), .second] [(.ref a), (.long q)])) (fun _ kq => XS.aloadN X.here hx rfl (hb hby d7_68) rfl rfl kq) ?_
          refine own_st (T' := T) (F' := (mkF m 70 #[.val (.long q), .second, .val (.ref a), .val (.int (1 : Int32)), .val (.long (1 : Int64)), .second] [(.int (5 : Int32)), (.ref a), (.long q)])) (fun _ kq => XS.iconst X.here hx rfl (hb hby d7_69) kq) ?_
          refine own_st (T' := T) (F' := (mkF m 71 #[.val (.long q), .second, .val (.ref a), .val (.int (1 : Int32)), .val (.long (1 : Int64)), .second] [(.long x5), (.long q)])) (own_laload X hx hZ eT V (g := (mkF m 70 #[.val (.long q), .second, .val (.ref a), .val (.int (1 : Int32)), .val (.long (1 : Int64)), .second] [(.int (5 : Int32)), (.ref a), (.long q)])) rfl rfl (hb hby d7_70) (by decide) (Nat.le_of_ble_eq_true rfl) (w := x5) rfl) ?_
          refine own_st (T' := T) (F' := (mkF m 72 #[.val (.long q), .second, .val (.ref a), .val (.int (1 : Int32)), .val (.long (1 : Int64)), .second] [(.int (lcmpW q x5))])) (fun _ kq => XS.lcmp X.here hx rfl (hb hby d7_71) rfl kq) ?_
          by_cases hc72_72 : q < x5
          ·
            rw [if_pos hc72_72]
            refine own_st (T' := T) (F' := (mkF m 75 #[.val (.long q), .second, .val (.ref a), .val (.int (1 : Int32)), .val (.long (1 : Int64)), .second] [])) (fun _ kq => XS.ifNo X.here hx rfl (hb hby d7_72) rfl ((if0 _ _).trans (tlt ((lw_lt q x5).mpr hc72_72)).2.1) kq) ?_
            refine own_st (T' := T) (F' := (mkF m 76 #[.val (.long q), .second, .val (.ref a), .val (.int (1 : Int32)), .val (.long (1 : Int64)), .second] [(.int (1 : Int32))])) (fun _ kq => XS.iloadN X.here hx rfl (hb hby d7_75) rfl kq) ?_
            refine own_st (T' := T) (F' := (mkF m 79 #[.val (.long q), .second, .val (.ref a), .val (.int (1 : Int32)), .val (.long (1 : Int64)), .second] [])) (fun _ kq => XS.ifNo X.here hx rfl (hb hby d7_76) rfl ((if0 _ _).trans (feq (by decide : ¬ ((1 : Int32) = (0 : Int32)))).1) kq) ?_
            refine own_st (T' := T) (F' := (mkF m 80 #[.val (.long q), .second, .val (.ref a), .val (.int (1 : Int32)), .val (.long (1 : Int64)), .second] [(.ref a)])) (fun _ kq => XS.aloadN X.here hx rfl (hb hby d7_79) rfl rfl kq) ?_
            refine own_st (T' := T) (F' := (mkF m 82 #[.val (.long q), .second, .val (.ref a), .val (.int (1 : Int32)), .val (.long (1 : Int64)), .second] [(.int (7 : Int32)), (.ref a)])) (fun _ kq => XS.bipush X.here hx rfl (hb hby d7_80) kq) ?_
            refine own_st (T' := T) (F' := (mkF m 83 #[.val (.long q), .second, .val (.ref a), .val (.int (1 : Int32)), .val (.long (1 : Int64)), .second] [(.long x7)])) (own_laload X hx hZ eT V (g := (mkF m 82 #[.val (.long q), .second, .val (.ref a), .val (.int (1 : Int32)), .val (.long (1 : Int64)), .second] [(.int (7 : Int32)), (.ref a)])) rfl rfl (hb hby d7_82) (by decide) (Nat.le_of_ble_eq_true rfl) (w := x7) rfl) ?_
            refine own_st (T' := T) (F' := (mkF m 90 #[.val (.long q), .second, .val (.ref a), .val (.int (1 : Int32)), .val (.long (1 : Int64)), .second] [(.long x7)])) (fun _ kq => XS.goto X.here hx rfl (pc0 := 83) (pc' := 90) rfl (hb hby d7_83) (by decide) (by decide) kq) ?_
            exact own_retL X hx hlk hret (hb hby d7_90) (by decide) (by decide) (own_PQi rfl N eT)
          ·
            rw [if_neg hc72_72]
            refine own_st (T' := T) (F' := (mkF m 91 #[.val (.long q), .second, .val (.ref a), .val (.int (1 : Int32)), .val (.long (1 : Int64)), .second] [])) (fun _ kq => XS.ifYes X.here hx rfl (pc0 := 72) (pc' := 91) rfl (hb hby d7_72) rfl ((if0 _ _).trans (flt (mt (lw_lt q x5).mp hc72_72)).2.1) (by decide) (by decide) kq) ?_
            refine own_st (T' := T) (F' := (mkF m 92 #[.val (.long q), .second, .val (.ref a), .val (.int (1 : Int32)), .val (.long (1 : Int64)), .second] [(.long q)])) (fun _ kq => XS.lloadN X.here hx rfl (hb hby d7_91) rfl kq) ?_
            refine own_st (T' := T) (F' := (mkF m 93 #[.val (.long q), .second, .val (.ref a), .val (.int (1 : Int32)), .val (.long (1 : Int64)), .second] [(.ref a), (.long q)])) (fun _ kq => XS.aloadN X.here hx rfl (hb hby d7_92) rfl rfl kq) ?_
            refine own_st (T' := T) (F' := (mkF m 95 #[.val (.long q), .second, .val (.ref a), .val (.int (1 : Int32)), .val (.long (1 : Int64)), .second] [(.int (8 : Int32)), (.ref a), (.long q)])) (fun _ kq => XS.bipush X.here hx rfl (hb hby d7_93) kq) ?_
            refine own_st (T' := T) (F' := (mkF m 96 #[.val (.long q), .second, .val (.ref a), .val (.int (1 : Int32)), .val (.long (1 : Int64)), .second] [(.long x8), (.long q)])) (own_laload X hx hZ eT V (g := (mkF m 95 #[.val (.long q), .second, .val (.ref a), .val (.int (1 : Int32)), .val (.long (1 : Int64)), .second] [(.int (8 : Int32)), (.ref a), (.long q)])) rfl rfl (hb hby d7_95) (by decide) (Nat.le_of_ble_eq_true rfl) (w := x8) rfl) ?_
            refine own_st (T' := T) (F' := (mkF m 97 #[.val (.long q), .second, .val (.ref a), .val (.int (1 : Int32)), .val (.long (1 : Int64)), .second] [(.int (lcmpW q x8))])) (fun _ kq => XS.lcmp X.here hx rfl (hb hby d7_96) rfl kq) ?_
            by_cases hc97_73 : q < x8
            ·
              rw [if_pos hc97_73]
              refine own_st (T' := T) (F' := (mkF m 100 #[.val (.long q), .second, .val (.ref a), .val (.int (1 : Int32)), .val (.long (1 : Int64)), .second] [])) (fun _ kq => XS.ifNo X.here hx rfl (hb hby d7_97) rfl ((if0 _ _).trans (tlt ((lw_lt q x8).mpr hc97_73)).2.1) kq) ?_
              refine own_st (T' := T) (F' := (mkF m 101 #[.val (.long q), .second, .val (.ref a), .val (.int (1 : Int32)), .val (.long (1 : Int64)), .second] [(.long q)])) (fun _ kq => XS.lloadN X.here hx rfl (hb hby d7_100) rfl kq) ?_
              refine own_st (T' := T) (F' := (mkF m 102 #[.val (.long q), .second, .val (.ref a), .val (.int (1 : Int32)), .val (.long (1 : Int64)), .second] [(.ref a), (.long q)])) (fun _ kq => XS.aloadN X.here hx rfl (hb hby d7_101) rfl rfl kq) ?_
              refine own_st (T' := T) (F' := (mkF m 104 #[.val (.long q), .second, .val (.ref a), .val (.int (1 : Int32)), .val (.long (1 : Int64)), .second] [(.int (7 : Int32)), (.ref a), (.long q)])) (fun _ kq => XS.bipush X.here hx rfl (hb hby d7_102) kq) ?_
              refine own_st (T' := T) (F' := (mkF m 105 #[.val (.long q), .second, .val (.ref a), .val (.int (1 : Int32)), .val (.long (1 : Int64)), .second] [(.long x7), (.long q)])) (own_laload X hx hZ eT V (g := (mkF m 104 #[.val (.long q), .second, .val (.ref a), .val (.int (1 : Int32)), .val (.long (1 : Int64)), .second] [(.int (7 : Int32)), (.ref a), (.long q)])) rfl rfl (hb hby d7_104) (by decide) (Nat.le_of_ble_eq_true rfl) (w := x7) rfl) ?_
              refine own_st (T' := T) (F' := (mkF m 106 #[.val (.long q), .second, .val (.ref a), .val (.int (1 : Int32)), .val (.long (1 : Int64)), .second] [(.ref a), (.long x7), (.long q)])) (fun _ kq => XS.aloadN X.here hx rfl (hb hby d7_105) rfl rfl kq) ?_
              refine own_st (T' := T) (F' := (mkF m 107 #[.val (.long q), .second, .val (.ref a), .val (.int (1 : Int32)), .val (.long (1 : Int64)), .second] [(.int (5 : Int32)), (.ref a), (.long x7), (.long q)])) (fun _ kq => XS.iconst X.here hx rfl (hb hby d7_106) kq) ?_
              refine own_st (T' := T) (F' := (mkF m 108 #[.val (.long q), .second, .val (.ref a), .val (.int (1 : Int32)), .val (.long (1 : Int64)), .second] [(.long x5), (.long x7), (.long q)])) (own_laload X hx hZ eT V (g := (mkF m 107 #[.val (.long q), .second, .val (.ref a), .val (.int (1 : Int32)), .val (.long (1 : Int64)), .second] [(.int (5 : Int32)), (.ref a), (.long x7), (.long q)])) rfl rfl (hb hby d7_107) (by decide) (Nat.le_of_ble_eq_true rfl) (w := x5) rfl) ?_
              refine own_st (T' := T) (F' := (mkF m 109 #[.val (.long q), .second, .val (.ref a), .val (.int (1 : Int32)), .val (.long (1 : Int64)), .second] [(.long (x7 - x5)), (.long q)])) (fun _ kq => XS.lsub X.here hx rfl (hb hby d7_108) rfl kq) ?_
              refine own_st (T' := T) (F' := (mkF m 110 #[.val (.long q), .second, .val (.ref a), .val (.int (1 : Int32)), .val (.long (1 : Int64)), .second] [(.long (q + (x7 - x5)))])) (fun _ kq => XS.ladd X.here hx rfl (hb hby d7_109) rfl kq) ?_
              refine own_st (T' := T) (F' := (mkF m 112 #[.val (.long q), .second, .val (.ref a), .val (.int (1 : Int32)), .val (.long (1 : Int64)), .second] [(.long (1 : Int64)), (.long (q + (x7 - x5)))])) (fun _ kq => XS.lload X.here hx rfl (hb hby d7_110) rfl kq) ?_
              refine own_st (T' := T) (F' := (mkF m 113 #[.val (.long q), .second, .val (.ref a), .val (.int (1 : Int32)), .val (.long (1 : Int64)), .second] [(.long ((q + (x7 - x5)) + (1 : Int64)))])) (fun _ kq => XS.ladd X.here hx rfl (hb hby d7_112) rfl kq) ?_
              exact own_retL X hx hlk hret (hb hby d7_113) (by decide) (by decide) (own_PQi rfl N eT)
            ·
              rw [if_neg hc97_73]
              refine own_st (T' := T) (F' := (mkF m 114 #[.val (.long q), .second, .val (.ref a), .val (.int (1 : Int32)), .val (.long (1 : Int64)), .second] [])) (fun _ kq => XS.ifYes X.here hx rfl (pc0 := 97) (pc' := 114) rfl (hb hby d7_97) rfl ((if0 _ _).trans (flt (mt (lw_lt q x8).mp hc97_73)).2.1) (by decide) (by decide) kq) ?_
              refine own_st (T' := T) (F' := (mkF m 115 #[.val (.long q), .second, .val (.ref a), .val (.int (1 : Int32)), .val (.long (1 : Int64)), .second] [(.long q)])) (fun _ kq => XS.lloadN X.here hx rfl (hb hby d7_114) rfl kq) ?_
              refine own_st (T' := T) (F' := (mkF m 116 #[.val (.long q), .second, .val (.ref a), .val (.int (1 : Int32)), .val (.long (1 : Int64)), .second] [(.ref a), (.long q)])) (fun _ kq => XS.aloadN X.here hx rfl (hb hby d7_115) rfl rfl kq) ?_
              refine own_st (T' := T) (F' := (mkF m 118 #[.val (.long q), .second, .val (.ref a), .val (.int (1 : Int32)), .val (.long (1 : Int64)), .second] [(.int (9 : Int32)), (.ref a), (.long q)])) (fun _ kq => XS.bipush X.here hx rfl (hb hby d7_116) kq) ?_
              refine own_st (T' := T) (F' := (mkF m 119 #[.val (.long q), .second, .val (.ref a), .val (.int (1 : Int32)), .val (.long (1 : Int64)), .second] [(.long x9), (.long q)])) (own_laload X hx hZ eT V (g := (mkF m 118 #[.val (.long q), .second, .val (.ref a), .val (.int (1 : Int32)), .val (.long (1 : Int64)), .second] [(.int (9 : Int32)), (.ref a), (.long q)])) rfl rfl (hb hby d7_118) (by decide) (Nat.le_of_ble_eq_true rfl) (w := x9) rfl) ?_
              refine own_st (T' := T) (F' := (mkF m 120 #[.val (.long q), .second, .val (.ref a), .val (.int (1 : Int32)), .val (.long (1 : Int64)), .second] [(.int (lcmpW q x9))])) (fun _ kq => XS.lcmp X.here hx rfl (hb hby d7_119) rfl kq) ?_
              by_cases hc120_74 : q < x9
              ·
                rw [if_pos hc120_74]
                refine own_st (T' := T) (F' := (mkF m 123 #[.val (.long q), .second, .val (.ref a), .val (.int (1 : Int32)), .val (.long (1 : Int64)), .second] [])) (fun _ kq => XS.ifNo X.here hx rfl (hb hby d7_120) rfl ((if0 _ _).trans (tlt ((lw_lt q x9).mpr hc120_74)).2.1) kq) ?_
                refine own_st (T' := T) (F' := (mkF m 124 #[.val (.long q), .second, .val (.ref a), .val (.int (1 : Int32)), .val (.long (1 : Int64)), .second] [(.int (1 : Int32))])) (fun _ kq => XS.iloadN X.here hx rfl (hb hby d7_123) rfl kq) ?_
                refine own_st (T' := T) (F' := (mkF m 127 #[.val (.long q), .second, .val (.ref a), .val (.int (1 : Int32)), .val (.long (1 : Int64)), .second] [])) (fun _ kq => XS.ifNo X.here hx rfl (hb hby d7_124) rfl ((if0 _ _).trans (feq (by decide : ¬ ((1 : Int32) = (0 : Int32)))).1) kq) ?_
                refine own_st (T' := T) (F' := (mkF m 128 #[.val (.long q), .second, .val (.ref a), .val (.int (1 : Int32)), .val (.long (1 : Int64)), .second] [(.ref a)])) (fun _ kq => XS.aloadN X.here hx rfl (hb hby d7_127) rfl rfl kq) ?_
                refine own_st (T' := T) (F' := (mkF m 130 #[.val (.long q), .second, .val (.ref a), .val (.int (1 : Int32)), .val (.long (1 : Int64)), .second] [(.int (11 : Int32)), (.ref a)])) (fun _ kq => XS.bipush X.here hx rfl (hb hby d7_128) kq) ?_
                refine own_st (T' := T) (F' := (mkF m 131 #[.val (.long q), .second, .val (.ref a), .val (.int (1 : Int32)), .val (.long (1 : Int64)), .second] [(.long x11)])) (own_laload X hx hZ eT V (g := (mkF m 130 #[.val (.long q), .second, .val (.ref a), .val (.int (1 : Int32)), .val (.long (1 : Int64)), .second] [(.int (11 : Int32)), (.ref a)])) rfl rfl (hb hby d7_130) (by decide) (Nat.le_of_ble_eq_true rfl) (w := x11) rfl) ?_
                refine own_st (T' := T) (F' := (mkF m 138 #[.val (.long q), .second, .val (.ref a), .val (.int (1 : Int32)), .val (.long (1 : Int64)), .second] [(.long x11)])) (fun _ kq => XS.goto X.here hx rfl (pc0 := 131) (pc' := 138) rfl (hb hby d7_131) (by decide) (by decide) kq) ?_
                exact own_retL X hx hlk hret (hb hby d7_138) (by decide) (by decide) (own_PQi rfl N eT)
              ·
                rw [if_neg hc120_74]
                refine own_st (T' := T) (F' := (mkF m 139 #[.val (.long q), .second, .val (.ref a), .val (.int (1 : Int32)), .val (.long (1 : Int64)), .second] [])) (fun _ kq => XS.ifYes X.here hx rfl (pc0 := 120) (pc' := 139) rfl (hb hby d7_120) rfl ((if0 _ _).trans (flt (mt (lw_lt q x9).mp hc120_74)).2.1) (by decide) (by decide) kq) ?_
                refine own_st (T' := T) (F' := (mkF m 140 #[.val (.long q), .second, .val (.ref a), .val (.int (1 : Int32)), .val (.long (1 : Int64)), .second] [(.long q)])) (fun _ kq => XS.lloadN X.here hx rfl (hb hby d7_139) rfl kq) ?_
                refine own_st (T' := T) (F' := (mkF m 141 #[.val (.long q), .second, .val (.ref a), .val (.int (1 : Int32)), .val (.long (1 : Int64)), .second] [(.ref a), (.long q)])) (fun _ kq => XS.aloadN X.here hx rfl (hb hby d7_140) rfl rfl kq) ?_
                refine own_st (T' := T) (F' := (mkF m 143 #[.val (.long q), .second, .val (.ref a), .val (.int (1 : Int32)), .val (.long (1 : Int64)), .second] [(.int (11 : Int32)), (.ref a), (.long q)])) (fun _ kq => XS.bipush X.here hx rfl (hb hby d7_141) kq) ?_
                refine own_st (T' := T) (F' := (mkF m 144 #[.val (.long q), .second, .val (.ref a), .val (.int (1 : Int32)), .val (.long (1 : Int64)), .second] [(.long x11), (.long q)])) (own_laload X hx hZ eT V (g := (mkF m 143 #[.val (.long q), .second, .val (.ref a), .val (.int (1 : Int32)), .val (.long (1 : Int64)), .second] [(.int (11 : Int32)), (.ref a), (.long q)])) rfl rfl (hb hby d7_143) (by decide) (Nat.le_of_ble_eq_true rfl) (w := x11) rfl) ?_
                refine own_st (T' := T) (F' := (mkF m 145 #[.val (.long q), .second, .val (.ref a), .val (.int (1 : Int32)), .val (.long (1 : Int64)), .second] [(.ref a), (.long x11), (.long q)])) (fun _ kq => XS.aloadN X.here hx rfl (hb hby d7_144) rfl rfl kq) ?_
                refine own_st (T' := T) (F' := (mkF m 147 #[.val (.long q), .second, .val (.ref a), .val (.int (1 : Int32)), .val (.long (1 : Int64)), .second] [(.int (9 : Int32)), (.ref a), (.long x11), (.long q)])) (fun _ kq => XS.bipush X.here hx rfl (hb hby d7_145) kq) ?_
                refine own_st (T' := T) (F' := (mkF m 148 #[.val (.long q), .second, .val (.ref a), .val (.int (1 : Int32)), .val (.long (1 : Int64)), .second] [(.long x9), (.long x11), (.long q)])) (own_laload X hx hZ eT V (g := (mkF m 147 #[.val (.long q), .second, .val (.ref a), .val (.int (1 : Int32)), .val (.long (1 : Int64)), .second] [(.int (9 : Int32)), (.ref a), (.long x11), (.long q)])) rfl rfl (hb hby d7_147) (by decide) (Nat.le_of_ble_eq_true rfl) (w := x9) rfl) ?_
                refine own_st (T' := T) (F' := (mkF m 149 #[.val (.long q), .second, .val (.ref a), .val (.int (1 : Int32)), .val (.long (1 : Int64)), .second] [(.long (x11 - x9)), (.long q)])) (fun _ kq => XS.lsub X.here hx rfl (hb hby d7_148) rfl kq) ?_
                refine own_st (T' := T) (F' := (mkF m 150 #[.val (.long q), .second, .val (.ref a), .val (.int (1 : Int32)), .val (.long (1 : Int64)), .second] [(.long (q + (x11 - x9)))])) (fun _ kq => XS.ladd X.here hx rfl (hb hby d7_149) rfl kq) ?_
                refine own_st (T' := T) (F' := (mkF m 152 #[.val (.long q), .second, .val (.ref a), .val (.int (1 : Int32)), .val (.long (1 : Int64)), .second] [(.long (1 : Int64)), (.long (q + (x11 - x9)))])) (fun _ kq => XS.lload X.here hx rfl (hb hby d7_150) rfl kq) ?_
                refine own_st (T' := T) (F' := (mkF m 153 #[.val (.long q), .second, .val (.ref a), .val (.int (1 : Int32)), .val (.long (1 : Int64)), .second] [(.long ((q + (x11 - x9)) + (1 : Int64)))])) (fun _ kq => XS.ladd X.here hx rfl (hb hby d7_152) rfl kq) ?_
                exact own_retL X hx hlk hret (hb hby d7_153) (by decide) (by decide) (own_PQi rfl N eT)
  have N := Fr.nil n0
  refine own_entry (ef7 m q a (1 : Int32)) ?_
  unfold rf1
  refine own_st (T' := T) (F' := (mkF m 1 #[.val (.long q), .second, .val (.ref a), .val (.int (1 : Int32)), .unset, .unset] [(.int (1 : Int32))])) (fun _ kq => XS.iloadN X.here hx rfl (hb hby d7_0) rfl kq) ?_
  refine own_st (T' := T) (F' := (mkF m 4 #[.val (.long q), .second, .val (.ref a), .val (.int (1 : Int32)), .unset, .unset] [])) (fun _ kq => XS.ifNo X.here hx rfl (hb hby d7_1) rfl ((if0 _ _).trans (feq (by decide : ¬ ((1 : Int32) = (0 : Int32)))).1) kq) ?_
  refine own_st (T' := T) (F' := (mkF m 5 #[.val (.long q), .second, .val (.ref a), .val (.int (1 : Int32)), .unset, .unset] [(.long (1 : Int64))])) (fun _ kq => XS.lconst X.here hx rfl (hb hby d7_4) kq) ?_
  refine own_st (T' := T) (F' := (mkF m 9 #[.val (.long q), .second, .val (.ref a), .val (.int (1 : Int32)), .unset, .unset] [(.long (1 : Int64))])) (fun _ kq => XS.goto X.here hx rfl (pc0 := 5) (pc' := 9) rfl (hb hby d7_5) (by decide) (by decide) kq) ?_
  exact J9  T _ X eT N
theorem own_ps_step {xs : List Int64} {en f f' : Int32} {q u b d : Int64} {k : Nat} (h : f < en) (hb' : xs.getD (f + 1).toNatClampNeg 0 = b) (hd' : xs.getD (f + 3).toNatClampNeg 0 = d) (hf : f + 4 = f') : own_ps xs en q (k + 1) f u = if q < b then (f, u) else own_ps xs en q k f' (d - b) := by
  rw [own_ps, if_pos h, hb', hd', hf]
theorem own_ps_end {xs : List Int64} {en f : Int32} {q u : Int64} (k : Nat) (h : ¬ f < en) : own_ps xs en q k f u = (f, u) := by
  cases k with
  | zero => rw [own_ps]
  | succ k => rw [own_ps, if_neg h]
theorem own_nl {y z : Int64} (h : z.toInt ≤ y.toInt) : ¬ y < z := by
  rw [Int64.lt_iff_toInt_lt]; omega
theorem own_yl {y z : Int64} (h : y.toInt < z.toInt) : y < z := by
  rw [Int64.lt_iff_toInt_lt]; exact h
theorem own_l2 {y z : Int64} (h : y < z) : y.toInt < z.toInt := by
  rw [Int64.lt_iff_toInt_lt] at h; exact h
theorem own_n2 {y z : Int64} (h : ¬ y < z) : z.toInt ≤ y.toInt := by
  rw [Int64.lt_iff_toInt_lt] at h; omega
def own_G3 (xs : List Int64) (ms1 me1 ss1 se1 ms2 me2 ss2 se2 ms3 me3 ss3 se3 : Int64) : Prop := xs.getD 0 0 = ms1 ∧ xs.getD 1 0 = me1 ∧ xs.getD 2 0 = ss1 ∧ xs.getD 3 0 = se1 ∧ xs.getD 4 0 = ms2 ∧ xs.getD 5 0 = me2 ∧ xs.getD 6 0 = ss2 ∧ xs.getD 7 0 = se2 ∧ xs.getD 8 0 = ms3 ∧ xs.getD 9 0 = me3 ∧ xs.getD 10 0 = ss3 ∧ xs.getD 11 0 = se3
def own_ok3 (c : Int32) (u q : Int64) (ms1 me1 ss1 se1 ms2 me2 ss2 se2 ms3 me3 ss3 se3 : Int64) : Prop := (c = 0 ∧ u = 0 ∧ q.toInt < me1.toInt) ∨ (c = 4 ∧ u = se1 - me1 ∧ me1.toInt ≤ q.toInt ∧ q.toInt < me2.toInt) ∨ (c = 8 ∧ u = se2 - me2 ∧ me2.toInt ≤ q.toInt ∧ q.toInt < me3.toInt) ∨ (c = 12 ∧ u = se3 - me3 ∧ me3.toInt ≤ q.toInt)
theorem own_start3 {xs : List Int64} {c : Int32} {u q : Int64} {ms1 me1 ss1 se1 ms2 me2 ss2 se2 ms3 me3 ss3 se3 : Int64} (G : own_G3 xs ms1 me1 ss1 se1 ms2 me2 ss2 se2 ms3 me3 ss3 se3) (hp : own_ps xs (12 : Int32) q 3 (0 : Int32) (0 : Int64) = (c, u)) : own_ok3 c u q ms1 me1 ss1 se1 ms2 me2 ss2 se2 ms3 me3 ss3 se3 := by
  obtain ⟨g0_0, g0_1, g0_2, g0_3, g1_0, g1_1, g1_2, g1_3, g2_0, g2_1, g2_2, g2_3⟩ := G
  rw [own_ps_step (en := (12 : Int32)) (f := (0 : Int32)) (f' := (4 : Int32)) (by decide) g0_1 g0_3 rfl] at hp
  by_cases h0 : q < me1
  · rw [if_pos h0] at hp; cases hp; exact Or.inl ⟨rfl, rfl, (own_l2 h0)⟩
  rw [if_neg h0] at hp
  rw [own_ps_step (en := (12 : Int32)) (f := (4 : Int32)) (f' := (8 : Int32)) (by decide) g1_1 g1_3 rfl] at hp
  by_cases h1 : q < me2
  · rw [if_pos h1] at hp; cases hp; exact Or.inr (Or.inl ⟨rfl, rfl, (own_n2 h0), (own_l2 h1)⟩)
  rw [if_neg h1] at hp
  rw [own_ps_step (en := (12 : Int32)) (f := (8 : Int32)) (f' := (12 : Int32)) (by decide) g2_1 g2_3 rfl] at hp
  by_cases h2 : q < me3
  · rw [if_pos h2] at hp; cases hp; exact Or.inr (Or.inr (Or.inl ⟨rfl, rfl, (own_n2 h1), (own_l2 h2)⟩))
  rw [if_neg h2] at hp
  rw [own_ps_end (en := (12 : Int32)) (f := (12 : Int32)) _ (by decide)] at hp
  cases hp; exact Or.inr (Or.inr (Or.inr (⟨rfl, rfl, (own_n2 h2)⟩)))
theorem own_go3 {xs : List Int64} {c0 c : Int32} {u0 u q0 q : Int64} {ms1 me1 ss1 se1 ms2 me2 ss2 se2 ms3 me3 ss3 se3 : Int64} (G : own_G3 xs ms1 me1 ss1 se1 ms2 me2 ss2 se2 ms3 me3 ss3 se3) (hq : q0.toInt ≤ q.toInt) (hp : own_ps xs (12 : Int32) q 3 c0 u0 = (c, u)) (H : own_ok3 c0 u0 q0 ms1 me1 ss1 se1 ms2 me2 ss2 se2 ms3 me3 ss3 se3) : own_ok3 c u q ms1 me1 ss1 se1 ms2 me2 ss2 se2 ms3 me3 ss3 se3 := by
  obtain ⟨g0_0, g0_1, g0_2, g0_3, g1_0, g1_1, g1_2, g1_3, g2_0, g2_1, g2_2, g2_3⟩ := G
  rcases H with ⟨rfl, rfl, hz⟩ | ⟨rfl, rfl, ha, hz⟩ | ⟨rfl, rfl, ha, hz⟩ | ⟨rfl, rfl, ha⟩
  · rw [own_ps_step (en := (12 : Int32)) (f := (0 : Int32)) (f' := (4 : Int32)) (by decide) g0_1 g0_3 rfl] at hp
    by_cases h0 : q < me1
    · rw [if_pos h0] at hp; cases hp; exact Or.inl ⟨rfl, rfl, (own_l2 h0)⟩
    rw [if_neg h0] at hp
    rw [own_ps_step (en := (12 : Int32)) (f := (4 : Int32)) (f' := (8 : Int32)) (by decide) g1_1 g1_3 rfl] at hp
    by_cases h1 : q < me2
    · rw [if_pos h1] at hp; cases hp; exact Or.inr (Or.inl ⟨rfl, rfl, (own_n2 h0), (own_l2 h1)⟩)
    rw [if_neg h1] at hp
    rw [own_ps_step (en := (12 : Int32)) (f := (8 : Int32)) (f' := (12 : Int32)) (by decide) g2_1 g2_3 rfl] at hp
    by_cases h2 : q < me3
    · rw [if_pos h2] at hp; cases hp; exact Or.inr (Or.inr (Or.inl ⟨rfl, rfl, (own_n2 h1), (own_l2 h2)⟩))
    rw [if_neg h2] at hp
    rw [own_ps_end (en := (12 : Int32)) (f := (12 : Int32)) _ (by decide)] at hp
    cases hp; exact Or.inr (Or.inr (Or.inr (⟨rfl, rfl, (own_n2 h2)⟩)))
  · rw [own_ps_step (en := (12 : Int32)) (f := (4 : Int32)) (f' := (8 : Int32)) (by decide) g1_1 g1_3 rfl] at hp
    by_cases h1 : q < me2
    · rw [if_pos h1] at hp; cases hp; exact Or.inr (Or.inl ⟨rfl, rfl, (Int.le_trans ha hq), (own_l2 h1)⟩)
    rw [if_neg h1] at hp
    rw [own_ps_step (en := (12 : Int32)) (f := (8 : Int32)) (f' := (12 : Int32)) (by decide) g2_1 g2_3 rfl] at hp
    by_cases h2 : q < me3
    · rw [if_pos h2] at hp; cases hp; exact Or.inr (Or.inr (Or.inl ⟨rfl, rfl, (own_n2 h1), (own_l2 h2)⟩))
    rw [if_neg h2] at hp
    rw [own_ps_end (en := (12 : Int32)) (f := (12 : Int32)) _ (by decide)] at hp
    cases hp; exact Or.inr (Or.inr (Or.inr (⟨rfl, rfl, (own_n2 h2)⟩)))
  · rw [own_ps_step (en := (12 : Int32)) (f := (8 : Int32)) (f' := (12 : Int32)) (by decide) g2_1 g2_3 rfl] at hp
    by_cases h2 : q < me3
    · rw [if_pos h2] at hp; cases hp; exact Or.inr (Or.inr (Or.inl ⟨rfl, rfl, (Int.le_trans ha hq), (own_l2 h2)⟩))
    rw [if_neg h2] at hp
    rw [own_ps_end (en := (12 : Int32)) (f := (12 : Int32)) _ (by decide)] at hp
    cases hp; exact Or.inr (Or.inr (Or.inr (⟨rfl, rfl, (own_n2 h2)⟩)))
  · rw [own_ps_end (en := (12 : Int32)) (f := (12 : Int32)) _ (by decide)] at hp
    cases hp; exact Or.inr (Or.inr (Or.inr (⟨rfl, rfl, (Int.le_trans ha hq)⟩)))
theorem own_se_in {xs : List Int64} {en f : Int32} {q u b d : Int64} (h : f < en) (hb' : xs.getD f.toNatClampNeg 0 = b) (hd' : xs.getD (f + 3).toNatClampNeg 0 = d) : own_se xs en q f u = if q < b then q + u + 1 else d := by
  unfold own_se f6
  rw [if_pos h, hb', hd']
  by_cases z : q < b
  · rw [if_pos z, if_pos z, if_pos rfl]
  · rw [if_neg z, if_neg z, if_neg (by decide)]
theorem own_se_out {xs : List Int64} {en f : Int32} {q u : Int64} (h : ¬ f < en) : own_se xs en q f u = q + u + 1 := by
  unfold own_se f6
  rw [if_neg h, if_pos rfl]
theorem own_ss_in {xs : List Int64} {en f : Int32} {q u b d : Int64} (h : f < en) (hb' : xs.getD f.toNatClampNeg 0 = b) (hd' : xs.getD (f + 2).toNatClampNeg 0 = d) : own_ss xs en q f u = if q < b then q + u else d := by
  unfold own_ss f6
  rw [if_pos h, hb', hd']
  by_cases z : q < b
  · rw [if_pos z, if_pos z, if_pos rfl]
  · rw [if_neg z, if_neg z, if_neg (by decide)]
theorem own_ss_out {xs : List Int64} {en f : Int32} {q u : Int64} (h : ¬ f < en) : own_ss xs en q f u = q + u := by
  unfold own_ss f6
  rw [if_neg h, if_pos rfl]
theorem own_z7 (z : Int32) : 0 ≤ ((z &&& (7 : Int32)).toInt64).toInt ∧ ((z &&& (7 : Int32)).toInt64).toInt ≤ 7 := by
  rw [c_i2l, c_mask z 7 3 (by decide) (by decide)]; omega
theorem own_z31 (z : Int32) : 0 ≤ ((z &&& (31 : Int32)).toInt64).toInt ∧ ((z &&& (31 : Int32)).toInt64).toInt ≤ 31 := by
  rw [c_i2l, c_mask z 31 5 (by decide) (by decide)]; omega
theorem own_z63 (z : Int32) : 0 ≤ ((z &&& (63 : Int32)).toInt64).toInt ∧ ((z &&& (63 : Int32)).toInt64).toInt ≤ 63 := by
  rw [c_i2l, c_mask z 63 6 (by decide) (by decide)]; omega
theorem own_plus {y d r : Int64} (B k : Int) (h : y + d = r) (hy : 0 ≤ y.toInt ∧ y.toInt ≤ B) (hd : 0 ≤ d.toInt ∧ d.toInt ≤ k) (hB : B + k < 9223372036854775807) : y.toInt ≤ r.toInt ∧ 0 ≤ r.toInt ∧ r.toInt ≤ B + k := by
  have h1 := c_ladd y d
  rw [h] at h1
  have h2 := rng64 r
  omega
theorem own_nums {je base m0 a1 g1 x4 x5 g2 x8 x9 t1 t2 t3 : Int64} {ja z3 z9 z12 z18 z21 jd y6 y11 : Int32} (h1 : (je &&& (1152921504606846975 : Int64)) = base) (h2 : (base + ((ja &&& (7 : Int32)).toInt64)) = m0) (h3 : (m0 + ((z3 &&& (7 : Int32)).toInt64)) = a1) (h4 : ((z9 &&& (7 : Int32)).toInt64) = g1) (h5 : (a1 + g1) = x4) (h6 : (x4 + ((z12 &&& (7 : Int32)).toInt64)) = x5) (h7 : ((z18 &&& (7 : Int32)).toInt64) = g2) (h8 : (x5 + g2) = x8) (h9 : (x8 + ((z21 &&& (7 : Int32)).toInt64)) = x9)
    (h10 : (base + ((jd &&& (63 : Int32)).toInt64)) = t1) (h11 : (t1 + ((y6 &&& (31 : Int32)).toInt64)) = t2) (h12 : (t2 + ((y11 &&& (31 : Int32)).toInt64)) = t3) :
    m0.toInt ≤ a1.toInt ∧ a1.toInt ≤ x4.toInt ∧ x4.toInt ≤ x5.toInt ∧ x5.toInt ≤ x8.toInt ∧ x8.toInt ≤ x9.toInt ∧ t1.toInt ≤ t2.toInt ∧ t2.toInt ≤ t3.toInt := by
  have b0 : 0 ≤ base.toInt ∧ base.toInt ≤ 1152921504606846975 := by
    have := c_maskL je 1152921504606846975 60 (by decide) (by decide)
    rw [h1] at this; omega
  have k1 := own_z7 z9
  rw [h4] at k1
  have k2 := own_z7 z18
  rw [h7] at k2
  have b1 := own_plus _ _ h2 b0 (own_z7 ja) (by decide)
  have b2 := own_plus _ _ h3 b1.2 (own_z7 z3) (by decide)
  have b3 := own_plus _ _ h5 b2.2 k1 (by decide)
  have b4 := own_plus _ _ h6 b3.2 (own_z7 z12) (by decide)
  have b5 := own_plus _ _ h8 b4.2 k2 (by decide)
  have b6 := own_plus _ _ h9 b5.2 (own_z7 z21) (by decide)
  have d1 := own_plus _ _ h10 b0 (own_z63 jd) (by decide)
  have d2 := own_plus _ _ h11 d1.2 (own_z31 y6) (by decide)
  have d3 := own_plus _ _ h12 d2.2 (own_z31 y11) (by decide)
  exact ⟨b2.1, b3.1, b4.1, b5.1, b6.1, d2.1, d3.1⟩
theorem own_get {xs : List Int64} {en : Int32} {m1 m2 s1 s2 : Int64} (k : Nat) (h0 : en.toNatClampNeg = k) (h1 : (en + 1).toNatClampNeg = k + 1) (h2 : (en + 2).toNatClampNeg = k + 2) (h3 : (en + 3).toNatClampNeg = k + 3) (hl : k + 3 < xs.length) : (own_add xs en m1 m2 s1 s2).getD k 0 = m1 ∧ (own_add xs en m1 m2 s1 s2).getD (k + 1) 0 = m2 ∧ (own_add xs en m1 m2 s1 s2).getD (k + 2) 0 = s1 ∧ (own_add xs en m1 m2 s1 s2).getD (k + 3) 0 = s2 ∧ (own_add xs en m1 m2 s1 s2).length = xs.length ∧ ∀ i, i < k → (own_add xs en m1 m2 s1 s2).getD i 0 = xs.getD i 0 := by
  unfold own_add
  rw [h0, h1, h2, h3]
  refine ⟨?_, ?_, ?_, ?_, ?_, fun i hi => ?_⟩
  · simp only [List.getD_eq_getElem?_getD, List.getElem?_set, List.length_set]
    rw [if_neg (by omega), if_neg (by omega), if_neg (by omega), if_pos trivial, if_pos (by omega)]; rfl
  · simp only [List.getD_eq_getElem?_getD, List.getElem?_set, List.length_set]
    rw [if_neg (by omega), if_neg (by omega), if_pos trivial, if_pos (by omega)]; rfl
  · simp only [List.getD_eq_getElem?_getD, List.getElem?_set, List.length_set]
    rw [if_neg (by omega), if_pos trivial, if_pos (by omega)]; rfl
  · simp only [List.getD_eq_getElem?_getD, List.getElem?_set, List.length_set]
    rw [if_pos trivial, if_pos (by omega)]; rfl
  · simp only [List.length_set]
  · simp only [List.getD_eq_getElem?_getD, List.getElem?_set, List.length_set]
    rw [if_neg (by omega), if_neg (by omega), if_neg (by omega), if_neg (by omega)]
theorem own_mkG {xs1 xs2 xs3 : List Int64} {ms1 me1 ss1 se1 ms2 me2 ss2 se2 ms3 me3 ss3 se3 : Int64} (hx1 : xs1 = own_add (List.replicate 64 0) (0 : Int32) ms1 me1 ss1 se1) (hx2 : xs2 = own_add xs1 (4 : Int32) ms2 me2 ss2 se2) (hx3 : xs3 = own_add xs2 (8 : Int32) ms3 me3 ss3 se3) : own_G3 xs3 ms1 me1 ss1 se1 ms2 me2 ss2 se2 ms3 me3 ss3 se3 := by
  have l0 : (List.replicate 64 (0 : Int64)).length = 64 := List.length_replicate
  obtain ⟨a0, a1, a2, a3, al, -⟩ := own_get (xs := List.replicate 64 0) (en := (0 : Int32)) (m1 := ms1) (m2 := me1) (s1 := ss1) (s2 := se1) 0 (by decide) (by decide) (by decide) (by decide) (by rw [l0]; decide)
  rw [← hx1] at a0 a1 a2 a3 al
  obtain ⟨b0, b1, b2, b3, bl, bk⟩ := own_get (xs := xs1) (en := (4 : Int32)) (m1 := ms2) (m2 := me2) (s1 := ss2) (s2 := se2) 4 (by decide) (by decide) (by decide) (by decide) (by rw [al, l0]; decide)
  rw [← hx2] at b0 b1 b2 b3 bl bk
  obtain ⟨c0, c1, c2, c3, cl, ck⟩ := own_get (xs := xs2) (en := (8 : Int32)) (m1 := ms3) (m2 := me3) (s1 := ss3) (s2 := se3) 8 (by decide) (by decide) (by decide) (by decide) (by rw [bl, al, l0]; decide)
  rw [← hx3] at c0 c1 c2 c3 cl ck
  refine ⟨?_, ?_, ?_, ?_, ?_, ?_, ?_, ?_, c0, c1, c2, c3⟩
  · rw [ck 0 (by decide), bk 0 (by decide)]; exact a0
  · rw [ck 1 (by decide), bk 1 (by decide)]; exact a1
  · rw [ck 2 (by decide), bk 2 (by decide)]; exact a2
  · rw [ck 3 (by decide), bk 3 (by decide)]; exact a3
  · rw [ck 4 (by decide)]; exact b0
  · rw [ck 5 (by decide)]; exact b1
  · rw [ck 6 (by decide)]; exact b2
  · rw [ck 7 (by decide)]; exact b3
theorem own_vs {xs : List Int64} {c : Int32} {u q ms1 me1 ss1 se1 ms2 me2 ss2 se2 ms3 me3 ss3 se3 t1 t2 t3 : Int64} (G : own_G3 xs ms1 me1 ss1 se1 ms2 me2 ss2 se2 ms3 me3 ss3 se3) (hn : ms1.toInt ≤ me1.toInt ∧ me1.toInt ≤ ms2.toInt ∧ ms2.toInt ≤ me2.toInt ∧ me2.toInt ≤ ms3.toInt ∧ ms3.toInt ≤ me3.toInt ∧ t1.toInt ≤ t2.toInt ∧ t2.toInt ≤ t3.toInt) (H : own_ok3 c u q ms1 me1 ss1 se1 ms2 me2 ss2 se2 ms3 me3 ss3 se3) :
    own_ss xs (12 : Int32) q c u = rf0 q ms1 me1 ss1 se1 ms2 me2 ss2 se2 ms3 me3 ss3 se3 := by
  obtain ⟨g0_0, g0_1, g0_2, g0_3, g1_0, g1_1, g1_2, g1_3, g2_0, g2_1, g2_2, g2_3⟩ := G
  obtain ⟨n1, n2, n3, n4, n5, -, -⟩ := hn
  unfold rf0 rf0_9
  rcases H with ⟨rfl, rfl, hz⟩ | ⟨rfl, rfl, ha, hz⟩ | ⟨rfl, rfl, ha, hz⟩ | ⟨rfl, rfl, ha⟩
  · rw [own_ss_in (f := (0 : Int32)) (by decide) g0_0 g0_2]
    by_cases h : q < ms1
    · rw [if_pos h, if_pos h]
    · rw [if_neg h, if_neg h, if_pos (own_yl hz)]
  · rw [own_ss_in (f := (4 : Int32)) (by decide) g1_0 g1_2]
    rw [if_neg (own_nl (y := q) (z := ms1) (by omega)), if_neg (own_nl (y := q) (z := me1) (by omega))]
    by_cases h : q < ms2
    · rw [if_pos h, if_pos h, Int64.add_zero]
    · rw [if_neg h, if_neg h, if_pos (own_yl hz)]
  · rw [own_ss_in (f := (8 : Int32)) (by decide) g2_0 g2_2]
    rw [if_neg (own_nl (y := q) (z := ms1) (by omega)), if_neg (own_nl (y := q) (z := me1) (by omega)), if_neg (own_nl (y := q) (z := ms2) (by omega)), if_neg (own_nl (y := q) (z := me2) (by omega))]
    by_cases h : q < ms3
    · rw [if_pos h, if_pos h, Int64.add_zero]
    · rw [if_neg h, if_neg h, if_pos (own_yl hz)]
  · rw [own_ss_out (f := (12 : Int32)) (by decide)]
    rw [if_neg (own_nl (y := q) (z := ms1) (by omega)), if_neg (own_nl (y := q) (z := me1) (by omega)), if_neg (own_nl (y := q) (z := ms2) (by omega)), if_neg (own_nl (y := q) (z := me2) (by omega)), if_neg (own_nl (y := q) (z := ms3) (by omega)), if_neg (own_nl (y := q) (z := me3) (by omega)), Int64.add_zero]
theorem own_ve {xs : List Int64} {c : Int32} {u q ms1 me1 ss1 se1 ms2 me2 ss2 se2 ms3 me3 ss3 se3 t1 t2 t3 : Int64} (G : own_G3 xs ms1 me1 ss1 se1 ms2 me2 ss2 se2 ms3 me3 ss3 se3) (hn : ms1.toInt ≤ me1.toInt ∧ me1.toInt ≤ ms2.toInt ∧ ms2.toInt ≤ me2.toInt ∧ me2.toInt ≤ ms3.toInt ∧ ms3.toInt ≤ me3.toInt ∧ t1.toInt ≤ t2.toInt ∧ t2.toInt ≤ t3.toInt) (H : own_ok3 c u q ms1 me1 ss1 se1 ms2 me2 ss2 se2 ms3 me3 ss3 se3) :
    own_se xs (12 : Int32) q c u = rf1 q ms1 me1 se1 ms2 me2 se2 ms3 me3 se3 := by
  obtain ⟨g0_0, g0_1, g0_2, g0_3, g1_0, g1_1, g1_2, g1_3, g2_0, g2_1, g2_2, g2_3⟩ := G
  obtain ⟨n1, n2, n3, n4, n5, -, -⟩ := hn
  unfold rf1 rf1_9
  rcases H with ⟨rfl, rfl, hz⟩ | ⟨rfl, rfl, ha, hz⟩ | ⟨rfl, rfl, ha, hz⟩ | ⟨rfl, rfl, ha⟩
  · rw [own_se_in (f := (0 : Int32)) (by decide) g0_0 g0_3]
    by_cases h : q < ms1
    · rw [if_pos h, if_pos h, Int64.add_zero]
    · rw [if_neg h, if_neg h, if_pos (own_yl hz)]
  · rw [own_se_in (f := (4 : Int32)) (by decide) g1_0 g1_3]
    rw [if_neg (own_nl (y := q) (z := ms1) (by omega)), if_neg (own_nl (y := q) (z := me1) (by omega))]
    by_cases h : q < ms2
    · rw [if_pos h, if_pos h]
    · rw [if_neg h, if_neg h, if_pos (own_yl hz)]
  · rw [own_se_in (f := (8 : Int32)) (by decide) g2_0 g2_3]
    rw [if_neg (own_nl (y := q) (z := ms1) (by omega)), if_neg (own_nl (y := q) (z := me1) (by omega)), if_neg (own_nl (y := q) (z := ms2) (by omega)), if_neg (own_nl (y := q) (z := me2) (by omega))]
    by_cases h : q < ms3
    · rw [if_pos h, if_pos h]
    · rw [if_neg h, if_neg h, if_pos (own_yl hz)]
  · rw [own_se_out (f := (12 : Int32)) (by decide)]
    rw [if_neg (own_nl (y := q) (z := ms1) (by omega)), if_neg (own_nl (y := q) (z := me1) (by omega)), if_neg (own_nl (y := q) (z := ms2) (by omega)), if_neg (own_nl (y := q) (z := me2) (by omega)), if_neg (own_nl (y := q) (z := ms3) (by omega)), if_neg (own_nl (y := q) (z := me3) (by omega))]
theorem ef0 (m : MethodId) (x0 : Int32) (x1 : Int32) (x2 : Int64) : entryFrame m #[(.int x0), (.int x1), (.long x2)] maxLocals = mkF m 0 #[.val (.int x0), .val (.int x1), .val (.long x2), .second, .unset, .unset, .unset, .unset, .unset, .unset, .unset, .unset, .unset, .unset, .unset, .unset, .unset, .unset, .unset, .unset, .unset] [] := by first | (simp [entryFrame, mkF, argsToLocals, Value.category, maxLocals]; done) | rfl
theorem pd2 : parseMethodDescriptor "()V" = some ⟨[], none⟩ := by decide +kernel
theorem pd3 : parseMethodDescriptor "(JJJJ)V" = some ⟨[.long, .long, .long, .long], none⟩ := by decide +kernel
theorem pd4 : parseMethodDescriptor "(J)J" = some ⟨[.long], some .long⟩ := by decide +kernel
theorem pd5 : parseMethodDescriptor "(J[JZ)J" = some ⟨[.long, (.array .long), .boolean], some .long⟩ := by decide +kernel
set_option maxRecDepth 65536 in
set_option maxHeartbeats 80000000 in
theorem rm0 (l : Launch) (Z : State) (a0 : Array Value) (hw : ∀ d ∈ tables_1, d.before a0 Z = true) (ws : List Jvm.Cond) (ja : Int32) (jd : Int32) (je : Int64) (h0 : Heap) (n0 : Nat) (Z0 : n0 ≤ h0.size) :
    own_Met l Z x code maxLocals ret ws room_1 #[(.int ja), (.int jd), (.long je)] h0 (fun v h L => v = some (.int 1) ∧ Fr n0 L) := by
  refine own_body (plainFor_of_name pn1) ?_
  intro p e s m below meth c T0 X0 hx hby hml hret hlk hZ hown hnm e0
  replace hml : c.maxLocals = 21 := hml
  have N0 := Fr.nil n0
  refine own_entry (ef0 m ja jd je) ?_
  refine own_st (T' := T0) (F' := (mkF m 1 #[.val (.int ja), .val (.int jd), .val (.long je), .second, .unset, .unset, .unset, .unset, .unset, .unset, .unset, .unset, .unset, .unset, .unset, .unset, .unset, .unset, .unset, .unset, .unset] [(.long je)])) (fun _ kq => XS.lloadN X0.here hx rfl (hb hby at_0) rfl kq) ?_
  refine own_st (T' := T0) (F' := (mkF m 4 #[.val (.int ja), .val (.int jd), .val (.long je), .second, .unset, .unset, .unset, .unset, .unset, .unset, .unset, .unset, .unset, .unset, .unset, .unset, .unset, .unset, .unset, .unset, .unset] [(.long (1152921504606846975 : Int64)), (.long je)])) (fun _ kq => X0.ldc2Long hx hown (mvT hZ (hw _ (List.mem_of_getElem? (i := 0) rfl))) (g := (mkF m 1 #[.val (.int ja), .val (.int jd), .val (.long je), .second, .unset, .unset, .unset, .unset, .unset, .unset, .unset, .unset, .unset, .unset, .unset, .unset, .unset, .unset, .unset, .unset, .unset] [(.long je)])) rfl (hb hby at_1) _ kq) ?_
  refine own_st (T' := T0) (F' := (mkF m 5 #[.val (.int ja), .val (.int jd), .val (.long je), .second, .unset, .unset, .unset, .unset, .unset, .unset, .unset, .unset, .unset, .unset, .unset, .unset, .unset, .unset, .unset, .unset, .unset] [(.long (je &&& (1152921504606846975 : Int64)))])) (fun _ kq => XS.land X0.here hx rfl (hb hby at_4) rfl kq) ?_
  generalize hv75 : (je &&& (1152921504606846975 : Int64)) = v75
  refine own_st (T' := T0) (F' := (mkF m 7 #[.val (.int ja), .val (.int jd), .val (.long je), .second, .val (.long v75), .second, .unset, .unset, .unset, .unset, .unset, .unset, .unset, .unset, .unset, .unset, .unset, .unset, .unset, .unset, .unset] [])) (fun _ kq => XS.lstore X0.here hx rfl (hb hby at_5) rfl (l' := #[.val (.int ja), .val (.int jd), .val (.long je), .second, .val (.long v75), .second, .unset, .unset, .unset, .unset, .unset, .unset, .unset, .unset, .unset, .unset, .unset, .unset, .unset, .unset, .unset]) rfl kq) ?_
  refine own_st (T' := T0) (F' := (mkF m 9 #[.val (.int ja), .val (.int jd), .val (.long je), .second, .val (.long v75), .second, .unset, .unset, .unset, .unset, .unset, .unset, .unset, .unset, .unset, .unset, .unset, .unset, .unset, .unset, .unset] [(.int (12 : Int32))])) (fun _ kq => XS.bipush X0.here hx rfl (hb hby at_7) kq) ?_
  obtain ⟨T76, h76, b76, X76, e76, E76, g76, gb76, Z76, V76, st76⟩ := own_newJ X0 hx hZ (hw _ (List.mem_of_getElem? (i := 1) rfl)) e0 Z0 (g := (mkF m 9 #[.val (.int ja), .val (.int jd), .val (.long je), .second, .val (.long v75), .second, .unset, .unset, .unset, .unset, .unset, .unset, .unset, .unset, .unset, .unset, .unset, .unset, .unset, .unset, .unset] [(.int (12 : Int32))])) rfl rfl (hb hby at_9) (by decide) 12 12 rfl (by decide) (by decide) (by decide) (by decide)
  refine own_st (T' := T76) (F' := (mkF m 11 #[.val (.int ja), .val (.int jd), .val (.long je), .second, .val (.long v75), .second, .unset, .unset, .unset, .unset, .unset, .unset, .unset, .unset, .unset, .unset, .unset, .unset, .unset, .unset, .unset] [(.ref b76)])) (st76) ?_
  refine own_st (T' := T76) (F' := (mkF m 13 #[.val (.int ja), .val (.int jd), .val (.long je), .second, .val (.long v75), .second, .val (.ref b76), .unset, .unset, .unset, .unset, .unset, .unset, .unset, .unset, .unset, .unset, .unset, .unset, .unset, .unset] [])) (fun _ kq => XS.astore X76.here hx rfl (hb hby at_11) rfl rfl (l' := #[.val (.int ja), .val (.int jd), .val (.long je), .second, .val (.long v75), .second, .val (.ref b76), .unset, .unset, .unset, .unset, .unset, .unset, .unset, .unset, .unset, .unset, .unset, .unset, .unset, .unset]) rfl kq) ?_
  refine own_st (T' := T76) (F' := (mkF m 15 #[.val (.int ja), .val (.int jd), .val (.long je), .second, .val (.long v75), .second, .val (.ref b76), .unset, .unset, .unset, .unset, .unset, .unset, .unset, .unset, .unset, .unset, .unset, .unset, .unset, .unset] [(.long v75)])) (fun _ kq => XS.lload X76.here hx rfl (hb hby at_13) rfl kq) ?_
  refine own_st (T' := T76) (F' := (mkF m 16 #[.val (.int ja), .val (.int jd), .val (.long je), .second, .val (.long v75), .second, .val (.ref b76), .unset, .unset, .unset, .unset, .unset, .unset, .unset, .unset, .unset, .unset, .unset, .unset, .unset, .unset] [(.int ja), (.long v75)])) (fun _ kq => XS.iloadN X76.here hx rfl (hb hby at_15) rfl kq) ?_
  refine own_st (T' := T76) (F' := (mkF m 18 #[.val (.int ja), .val (.int jd), .val (.long je), .second, .val (.long v75), .second, .val (.ref b76), .unset, .unset, .unset, .unset, .unset, .unset, .unset, .unset, .unset, .unset, .unset, .unset, .unset, .unset] [(.int (7 : Int32)), (.int ja), (.long v75)])) (fun _ kq => XS.bipush X76.here hx rfl (hb hby at_16) kq) ?_
  refine own_st (T' := T76) (F' := (mkF m 19 #[.val (.int ja), .val (.int jd), .val (.long je), .second, .val (.long v75), .second, .val (.ref b76), .unset, .unset, .unset, .unset, .unset, .unset, .unset, .unset, .unset, .unset, .unset, .unset, .unset, .unset] [(.int (ja &&& (7 : Int32))), (.long v75)])) (fun _ kq => XS.iand X76.here hx rfl (hb hby at_18) rfl kq) ?_
  refine own_st (T' := T76) (F' := (mkF m 20 #[.val (.int ja), .val (.int jd), .val (.long je), .second, .val (.long v75), .second, .val (.ref b76), .unset, .unset, .unset, .unset, .unset, .unset, .unset, .unset, .unset, .unset, .unset, .unset, .unset, .unset] [(.long ((ja &&& (7 : Int32)).toInt64)), (.long v75)])) (fun _ kq => XS.i2l X76.here hx rfl (hb hby at_19) rfl kq) ?_
  refine own_st (T' := T76) (F' := (mkF m 21 #[.val (.int ja), .val (.int jd), .val (.long je), .second, .val (.long v75), .second, .val (.ref b76), .unset, .unset, .unset, .unset, .unset, .unset, .unset, .unset, .unset, .unset, .unset, .unset, .unset, .unset] [(.long (v75 + ((ja &&& (7 : Int32)).toInt64)))])) (fun _ kq => XS.ladd X76.here hx rfl (hb hby at_20) rfl kq) ?_
  generalize hv78 : (v75 + ((ja &&& (7 : Int32)).toInt64)) = v78
  refine own_st (T' := T76) (F' := (mkF m 23 #[.val (.int ja), .val (.int jd), .val (.long je), .second, .val (.long v75), .second, .val (.ref b76), .val (.long v78), .second, .unset, .unset, .unset, .unset, .unset, .unset, .unset, .unset, .unset, .unset, .unset, .unset] [])) (fun _ kq => XS.lstore X76.here hx rfl (hb hby at_21) rfl (l' := #[.val (.int ja), .val (.int jd), .val (.long je), .second, .val (.long v75), .second, .val (.ref b76), .val (.long v78), .second, .unset, .unset, .unset, .unset, .unset, .unset, .unset, .unset, .unset, .unset, .unset, .unset]) rfl kq) ?_
  refine own_st (T' := T76) (F' := (mkF m 25 #[.val (.int ja), .val (.int jd), .val (.long je), .second, .val (.long v75), .second, .val (.ref b76), .val (.long v78), .second, .unset, .unset, .unset, .unset, .unset, .unset, .unset, .unset, .unset, .unset, .unset, .unset] [(.ref b76)])) (fun _ kq => XS.aload X76.here hx rfl (hb hby at_23) rfl rfl kq) ?_
  refine own_st (T' := T76) (F' := (mkF m 26 #[.val (.int ja), .val (.int jd), .val (.long je), .second, .val (.long v75), .second, .val (.ref b76), .val (.long v78), .second, .unset, .unset, .unset, .unset, .unset, .unset, .unset, .unset, .unset, .unset, .unset, .unset] [(.int (0 : Int32)), (.ref b76)])) (fun _ kq => XS.iconst X76.here hx rfl (hb hby at_25) kq) ?_
  refine own_st (T' := T76) (F' := (mkF m 28 #[.val (.int ja), .val (.int jd), .val (.long je), .second, .val (.long v75), .second, .val (.ref b76), .val (.long v78), .second, .unset, .unset, .unset, .unset, .unset, .unset, .unset, .unset, .unset, .unset, .unset, .unset] [(.long v78), (.int (0 : Int32)), (.ref b76)])) (fun _ kq => XS.lload X76.here hx rfl (hb hby at_26) rfl kq) ?_
  obtain ⟨T79, h79, locs79, X79, e79, N79, W79, V79, st79⟩ := own_stJ X76 hx hZ e76 N0 (ys := [v78, (0 : Int64), (0 : Int64), (0 : Int64), (0 : Int64), (0 : Int64), (0 : Int64), (0 : Int64), (0 : Int64), (0 : Int64), (0 : Int64), (0 : Int64)]) V76 gb76 (g := (mkF m 28 #[.val (.int ja), .val (.int jd), .val (.long je), .second, .val (.long v75), .second, .val (.ref b76), .val (.long v78), .second, .unset, .unset, .unset, .unset, .unset, .unset, .unset, .unset, .unset, .unset, .unset, .unset] [(.long v78), (.int (0 : Int32)), (.ref b76)])) rfl rfl (hb hby at_28) (by decide) (Nat.le_of_ble_eq_true rfl) rfl
  have Z79 : n0 ≤ h79.size := by rw [W79.size]; exact Z76
  refine own_st (T' := T79) (F' := (mkF m 29 #[.val (.int ja), .val (.int jd), .val (.long je), .second, .val (.long v75), .second, .val (.ref b76), .val (.long v78), .second, .unset, .unset, .unset, .unset, .unset, .unset, .unset, .unset, .unset, .unset, .unset, .unset] [])) (st79) ?_
  refine own_st (T' := T79) (F' := (mkF m 31 #[.val (.int ja), .val (.int jd), .val (.long je), .second, .val (.long v75), .second, .val (.ref b76), .val (.long v78), .second, .unset, .unset, .unset, .unset, .unset, .unset, .unset, .unset, .unset, .unset, .unset, .unset] [(.ref b76)])) (fun _ kq => XS.aload X79.here hx rfl (hb hby at_29) rfl rfl kq) ?_
  refine own_st (T' := T79) (F' := (mkF m 32 #[.val (.int ja), .val (.int jd), .val (.long je), .second, .val (.long v75), .second, .val (.ref b76), .val (.long v78), .second, .unset, .unset, .unset, .unset, .unset, .unset, .unset, .unset, .unset, .unset, .unset, .unset] [(.int (1 : Int32)), (.ref b76)])) (fun _ kq => XS.iconst X79.here hx rfl (hb hby at_31) kq) ?_
  refine own_st (T' := T79) (F' := (mkF m 34 #[.val (.int ja), .val (.int jd), .val (.long je), .second, .val (.long v75), .second, .val (.ref b76), .val (.long v78), .second, .unset, .unset, .unset, .unset, .unset, .unset, .unset, .unset, .unset, .unset, .unset, .unset] [(.long v78), (.int (1 : Int32)), (.ref b76)])) (fun _ kq => XS.lload X79.here hx rfl (hb hby at_32) rfl kq) ?_
  refine own_st (T' := T79) (F' := (mkF m 35 #[.val (.int ja), .val (.int jd), .val (.long je), .second, .val (.long v75), .second, .val (.ref b76), .val (.long v78), .second, .unset, .unset, .unset, .unset, .unset, .unset, .unset, .unset, .unset, .unset, .unset, .unset] [(.int ja), (.long v78), (.int (1 : Int32)), (.ref b76)])) (fun _ kq => XS.iloadN X79.here hx rfl (hb hby at_34) rfl kq) ?_
  refine own_st (T' := T79) (F' := (mkF m 36 #[.val (.int ja), .val (.int jd), .val (.long je), .second, .val (.long v75), .second, .val (.ref b76), .val (.long v78), .second, .unset, .unset, .unset, .unset, .unset, .unset, .unset, .unset, .unset, .unset, .unset, .unset] [(.int (3 : Int32)), (.int ja), (.long v78), (.int (1 : Int32)), (.ref b76)])) (fun _ kq => XS.iconst X79.here hx rfl (hb hby at_35) kq) ?_
  refine own_st (T' := T79) (F' := (mkF m 37 #[.val (.int ja), .val (.int jd), .val (.long je), .second, .val (.long v75), .second, .val (.ref b76), .val (.long v78), .second, .unset, .unset, .unset, .unset, .unset, .unset, .unset, .unset, .unset, .unset, .unset, .unset] [(.int ((ja.toUInt32 >>> ((3 : Int32) &&& 31).toUInt32).toInt32)), (.long v78), (.int (1 : Int32)), (.ref b76)])) (fun _ kq => XS.iushr X79.here hx rfl (hb hby at_36) rfl kq) ?_
  refine own_st (T' := T79) (F' := (mkF m 39 #[.val (.int ja), .val (.int jd), .val (.long je), .second, .val (.long v75), .second, .val (.ref b76), .val (.long v78), .second, .unset, .unset, .unset, .unset, .unset, .unset, .unset, .unset, .unset, .unset, .unset, .unset] [(.int (7 : Int32)), (.int ((ja.toUInt32 >>> ((3 : Int32) &&& 31).toUInt32).toInt32)), (.long v78), (.int (1 : Int32)), (.ref b76)])) (fun _ kq => XS.bipush X79.here hx rfl (hb hby at_37) kq) ?_
  refine own_st (T' := T79) (F' := (mkF m 40 #[.val (.int ja), .val (.int jd), .val (.long je), .second, .val (.long v75), .second, .val (.ref b76), .val (.long v78), .second, .unset, .unset, .unset, .unset, .unset, .unset, .unset, .unset, .unset, .unset, .unset, .unset] [(.int (((ja.toUInt32 >>> ((3 : Int32) &&& 31).toUInt32).toInt32) &&& (7 : Int32))), (.long v78), (.int (1 : Int32)), (.ref b76)])) (fun _ kq => XS.iand X79.here hx rfl (hb hby at_39) rfl kq) ?_
  refine own_st (T' := T79) (F' := (mkF m 41 #[.val (.int ja), .val (.int jd), .val (.long je), .second, .val (.long v75), .second, .val (.ref b76), .val (.long v78), .second, .unset, .unset, .unset, .unset, .unset, .unset, .unset, .unset, .unset, .unset, .unset, .unset] [(.long ((((ja.toUInt32 >>> ((3 : Int32) &&& 31).toUInt32).toInt32) &&& (7 : Int32)).toInt64)), (.long v78), (.int (1 : Int32)), (.ref b76)])) (fun _ kq => XS.i2l X79.here hx rfl (hb hby at_40) rfl kq) ?_
  refine own_st (T' := T79) (F' := (mkF m 42 #[.val (.int ja), .val (.int jd), .val (.long je), .second, .val (.long v75), .second, .val (.ref b76), .val (.long v78), .second, .unset, .unset, .unset, .unset, .unset, .unset, .unset, .unset, .unset, .unset, .unset, .unset] [(.long (v78 + ((((ja.toUInt32 >>> ((3 : Int32) &&& 31).toUInt32).toInt32) &&& (7 : Int32)).toInt64))), (.int (1 : Int32)), (.ref b76)])) (fun _ kq => XS.ladd X79.here hx rfl (hb hby at_41) rfl kq) ?_
  generalize hv81 : (v78 + ((((ja.toUInt32 >>> ((3 : Int32) &&& 31).toUInt32).toInt32) &&& (7 : Int32)).toInt64)) = v81
  obtain ⟨T82, h82, locs82, X82, e82, N82, W82, V82, st82⟩ := own_stJ X79 hx hZ e79 N79 (ys := [v78, v81, (0 : Int64), (0 : Int64), (0 : Int64), (0 : Int64), (0 : Int64), (0 : Int64), (0 : Int64), (0 : Int64), (0 : Int64), (0 : Int64)]) V79 gb76 (g := (mkF m 42 #[.val (.int ja), .val (.int jd), .val (.long je), .second, .val (.long v75), .second, .val (.ref b76), .val (.long v78), .second, .unset, .unset, .unset, .unset, .unset, .unset, .unset, .unset, .unset, .unset, .unset, .unset] [(.long v81), (.int (1 : Int32)), (.ref b76)])) rfl rfl (hb hby at_42) (by decide) (Nat.le_of_ble_eq_true rfl) rfl
  have Z82 : n0 ≤ h82.size := by rw [W82.size]; exact Z79
  refine own_st (T' := T82) (F' := (mkF m 43 #[.val (.int ja), .val (.int jd), .val (.long je), .second, .val (.long v75), .second, .val (.ref b76), .val (.long v78), .second, .unset, .unset, .unset, .unset, .unset, .unset, .unset, .unset, .unset, .unset, .unset, .unset] [])) (st82) ?_
  refine own_st (T' := T82) (F' := (mkF m 45 #[.val (.int ja), .val (.int jd), .val (.long je), .second, .val (.long v75), .second, .val (.ref b76), .val (.long v78), .second, .unset, .unset, .unset, .unset, .unset, .unset, .unset, .unset, .unset, .unset, .unset, .unset] [(.ref b76)])) (fun _ kq => XS.aload X82.here hx rfl (hb hby at_43) rfl rfl kq) ?_
  refine own_st (T' := T82) (F' := (mkF m 46 #[.val (.int ja), .val (.int jd), .val (.long je), .second, .val (.long v75), .second, .val (.ref b76), .val (.long v78), .second, .unset, .unset, .unset, .unset, .unset, .unset, .unset, .unset, .unset, .unset, .unset, .unset] [(.int (2 : Int32)), (.ref b76)])) (fun _ kq => XS.iconst X82.here hx rfl (hb hby at_45) kq) ?_
  refine own_st (T' := T82) (F' := (mkF m 48 #[.val (.int ja), .val (.int jd), .val (.long je), .second, .val (.long v75), .second, .val (.ref b76), .val (.long v78), .second, .unset, .unset, .unset, .unset, .unset, .unset, .unset, .unset, .unset, .unset, .unset, .unset] [(.long v78), (.int (2 : Int32)), (.ref b76)])) (fun _ kq => XS.lload X82.here hx rfl (hb hby at_46) rfl kq) ?_
  obtain ⟨T84, h84, locs84, X84, e84, N84, W84, V84, st84⟩ := own_stJ X82 hx hZ e82 N82 (ys := [v78, v81, v78, (0 : Int64), (0 : Int64), (0 : Int64), (0 : Int64), (0 : Int64), (0 : Int64), (0 : Int64), (0 : Int64), (0 : Int64)]) V82 gb76 (g := (mkF m 48 #[.val (.int ja), .val (.int jd), .val (.long je), .second, .val (.long v75), .second, .val (.ref b76), .val (.long v78), .second, .unset, .unset, .unset, .unset, .unset, .unset, .unset, .unset, .unset, .unset, .unset, .unset] [(.long v78), (.int (2 : Int32)), (.ref b76)])) rfl rfl (hb hby at_48) (by decide) (Nat.le_of_ble_eq_true rfl) rfl
  have Z84 : n0 ≤ h84.size := by rw [W84.size]; exact Z82
  refine own_st (T' := T84) (F' := (mkF m 49 #[.val (.int ja), .val (.int jd), .val (.long je), .second, .val (.long v75), .second, .val (.ref b76), .val (.long v78), .second, .unset, .unset, .unset, .unset, .unset, .unset, .unset, .unset, .unset, .unset, .unset, .unset] [])) (st84) ?_
  refine own_st (T' := T84) (F' := (mkF m 51 #[.val (.int ja), .val (.int jd), .val (.long je), .second, .val (.long v75), .second, .val (.ref b76), .val (.long v78), .second, .unset, .unset, .unset, .unset, .unset, .unset, .unset, .unset, .unset, .unset, .unset, .unset] [(.ref b76)])) (fun _ kq => XS.aload X84.here hx rfl (hb hby at_49) rfl rfl kq) ?_
  refine own_st (T' := T84) (F' := (mkF m 52 #[.val (.int ja), .val (.int jd), .val (.long je), .second, .val (.long v75), .second, .val (.ref b76), .val (.long v78), .second, .unset, .unset, .unset, .unset, .unset, .unset, .unset, .unset, .unset, .unset, .unset, .unset] [(.int (3 : Int32)), (.ref b76)])) (fun _ kq => XS.iconst X84.here hx rfl (hb hby at_51) kq) ?_
  refine own_st (T' := T84) (F' := (mkF m 54 #[.val (.int ja), .val (.int jd), .val (.long je), .second, .val (.long v75), .second, .val (.ref b76), .val (.long v78), .second, .unset, .unset, .unset, .unset, .unset, .unset, .unset, .unset, .unset, .unset, .unset, .unset] [(.long v78), (.int (3 : Int32)), (.ref b76)])) (fun _ kq => XS.lload X84.here hx rfl (hb hby at_52) rfl kq) ?_
  refine own_st (T' := T84) (F' := (mkF m 55 #[.val (.int ja), .val (.int jd), .val (.long je), .second, .val (.long v75), .second, .val (.ref b76), .val (.long v78), .second, .unset, .unset, .unset, .unset, .unset, .unset, .unset, .unset, .unset, .unset, .unset, .unset] [(.int ja), (.long v78), (.int (3 : Int32)), (.ref b76)])) (fun _ kq => XS.iloadN X84.here hx rfl (hb hby at_54) rfl kq) ?_
  refine own_st (T' := T84) (F' := (mkF m 57 #[.val (.int ja), .val (.int jd), .val (.long je), .second, .val (.long v75), .second, .val (.ref b76), .val (.long v78), .second, .unset, .unset, .unset, .unset, .unset, .unset, .unset, .unset, .unset, .unset, .unset, .unset] [(.int (6 : Int32)), (.int ja), (.long v78), (.int (3 : Int32)), (.ref b76)])) (fun _ kq => XS.bipush X84.here hx rfl (hb hby at_55) kq) ?_
  refine own_st (T' := T84) (F' := (mkF m 58 #[.val (.int ja), .val (.int jd), .val (.long je), .second, .val (.long v75), .second, .val (.ref b76), .val (.long v78), .second, .unset, .unset, .unset, .unset, .unset, .unset, .unset, .unset, .unset, .unset, .unset, .unset] [(.int ((ja.toUInt32 >>> ((6 : Int32) &&& 31).toUInt32).toInt32)), (.long v78), (.int (3 : Int32)), (.ref b76)])) (fun _ kq => XS.iushr X84.here hx rfl (hb hby at_57) rfl kq) ?_
  refine own_st (T' := T84) (F' := (mkF m 60 #[.val (.int ja), .val (.int jd), .val (.long je), .second, .val (.long v75), .second, .val (.ref b76), .val (.long v78), .second, .unset, .unset, .unset, .unset, .unset, .unset, .unset, .unset, .unset, .unset, .unset, .unset] [(.int (7 : Int32)), (.int ((ja.toUInt32 >>> ((6 : Int32) &&& 31).toUInt32).toInt32)), (.long v78), (.int (3 : Int32)), (.ref b76)])) (fun _ kq => XS.bipush X84.here hx rfl (hb hby at_58) kq) ?_
  refine own_st (T' := T84) (F' := (mkF m 61 #[.val (.int ja), .val (.int jd), .val (.long je), .second, .val (.long v75), .second, .val (.ref b76), .val (.long v78), .second, .unset, .unset, .unset, .unset, .unset, .unset, .unset, .unset, .unset, .unset, .unset, .unset] [(.int (((ja.toUInt32 >>> ((6 : Int32) &&& 31).toUInt32).toInt32) &&& (7 : Int32))), (.long v78), (.int (3 : Int32)), (.ref b76)])) (fun _ kq => XS.iand X84.here hx rfl (hb hby at_60) rfl kq) ?_
  refine own_st (T' := T84) (F' := (mkF m 62 #[.val (.int ja), .val (.int jd), .val (.long je), .second, .val (.long v75), .second, .val (.ref b76), .val (.long v78), .second, .unset, .unset, .unset, .unset, .unset, .unset, .unset, .unset, .unset, .unset, .unset, .unset] [(.long ((((ja.toUInt32 >>> ((6 : Int32) &&& 31).toUInt32).toInt32) &&& (7 : Int32)).toInt64)), (.long v78), (.int (3 : Int32)), (.ref b76)])) (fun _ kq => XS.i2l X84.here hx rfl (hb hby at_61) rfl kq) ?_
  refine own_st (T' := T84) (F' := (mkF m 63 #[.val (.int ja), .val (.int jd), .val (.long je), .second, .val (.long v75), .second, .val (.ref b76), .val (.long v78), .second, .unset, .unset, .unset, .unset, .unset, .unset, .unset, .unset, .unset, .unset, .unset, .unset] [(.long (v78 + ((((ja.toUInt32 >>> ((6 : Int32) &&& 31).toUInt32).toInt32) &&& (7 : Int32)).toInt64))), (.int (3 : Int32)), (.ref b76)])) (fun _ kq => XS.ladd X84.here hx rfl (hb hby at_62) rfl kq) ?_
  generalize hv86 : (v78 + ((((ja.toUInt32 >>> ((6 : Int32) &&& 31).toUInt32).toInt32) &&& (7 : Int32)).toInt64)) = v86
  obtain ⟨T87, h87, locs87, X87, e87, N87, W87, V87, st87⟩ := own_stJ X84 hx hZ e84 N84 (ys := [v78, v81, v78, v86, (0 : Int64), (0 : Int64), (0 : Int64), (0 : Int64), (0 : Int64), (0 : Int64), (0 : Int64), (0 : Int64)]) V84 gb76 (g := (mkF m 63 #[.val (.int ja), .val (.int jd), .val (.long je), .second, .val (.long v75), .second, .val (.ref b76), .val (.long v78), .second, .unset, .unset, .unset, .unset, .unset, .unset, .unset, .unset, .unset, .unset, .unset, .unset] [(.long v86), (.int (3 : Int32)), (.ref b76)])) rfl rfl (hb hby at_63) (by decide) (Nat.le_of_ble_eq_true rfl) rfl
  have Z87 : n0 ≤ h87.size := by rw [W87.size]; exact Z84
  refine own_st (T' := T87) (F' := (mkF m 64 #[.val (.int ja), .val (.int jd), .val (.long je), .second, .val (.long v75), .second, .val (.ref b76), .val (.long v78), .second, .unset, .unset, .unset, .unset, .unset, .unset, .unset, .unset, .unset, .unset, .unset, .unset] [])) (st87) ?_
  refine own_st (T' := T87) (F' := (mkF m 65 #[.val (.int ja), .val (.int jd), .val (.long je), .second, .val (.long v75), .second, .val (.ref b76), .val (.long v78), .second, .unset, .unset, .unset, .unset, .unset, .unset, .unset, .unset, .unset, .unset, .unset, .unset] [(.int ja)])) (fun _ kq => XS.iloadN X87.here hx rfl (hb hby at_64) rfl kq) ?_
  refine own_st (T' := T87) (F' := (mkF m 67 #[.val (.int ja), .val (.int jd), .val (.long je), .second, .val (.long v75), .second, .val (.ref b76), .val (.long v78), .second, .unset, .unset, .unset, .unset, .unset, .unset, .unset, .unset, .unset, .unset, .unset, .unset] [(.int (9 : Int32)), (.int ja)])) (fun _ kq => XS.bipush X87.here hx rfl (hb hby at_65) kq) ?_
  refine own_st (T' := T87) (F' := (mkF m 68 #[.val (.int ja), .val (.int jd), .val (.long je), .second, .val (.long v75), .second, .val (.ref b76), .val (.long v78), .second, .unset, .unset, .unset, .unset, .unset, .unset, .unset, .unset, .unset, .unset, .unset, .unset] [(.int ((ja.toUInt32 >>> ((9 : Int32) &&& 31).toUInt32).toInt32))])) (fun _ kq => XS.iushr X87.here hx rfl (hb hby at_67) rfl kq) ?_
  refine own_st (T' := T87) (F' := (mkF m 70 #[.val (.int ja), .val (.int jd), .val (.long je), .second, .val (.long v75), .second, .val (.ref b76), .val (.long v78), .second, .unset, .unset, .unset, .unset, .unset, .unset, .unset, .unset, .unset, .unset, .unset, .unset] [(.int (7 : Int32)), (.int ((ja.toUInt32 >>> ((9 : Int32) &&& 31).toUInt32).toInt32))])) (fun _ kq => XS.bipush X87.here hx rfl (hb hby at_68) kq) ?_
  refine own_st (T' := T87) (F' := (mkF m 71 #[.val (.int ja), .val (.int jd), .val (.long je), .second, .val (.long v75), .second, .val (.ref b76), .val (.long v78), .second, .unset, .unset, .unset, .unset, .unset, .unset, .unset, .unset, .unset, .unset, .unset, .unset] [(.int (((ja.toUInt32 >>> ((9 : Int32) &&& 31).toUInt32).toInt32) &&& (7 : Int32)))])) (fun _ kq => XS.iand X87.here hx rfl (hb hby at_70) rfl kq) ?_
  refine own_st (T' := T87) (F' := (mkF m 72 #[.val (.int ja), .val (.int jd), .val (.long je), .second, .val (.long v75), .second, .val (.ref b76), .val (.long v78), .second, .unset, .unset, .unset, .unset, .unset, .unset, .unset, .unset, .unset, .unset, .unset, .unset] [(.long ((((ja.toUInt32 >>> ((9 : Int32) &&& 31).toUInt32).toInt32) &&& (7 : Int32)).toInt64))])) (fun _ kq => XS.i2l X87.here hx rfl (hb hby at_71) rfl kq) ?_
  generalize hv89 : ((((ja.toUInt32 >>> ((9 : Int32) &&& 31).toUInt32).toInt32) &&& (7 : Int32)).toInt64) = v89
  refine own_st (T' := T87) (F' := (mkF m 74 #[.val (.int ja), .val (.int jd), .val (.long je), .second, .val (.long v75), .second, .val (.ref b76), .val (.long v78), .second, .val (.long v89), .second, .unset, .unset, .unset, .unset, .unset, .unset, .unset, .unset, .unset, .unset] [])) (fun _ kq => XS.lstore X87.here hx rfl (hb hby at_72) rfl (l' := #[.val (.int ja), .val (.int jd), .val (.long je), .second, .val (.long v75), .second, .val (.ref b76), .val (.long v78), .second, .val (.long v89), .second, .unset, .unset, .unset, .unset, .unset, .unset, .unset, .unset, .unset, .unset]) rfl kq) ?_
  refine own_st (T' := T87) (F' := (mkF m 76 #[.val (.int ja), .val (.int jd), .val (.long je), .second, .val (.long v75), .second, .val (.ref b76), .val (.long v78), .second, .val (.long v89), .second, .unset, .unset, .unset, .unset, .unset, .unset, .unset, .unset, .unset, .unset] [(.ref b76)])) (fun _ kq => XS.aload X87.here hx rfl (hb hby at_74) rfl rfl kq) ?_
  refine own_st (T' := T87) (F' := (mkF m 77 #[.val (.int ja), .val (.int jd), .val (.long je), .second, .val (.long v75), .second, .val (.ref b76), .val (.long v78), .second, .val (.long v89), .second, .unset, .unset, .unset, .unset, .unset, .unset, .unset, .unset, .unset, .unset] [(.int (4 : Int32)), (.ref b76)])) (fun _ kq => XS.iconst X87.here hx rfl (hb hby at_76) kq) ?_
  refine own_st (T' := T87) (F' := (mkF m 79 #[.val (.int ja), .val (.int jd), .val (.long je), .second, .val (.long v75), .second, .val (.ref b76), .val (.long v78), .second, .val (.long v89), .second, .unset, .unset, .unset, .unset, .unset, .unset, .unset, .unset, .unset, .unset] [(.ref b76), (.int (4 : Int32)), (.ref b76)])) (fun _ kq => XS.aload X87.here hx rfl (hb hby at_77) rfl rfl kq) ?_
  refine own_st (T' := T87) (F' := (mkF m 80 #[.val (.int ja), .val (.int jd), .val (.long je), .second, .val (.long v75), .second, .val (.ref b76), .val (.long v78), .second, .val (.long v89), .second, .unset, .unset, .unset, .unset, .unset, .unset, .unset, .unset, .unset, .unset] [(.int (1 : Int32)), (.ref b76), (.int (4 : Int32)), (.ref b76)])) (fun _ kq => XS.iconst X87.here hx rfl (hb hby at_79) kq) ?_
  refine own_st (T' := T87) (F' := (mkF m 81 #[.val (.int ja), .val (.int jd), .val (.long je), .second, .val (.long v75), .second, .val (.ref b76), .val (.long v78), .second, .val (.long v89), .second, .unset, .unset, .unset, .unset, .unset, .unset, .unset, .unset, .unset, .unset] [(.long v81), (.int (4 : Int32)), (.ref b76)])) (own_laload X87 hx hZ e87 V87 (g := (mkF m 80 #[.val (.int ja), .val (.int jd), .val (.long je), .second, .val (.long v75), .second, .val (.ref b76), .val (.long v78), .second, .val (.long v89), .second, .unset, .unset, .unset, .unset, .unset, .unset, .unset, .unset, .unset, .unset] [(.int (1 : Int32)), (.ref b76), (.int (4 : Int32)), (.ref b76)])) rfl rfl (hb hby at_80) (by decide) (Nat.le_of_ble_eq_true rfl) (w := v81) rfl) ?_
  refine own_st (T' := T87) (F' := (mkF m 83 #[.val (.int ja), .val (.int jd), .val (.long je), .second, .val (.long v75), .second, .val (.ref b76), .val (.long v78), .second, .val (.long v89), .second, .unset, .unset, .unset, .unset, .unset, .unset, .unset, .unset, .unset, .unset] [(.long v89), (.long v81), (.int (4 : Int32)), (.ref b76)])) (fun _ kq => XS.lload X87.here hx rfl (hb hby at_81) rfl kq) ?_
  refine own_st (T' := T87) (F' := (mkF m 84 #[.val (.int ja), .val (.int jd), .val (.long je), .second, .val (.long v75), .second, .val (.ref b76), .val (.long v78), .second, .val (.long v89), .second, .unset, .unset, .unset, .unset, .unset, .unset, .unset, .unset, .unset, .unset] [(.long (v81 + v89)), (.int (4 : Int32)), (.ref b76)])) (fun _ kq => XS.ladd X87.here hx rfl (hb hby at_83) rfl kq) ?_
  generalize hv90 : (v81 + v89) = v90
  obtain ⟨T91, h91, locs91, X91, e91, N91, W91, V91, st91⟩ := own_stJ X87 hx hZ e87 N87 (ys := [v78, v81, v78, v86, v90, (0 : Int64), (0 : Int64), (0 : Int64), (0 : Int64), (0 : Int64), (0 : Int64), (0 : Int64)]) V87 gb76 (g := (mkF m 84 #[.val (.int ja), .val (.int jd), .val (.long je), .second, .val (.long v75), .second, .val (.ref b76), .val (.long v78), .second, .val (.long v89), .second, .unset, .unset, .unset, .unset, .unset, .unset, .unset, .unset, .unset, .unset] [(.long v90), (.int (4 : Int32)), (.ref b76)])) rfl rfl (hb hby at_84) (by decide) (Nat.le_of_ble_eq_true rfl) rfl
  have Z91 : n0 ≤ h91.size := by rw [W91.size]; exact Z87
  refine own_st (T' := T91) (F' := (mkF m 85 #[.val (.int ja), .val (.int jd), .val (.long je), .second, .val (.long v75), .second, .val (.ref b76), .val (.long v78), .second, .val (.long v89), .second, .unset, .unset, .unset, .unset, .unset, .unset, .unset, .unset, .unset, .unset] [])) (st91) ?_
  refine own_st (T' := T91) (F' := (mkF m 87 #[.val (.int ja), .val (.int jd), .val (.long je), .second, .val (.long v75), .second, .val (.ref b76), .val (.long v78), .second, .val (.long v89), .second, .unset, .unset, .unset, .unset, .unset, .unset, .unset, .unset, .unset, .unset] [(.ref b76)])) (fun _ kq => XS.aload X91.here hx rfl (hb hby at_85) rfl rfl kq) ?_
  refine own_st (T' := T91) (F' := (mkF m 88 #[.val (.int ja), .val (.int jd), .val (.long je), .second, .val (.long v75), .second, .val (.ref b76), .val (.long v78), .second, .val (.long v89), .second, .unset, .unset, .unset, .unset, .unset, .unset, .unset, .unset, .unset, .unset] [(.int (5 : Int32)), (.ref b76)])) (fun _ kq => XS.iconst X91.here hx rfl (hb hby at_87) kq) ?_
  refine own_st (T' := T91) (F' := (mkF m 90 #[.val (.int ja), .val (.int jd), .val (.long je), .second, .val (.long v75), .second, .val (.ref b76), .val (.long v78), .second, .val (.long v89), .second, .unset, .unset, .unset, .unset, .unset, .unset, .unset, .unset, .unset, .unset] [(.ref b76), (.int (5 : Int32)), (.ref b76)])) (fun _ kq => XS.aload X91.here hx rfl (hb hby at_88) rfl rfl kq) ?_
  refine own_st (T' := T91) (F' := (mkF m 91 #[.val (.int ja), .val (.int jd), .val (.long je), .second, .val (.long v75), .second, .val (.ref b76), .val (.long v78), .second, .val (.long v89), .second, .unset, .unset, .unset, .unset, .unset, .unset, .unset, .unset, .unset, .unset] [(.int (4 : Int32)), (.ref b76), (.int (5 : Int32)), (.ref b76)])) (fun _ kq => XS.iconst X91.here hx rfl (hb hby at_90) kq) ?_
  refine own_st (T' := T91) (F' := (mkF m 92 #[.val (.int ja), .val (.int jd), .val (.long je), .second, .val (.long v75), .second, .val (.ref b76), .val (.long v78), .second, .val (.long v89), .second, .unset, .unset, .unset, .unset, .unset, .unset, .unset, .unset, .unset, .unset] [(.long v90), (.int (5 : Int32)), (.ref b76)])) (own_laload X91 hx hZ e91 V91 (g := (mkF m 91 #[.val (.int ja), .val (.int jd), .val (.long je), .second, .val (.long v75), .second, .val (.ref b76), .val (.long v78), .second, .val (.long v89), .second, .unset, .unset, .unset, .unset, .unset, .unset, .unset, .unset, .unset, .unset] [(.int (4 : Int32)), (.ref b76), (.int (5 : Int32)), (.ref b76)])) rfl rfl (hb hby at_91) (by decide) (Nat.le_of_ble_eq_true rfl) (w := v90) rfl) ?_
  refine own_st (T' := T91) (F' := (mkF m 93 #[.val (.int ja), .val (.int jd), .val (.long je), .second, .val (.long v75), .second, .val (.ref b76), .val (.long v78), .second, .val (.long v89), .second, .unset, .unset, .unset, .unset, .unset, .unset, .unset, .unset, .unset, .unset] [(.int ja), (.long v90), (.int (5 : Int32)), (.ref b76)])) (fun _ kq => XS.iloadN X91.here hx rfl (hb hby at_92) rfl kq) ?_
  refine own_st (T' := T91) (F' := (mkF m 95 #[.val (.int ja), .val (.int jd), .val (.long je), .second, .val (.long v75), .second, .val (.ref b76), .val (.long v78), .second, .val (.long v89), .second, .unset, .unset, .unset, .unset, .unset, .unset, .unset, .unset, .unset, .unset] [(.int (12 : Int32)), (.int ja), (.long v90), (.int (5 : Int32)), (.ref b76)])) (fun _ kq => XS.bipush X91.here hx rfl (hb hby at_93) kq) ?_
  refine own_st (T' := T91) (F' := (mkF m 96 #[.val (.int ja), .val (.int jd), .val (.long je), .second, .val (.long v75), .second, .val (.ref b76), .val (.long v78), .second, .val (.long v89), .second, .unset, .unset, .unset, .unset, .unset, .unset, .unset, .unset, .unset, .unset] [(.int ((ja.toUInt32 >>> ((12 : Int32) &&& 31).toUInt32).toInt32)), (.long v90), (.int (5 : Int32)), (.ref b76)])) (fun _ kq => XS.iushr X91.here hx rfl (hb hby at_95) rfl kq) ?_
  refine own_st (T' := T91) (F' := (mkF m 98 #[.val (.int ja), .val (.int jd), .val (.long je), .second, .val (.long v75), .second, .val (.ref b76), .val (.long v78), .second, .val (.long v89), .second, .unset, .unset, .unset, .unset, .unset, .unset, .unset, .unset, .unset, .unset] [(.int (7 : Int32)), (.int ((ja.toUInt32 >>> ((12 : Int32) &&& 31).toUInt32).toInt32)), (.long v90), (.int (5 : Int32)), (.ref b76)])) (fun _ kq => XS.bipush X91.here hx rfl (hb hby at_96) kq) ?_
  refine own_st (T' := T91) (F' := (mkF m 99 #[.val (.int ja), .val (.int jd), .val (.long je), .second, .val (.long v75), .second, .val (.ref b76), .val (.long v78), .second, .val (.long v89), .second, .unset, .unset, .unset, .unset, .unset, .unset, .unset, .unset, .unset, .unset] [(.int (((ja.toUInt32 >>> ((12 : Int32) &&& 31).toUInt32).toInt32) &&& (7 : Int32))), (.long v90), (.int (5 : Int32)), (.ref b76)])) (fun _ kq => XS.iand X91.here hx rfl (hb hby at_98) rfl kq) ?_
  refine own_st (T' := T91) (F' := (mkF m 100 #[.val (.int ja), .val (.int jd), .val (.long je), .second, .val (.long v75), .second, .val (.ref b76), .val (.long v78), .second, .val (.long v89), .second, .unset, .unset, .unset, .unset, .unset, .unset, .unset, .unset, .unset, .unset] [(.long ((((ja.toUInt32 >>> ((12 : Int32) &&& 31).toUInt32).toInt32) &&& (7 : Int32)).toInt64)), (.long v90), (.int (5 : Int32)), (.ref b76)])) (fun _ kq => XS.i2l X91.here hx rfl (hb hby at_99) rfl kq) ?_
  refine own_st (T' := T91) (F' := (mkF m 101 #[.val (.int ja), .val (.int jd), .val (.long je), .second, .val (.long v75), .second, .val (.ref b76), .val (.long v78), .second, .val (.long v89), .second, .unset, .unset, .unset, .unset, .unset, .unset, .unset, .unset, .unset, .unset] [(.long (v90 + ((((ja.toUInt32 >>> ((12 : Int32) &&& 31).toUInt32).toInt32) &&& (7 : Int32)).toInt64))), (.int (5 : Int32)), (.ref b76)])) (fun _ kq => XS.ladd X91.here hx rfl (hb hby at_100) rfl kq) ?_
  generalize hv93 : (v90 + ((((ja.toUInt32 >>> ((12 : Int32) &&& 31).toUInt32).toInt32) &&& (7 : Int32)).toInt64)) = v93
  obtain ⟨T94, h94, locs94, X94, e94, N94, W94, V94, st94⟩ := own_stJ X91 hx hZ e91 N91 (ys := [v78, v81, v78, v86, v90, v93, (0 : Int64), (0 : Int64), (0 : Int64), (0 : Int64), (0 : Int64), (0 : Int64)]) V91 gb76 (g := (mkF m 101 #[.val (.int ja), .val (.int jd), .val (.long je), .second, .val (.long v75), .second, .val (.ref b76), .val (.long v78), .second, .val (.long v89), .second, .unset, .unset, .unset, .unset, .unset, .unset, .unset, .unset, .unset, .unset] [(.long v93), (.int (5 : Int32)), (.ref b76)])) rfl rfl (hb hby at_101) (by decide) (Nat.le_of_ble_eq_true rfl) rfl
  have Z94 : n0 ≤ h94.size := by rw [W94.size]; exact Z91
  refine own_st (T' := T94) (F' := (mkF m 102 #[.val (.int ja), .val (.int jd), .val (.long je), .second, .val (.long v75), .second, .val (.ref b76), .val (.long v78), .second, .val (.long v89), .second, .unset, .unset, .unset, .unset, .unset, .unset, .unset, .unset, .unset, .unset] [])) (st94) ?_
  refine own_st (T' := T94) (F' := (mkF m 104 #[.val (.int ja), .val (.int jd), .val (.long je), .second, .val (.long v75), .second, .val (.ref b76), .val (.long v78), .second, .val (.long v89), .second, .unset, .unset, .unset, .unset, .unset, .unset, .unset, .unset, .unset, .unset] [(.ref b76)])) (fun _ kq => XS.aload X94.here hx rfl (hb hby at_102) rfl rfl kq) ?_
  refine own_st (T' := T94) (F' := (mkF m 106 #[.val (.int ja), .val (.int jd), .val (.long je), .second, .val (.long v75), .second, .val (.ref b76), .val (.long v78), .second, .val (.long v89), .second, .unset, .unset, .unset, .unset, .unset, .unset, .unset, .unset, .unset, .unset] [(.int (6 : Int32)), (.ref b76)])) (fun _ kq => XS.bipush X94.here hx rfl (hb hby at_104) kq) ?_
  refine own_st (T' := T94) (F' := (mkF m 108 #[.val (.int ja), .val (.int jd), .val (.long je), .second, .val (.long v75), .second, .val (.ref b76), .val (.long v78), .second, .val (.long v89), .second, .unset, .unset, .unset, .unset, .unset, .unset, .unset, .unset, .unset, .unset] [(.ref b76), (.int (6 : Int32)), (.ref b76)])) (fun _ kq => XS.aload X94.here hx rfl (hb hby at_106) rfl rfl kq) ?_
  refine own_st (T' := T94) (F' := (mkF m 109 #[.val (.int ja), .val (.int jd), .val (.long je), .second, .val (.long v75), .second, .val (.ref b76), .val (.long v78), .second, .val (.long v89), .second, .unset, .unset, .unset, .unset, .unset, .unset, .unset, .unset, .unset, .unset] [(.int (3 : Int32)), (.ref b76), (.int (6 : Int32)), (.ref b76)])) (fun _ kq => XS.iconst X94.here hx rfl (hb hby at_108) kq) ?_
  refine own_st (T' := T94) (F' := (mkF m 110 #[.val (.int ja), .val (.int jd), .val (.long je), .second, .val (.long v75), .second, .val (.ref b76), .val (.long v78), .second, .val (.long v89), .second, .unset, .unset, .unset, .unset, .unset, .unset, .unset, .unset, .unset, .unset] [(.long v86), (.int (6 : Int32)), (.ref b76)])) (own_laload X94 hx hZ e94 V94 (g := (mkF m 109 #[.val (.int ja), .val (.int jd), .val (.long je), .second, .val (.long v75), .second, .val (.ref b76), .val (.long v78), .second, .val (.long v89), .second, .unset, .unset, .unset, .unset, .unset, .unset, .unset, .unset, .unset, .unset] [(.int (3 : Int32)), (.ref b76), (.int (6 : Int32)), (.ref b76)])) rfl rfl (hb hby at_109) (by decide) (Nat.le_of_ble_eq_true rfl) (w := v86) rfl) ?_
  refine own_st (T' := T94) (F' := (mkF m 112 #[.val (.int ja), .val (.int jd), .val (.long je), .second, .val (.long v75), .second, .val (.ref b76), .val (.long v78), .second, .val (.long v89), .second, .unset, .unset, .unset, .unset, .unset, .unset, .unset, .unset, .unset, .unset] [(.long v89), (.long v86), (.int (6 : Int32)), (.ref b76)])) (fun _ kq => XS.lload X94.here hx rfl (hb hby at_110) rfl kq) ?_
  refine own_st (T' := T94) (F' := (mkF m 113 #[.val (.int ja), .val (.int jd), .val (.long je), .second, .val (.long v75), .second, .val (.ref b76), .val (.long v78), .second, .val (.long v89), .second, .unset, .unset, .unset, .unset, .unset, .unset, .unset, .unset, .unset, .unset] [(.long (v86 + v89)), (.int (6 : Int32)), (.ref b76)])) (fun _ kq => XS.ladd X94.here hx rfl (hb hby at_112) rfl kq) ?_
  generalize hv96 : (v86 + v89) = v96
  obtain ⟨T97, h97, locs97, X97, e97, N97, W97, V97, st97⟩ := own_stJ X94 hx hZ e94 N94 (ys := [v78, v81, v78, v86, v90, v93, v96, (0 : Int64), (0 : Int64), (0 : Int64), (0 : Int64), (0 : Int64)]) V94 gb76 (g := (mkF m 113 #[.val (.int ja), .val (.int jd), .val (.long je), .second, .val (.long v75), .second, .val (.ref b76), .val (.long v78), .second, .val (.long v89), .second, .unset, .unset, .unset, .unset, .unset, .unset, .unset, .unset, .unset, .unset] [(.long v96), (.int (6 : Int32)), (.ref b76)])) rfl rfl (hb hby at_113) (by decide) (Nat.le_of_ble_eq_true rfl) rfl
  have Z97 : n0 ≤ h97.size := by rw [W97.size]; exact Z94
  refine own_st (T' := T97) (F' := (mkF m 114 #[.val (.int ja), .val (.int jd), .val (.long je), .second, .val (.long v75), .second, .val (.ref b76), .val (.long v78), .second, .val (.long v89), .second, .unset, .unset, .unset, .unset, .unset, .unset, .unset, .unset, .unset, .unset] [])) (st97) ?_
  refine own_st (T' := T97) (F' := (mkF m 116 #[.val (.int ja), .val (.int jd), .val (.long je), .second, .val (.long v75), .second, .val (.ref b76), .val (.long v78), .second, .val (.long v89), .second, .unset, .unset, .unset, .unset, .unset, .unset, .unset, .unset, .unset, .unset] [(.ref b76)])) (fun _ kq => XS.aload X97.here hx rfl (hb hby at_114) rfl rfl kq) ?_
  refine own_st (T' := T97) (F' := (mkF m 118 #[.val (.int ja), .val (.int jd), .val (.long je), .second, .val (.long v75), .second, .val (.ref b76), .val (.long v78), .second, .val (.long v89), .second, .unset, .unset, .unset, .unset, .unset, .unset, .unset, .unset, .unset, .unset] [(.int (7 : Int32)), (.ref b76)])) (fun _ kq => XS.bipush X97.here hx rfl (hb hby at_116) kq) ?_
  refine own_st (T' := T97) (F' := (mkF m 120 #[.val (.int ja), .val (.int jd), .val (.long je), .second, .val (.long v75), .second, .val (.ref b76), .val (.long v78), .second, .val (.long v89), .second, .unset, .unset, .unset, .unset, .unset, .unset, .unset, .unset, .unset, .unset] [(.ref b76), (.int (7 : Int32)), (.ref b76)])) (fun _ kq => XS.aload X97.here hx rfl (hb hby at_118) rfl rfl kq) ?_
  refine own_st (T' := T97) (F' := (mkF m 122 #[.val (.int ja), .val (.int jd), .val (.long je), .second, .val (.long v75), .second, .val (.ref b76), .val (.long v78), .second, .val (.long v89), .second, .unset, .unset, .unset, .unset, .unset, .unset, .unset, .unset, .unset, .unset] [(.int (6 : Int32)), (.ref b76), (.int (7 : Int32)), (.ref b76)])) (fun _ kq => XS.bipush X97.here hx rfl (hb hby at_120) kq) ?_
  refine own_st (T' := T97) (F' := (mkF m 123 #[.val (.int ja), .val (.int jd), .val (.long je), .second, .val (.long v75), .second, .val (.ref b76), .val (.long v78), .second, .val (.long v89), .second, .unset, .unset, .unset, .unset, .unset, .unset, .unset, .unset, .unset, .unset] [(.long v96), (.int (7 : Int32)), (.ref b76)])) (own_laload X97 hx hZ e97 V97 (g := (mkF m 122 #[.val (.int ja), .val (.int jd), .val (.long je), .second, .val (.long v75), .second, .val (.ref b76), .val (.long v78), .second, .val (.long v89), .second, .unset, .unset, .unset, .unset, .unset, .unset, .unset, .unset, .unset, .unset] [(.int (6 : Int32)), (.ref b76), (.int (7 : Int32)), (.ref b76)])) rfl rfl (hb hby at_122) (by decide) (Nat.le_of_ble_eq_true rfl) (w := v96) rfl) ?_
  refine own_st (T' := T97) (F' := (mkF m 124 #[.val (.int ja), .val (.int jd), .val (.long je), .second, .val (.long v75), .second, .val (.ref b76), .val (.long v78), .second, .val (.long v89), .second, .unset, .unset, .unset, .unset, .unset, .unset, .unset, .unset, .unset, .unset] [(.int ja), (.long v96), (.int (7 : Int32)), (.ref b76)])) (fun _ kq => XS.iloadN X97.here hx rfl (hb hby at_123) rfl kq) ?_
  refine own_st (T' := T97) (F' := (mkF m 126 #[.val (.int ja), .val (.int jd), .val (.long je), .second, .val (.long v75), .second, .val (.ref b76), .val (.long v78), .second, .val (.long v89), .second, .unset, .unset, .unset, .unset, .unset, .unset, .unset, .unset, .unset, .unset] [(.int (15 : Int32)), (.int ja), (.long v96), (.int (7 : Int32)), (.ref b76)])) (fun _ kq => XS.bipush X97.here hx rfl (hb hby at_124) kq) ?_
  refine own_st (T' := T97) (F' := (mkF m 127 #[.val (.int ja), .val (.int jd), .val (.long je), .second, .val (.long v75), .second, .val (.ref b76), .val (.long v78), .second, .val (.long v89), .second, .unset, .unset, .unset, .unset, .unset, .unset, .unset, .unset, .unset, .unset] [(.int ((ja.toUInt32 >>> ((15 : Int32) &&& 31).toUInt32).toInt32)), (.long v96), (.int (7 : Int32)), (.ref b76)])) (fun _ kq => XS.iushr X97.here hx rfl (hb hby at_126) rfl kq) ?_
  refine own_st (T' := T97) (F' := (mkF m 129 #[.val (.int ja), .val (.int jd), .val (.long je), .second, .val (.long v75), .second, .val (.ref b76), .val (.long v78), .second, .val (.long v89), .second, .unset, .unset, .unset, .unset, .unset, .unset, .unset, .unset, .unset, .unset] [(.int (7 : Int32)), (.int ((ja.toUInt32 >>> ((15 : Int32) &&& 31).toUInt32).toInt32)), (.long v96), (.int (7 : Int32)), (.ref b76)])) (fun _ kq => XS.bipush X97.here hx rfl (hb hby at_127) kq) ?_
  refine own_st (T' := T97) (F' := (mkF m 130 #[.val (.int ja), .val (.int jd), .val (.long je), .second, .val (.long v75), .second, .val (.ref b76), .val (.long v78), .second, .val (.long v89), .second, .unset, .unset, .unset, .unset, .unset, .unset, .unset, .unset, .unset, .unset] [(.int (((ja.toUInt32 >>> ((15 : Int32) &&& 31).toUInt32).toInt32) &&& (7 : Int32))), (.long v96), (.int (7 : Int32)), (.ref b76)])) (fun _ kq => XS.iand X97.here hx rfl (hb hby at_129) rfl kq) ?_
  refine own_st (T' := T97) (F' := (mkF m 131 #[.val (.int ja), .val (.int jd), .val (.long je), .second, .val (.long v75), .second, .val (.ref b76), .val (.long v78), .second, .val (.long v89), .second, .unset, .unset, .unset, .unset, .unset, .unset, .unset, .unset, .unset, .unset] [(.long ((((ja.toUInt32 >>> ((15 : Int32) &&& 31).toUInt32).toInt32) &&& (7 : Int32)).toInt64)), (.long v96), (.int (7 : Int32)), (.ref b76)])) (fun _ kq => XS.i2l X97.here hx rfl (hb hby at_130) rfl kq) ?_
  refine own_st (T' := T97) (F' := (mkF m 132 #[.val (.int ja), .val (.int jd), .val (.long je), .second, .val (.long v75), .second, .val (.ref b76), .val (.long v78), .second, .val (.long v89), .second, .unset, .unset, .unset, .unset, .unset, .unset, .unset, .unset, .unset, .unset] [(.long (v96 + ((((ja.toUInt32 >>> ((15 : Int32) &&& 31).toUInt32).toInt32) &&& (7 : Int32)).toInt64))), (.int (7 : Int32)), (.ref b76)])) (fun _ kq => XS.ladd X97.here hx rfl (hb hby at_131) rfl kq) ?_
  generalize hv99 : (v96 + ((((ja.toUInt32 >>> ((15 : Int32) &&& 31).toUInt32).toInt32) &&& (7 : Int32)).toInt64)) = v99
  obtain ⟨T100, h100, locs100, X100, e100, N100, W100, V100, st100⟩ := own_stJ X97 hx hZ e97 N97 (ys := [v78, v81, v78, v86, v90, v93, v96, v99, (0 : Int64), (0 : Int64), (0 : Int64), (0 : Int64)]) V97 gb76 (g := (mkF m 132 #[.val (.int ja), .val (.int jd), .val (.long je), .second, .val (.long v75), .second, .val (.ref b76), .val (.long v78), .second, .val (.long v89), .second, .unset, .unset, .unset, .unset, .unset, .unset, .unset, .unset, .unset, .unset] [(.long v99), (.int (7 : Int32)), (.ref b76)])) rfl rfl (hb hby at_132) (by decide) (Nat.le_of_ble_eq_true rfl) rfl
  have Z100 : n0 ≤ h100.size := by rw [W100.size]; exact Z97
  refine own_st (T' := T100) (F' := (mkF m 133 #[.val (.int ja), .val (.int jd), .val (.long je), .second, .val (.long v75), .second, .val (.ref b76), .val (.long v78), .second, .val (.long v89), .second, .unset, .unset, .unset, .unset, .unset, .unset, .unset, .unset, .unset, .unset] [])) (st100) ?_
  refine own_st (T' := T100) (F' := (mkF m 134 #[.val (.int ja), .val (.int jd), .val (.long je), .second, .val (.long v75), .second, .val (.ref b76), .val (.long v78), .second, .val (.long v89), .second, .unset, .unset, .unset, .unset, .unset, .unset, .unset, .unset, .unset, .unset] [(.int ja)])) (fun _ kq => XS.iloadN X100.here hx rfl (hb hby at_133) rfl kq) ?_
  refine own_st (T' := T100) (F' := (mkF m 136 #[.val (.int ja), .val (.int jd), .val (.long je), .second, .val (.long v75), .second, .val (.ref b76), .val (.long v78), .second, .val (.long v89), .second, .unset, .unset, .unset, .unset, .unset, .unset, .unset, .unset, .unset, .unset] [(.int (18 : Int32)), (.int ja)])) (fun _ kq => XS.bipush X100.here hx rfl (hb hby at_134) kq) ?_
  refine own_st (T' := T100) (F' := (mkF m 137 #[.val (.int ja), .val (.int jd), .val (.long je), .second, .val (.long v75), .second, .val (.ref b76), .val (.long v78), .second, .val (.long v89), .second, .unset, .unset, .unset, .unset, .unset, .unset, .unset, .unset, .unset, .unset] [(.int ((ja.toUInt32 >>> ((18 : Int32) &&& 31).toUInt32).toInt32))])) (fun _ kq => XS.iushr X100.here hx rfl (hb hby at_136) rfl kq) ?_
  refine own_st (T' := T100) (F' := (mkF m 139 #[.val (.int ja), .val (.int jd), .val (.long je), .second, .val (.long v75), .second, .val (.ref b76), .val (.long v78), .second, .val (.long v89), .second, .unset, .unset, .unset, .unset, .unset, .unset, .unset, .unset, .unset, .unset] [(.int (7 : Int32)), (.int ((ja.toUInt32 >>> ((18 : Int32) &&& 31).toUInt32).toInt32))])) (fun _ kq => XS.bipush X100.here hx rfl (hb hby at_137) kq) ?_
  refine own_st (T' := T100) (F' := (mkF m 140 #[.val (.int ja), .val (.int jd), .val (.long je), .second, .val (.long v75), .second, .val (.ref b76), .val (.long v78), .second, .val (.long v89), .second, .unset, .unset, .unset, .unset, .unset, .unset, .unset, .unset, .unset, .unset] [(.int (((ja.toUInt32 >>> ((18 : Int32) &&& 31).toUInt32).toInt32) &&& (7 : Int32)))])) (fun _ kq => XS.iand X100.here hx rfl (hb hby at_139) rfl kq) ?_
  refine own_st (T' := T100) (F' := (mkF m 141 #[.val (.int ja), .val (.int jd), .val (.long je), .second, .val (.long v75), .second, .val (.ref b76), .val (.long v78), .second, .val (.long v89), .second, .unset, .unset, .unset, .unset, .unset, .unset, .unset, .unset, .unset, .unset] [(.long ((((ja.toUInt32 >>> ((18 : Int32) &&& 31).toUInt32).toInt32) &&& (7 : Int32)).toInt64))])) (fun _ kq => XS.i2l X100.here hx rfl (hb hby at_140) rfl kq) ?_
  generalize hv102 : ((((ja.toUInt32 >>> ((18 : Int32) &&& 31).toUInt32).toInt32) &&& (7 : Int32)).toInt64) = v102
  refine own_st (T' := T100) (F' := (mkF m 143 #[.val (.int ja), .val (.int jd), .val (.long je), .second, .val (.long v75), .second, .val (.ref b76), .val (.long v78), .second, .val (.long v89), .second, .val (.long v102), .second, .unset, .unset, .unset, .unset, .unset, .unset, .unset, .unset] [])) (fun _ kq => XS.lstore X100.here hx rfl (hb hby at_141) rfl (l' := #[.val (.int ja), .val (.int jd), .val (.long je), .second, .val (.long v75), .second, .val (.ref b76), .val (.long v78), .second, .val (.long v89), .second, .val (.long v102), .second, .unset, .unset, .unset, .unset, .unset, .unset, .unset, .unset]) rfl kq) ?_
  refine own_st (T' := T100) (F' := (mkF m 145 #[.val (.int ja), .val (.int jd), .val (.long je), .second, .val (.long v75), .second, .val (.ref b76), .val (.long v78), .second, .val (.long v89), .second, .val (.long v102), .second, .unset, .unset, .unset, .unset, .unset, .unset, .unset, .unset] [(.ref b76)])) (fun _ kq => XS.aload X100.here hx rfl (hb hby at_143) rfl rfl kq) ?_
  refine own_st (T' := T100) (F' := (mkF m 147 #[.val (.int ja), .val (.int jd), .val (.long je), .second, .val (.long v75), .second, .val (.ref b76), .val (.long v78), .second, .val (.long v89), .second, .val (.long v102), .second, .unset, .unset, .unset, .unset, .unset, .unset, .unset, .unset] [(.int (8 : Int32)), (.ref b76)])) (fun _ kq => XS.bipush X100.here hx rfl (hb hby at_145) kq) ?_
  refine own_st (T' := T100) (F' := (mkF m 149 #[.val (.int ja), .val (.int jd), .val (.long je), .second, .val (.long v75), .second, .val (.ref b76), .val (.long v78), .second, .val (.long v89), .second, .val (.long v102), .second, .unset, .unset, .unset, .unset, .unset, .unset, .unset, .unset] [(.ref b76), (.int (8 : Int32)), (.ref b76)])) (fun _ kq => XS.aload X100.here hx rfl (hb hby at_147) rfl rfl kq) ?_
  refine own_st (T' := T100) (F' := (mkF m 150 #[.val (.int ja), .val (.int jd), .val (.long je), .second, .val (.long v75), .second, .val (.ref b76), .val (.long v78), .second, .val (.long v89), .second, .val (.long v102), .second, .unset, .unset, .unset, .unset, .unset, .unset, .unset, .unset] [(.int (5 : Int32)), (.ref b76), (.int (8 : Int32)), (.ref b76)])) (fun _ kq => XS.iconst X100.here hx rfl (hb hby at_149) kq) ?_
  refine own_st (T' := T100) (F' := (mkF m 151 #[.val (.int ja), .val (.int jd), .val (.long je), .second, .val (.long v75), .second, .val (.ref b76), .val (.long v78), .second, .val (.long v89), .second, .val (.long v102), .second, .unset, .unset, .unset, .unset, .unset, .unset, .unset, .unset] [(.long v93), (.int (8 : Int32)), (.ref b76)])) (own_laload X100 hx hZ e100 V100 (g := (mkF m 150 #[.val (.int ja), .val (.int jd), .val (.long je), .second, .val (.long v75), .second, .val (.ref b76), .val (.long v78), .second, .val (.long v89), .second, .val (.long v102), .second, .unset, .unset, .unset, .unset, .unset, .unset, .unset, .unset] [(.int (5 : Int32)), (.ref b76), (.int (8 : Int32)), (.ref b76)])) rfl rfl (hb hby at_150) (by decide) (Nat.le_of_ble_eq_true rfl) (w := v93) rfl) ?_
  refine own_st (T' := T100) (F' := (mkF m 153 #[.val (.int ja), .val (.int jd), .val (.long je), .second, .val (.long v75), .second, .val (.ref b76), .val (.long v78), .second, .val (.long v89), .second, .val (.long v102), .second, .unset, .unset, .unset, .unset, .unset, .unset, .unset, .unset] [(.long v102), (.long v93), (.int (8 : Int32)), (.ref b76)])) (fun _ kq => XS.lload X100.here hx rfl (hb hby at_151) rfl kq) ?_
  refine own_st (T' := T100) (F' := (mkF m 154 #[.val (.int ja), .val (.int jd), .val (.long je), .second, .val (.long v75), .second, .val (.ref b76), .val (.long v78), .second, .val (.long v89), .second, .val (.long v102), .second, .unset, .unset, .unset, .unset, .unset, .unset, .unset, .unset] [(.long (v93 + v102)), (.int (8 : Int32)), (.ref b76)])) (fun _ kq => XS.ladd X100.here hx rfl (hb hby at_153) rfl kq) ?_
  generalize hv103 : (v93 + v102) = v103
  obtain ⟨T104, h104, locs104, X104, e104, N104, W104, V104, st104⟩ := own_stJ X100 hx hZ e100 N100 (ys := [v78, v81, v78, v86, v90, v93, v96, v99, v103, (0 : Int64), (0 : Int64), (0 : Int64)]) V100 gb76 (g := (mkF m 154 #[.val (.int ja), .val (.int jd), .val (.long je), .second, .val (.long v75), .second, .val (.ref b76), .val (.long v78), .second, .val (.long v89), .second, .val (.long v102), .second, .unset, .unset, .unset, .unset, .unset, .unset, .unset, .unset] [(.long v103), (.int (8 : Int32)), (.ref b76)])) rfl rfl (hb hby at_154) (by decide) (Nat.le_of_ble_eq_true rfl) rfl
  have Z104 : n0 ≤ h104.size := by rw [W104.size]; exact Z100
  refine own_st (T' := T104) (F' := (mkF m 155 #[.val (.int ja), .val (.int jd), .val (.long je), .second, .val (.long v75), .second, .val (.ref b76), .val (.long v78), .second, .val (.long v89), .second, .val (.long v102), .second, .unset, .unset, .unset, .unset, .unset, .unset, .unset, .unset] [])) (st104) ?_
  refine own_st (T' := T104) (F' := (mkF m 157 #[.val (.int ja), .val (.int jd), .val (.long je), .second, .val (.long v75), .second, .val (.ref b76), .val (.long v78), .second, .val (.long v89), .second, .val (.long v102), .second, .unset, .unset, .unset, .unset, .unset, .unset, .unset, .unset] [(.ref b76)])) (fun _ kq => XS.aload X104.here hx rfl (hb hby at_155) rfl rfl kq) ?_
  refine own_st (T' := T104) (F' := (mkF m 159 #[.val (.int ja), .val (.int jd), .val (.long je), .second, .val (.long v75), .second, .val (.ref b76), .val (.long v78), .second, .val (.long v89), .second, .val (.long v102), .second, .unset, .unset, .unset, .unset, .unset, .unset, .unset, .unset] [(.int (9 : Int32)), (.ref b76)])) (fun _ kq => XS.bipush X104.here hx rfl (hb hby at_157) kq) ?_
  refine own_st (T' := T104) (F' := (mkF m 161 #[.val (.int ja), .val (.int jd), .val (.long je), .second, .val (.long v75), .second, .val (.ref b76), .val (.long v78), .second, .val (.long v89), .second, .val (.long v102), .second, .unset, .unset, .unset, .unset, .unset, .unset, .unset, .unset] [(.ref b76), (.int (9 : Int32)), (.ref b76)])) (fun _ kq => XS.aload X104.here hx rfl (hb hby at_159) rfl rfl kq) ?_
  refine own_st (T' := T104) (F' := (mkF m 163 #[.val (.int ja), .val (.int jd), .val (.long je), .second, .val (.long v75), .second, .val (.ref b76), .val (.long v78), .second, .val (.long v89), .second, .val (.long v102), .second, .unset, .unset, .unset, .unset, .unset, .unset, .unset, .unset] [(.int (8 : Int32)), (.ref b76), (.int (9 : Int32)), (.ref b76)])) (fun _ kq => XS.bipush X104.here hx rfl (hb hby at_161) kq) ?_
  refine own_st (T' := T104) (F' := (mkF m 164 #[.val (.int ja), .val (.int jd), .val (.long je), .second, .val (.long v75), .second, .val (.ref b76), .val (.long v78), .second, .val (.long v89), .second, .val (.long v102), .second, .unset, .unset, .unset, .unset, .unset, .unset, .unset, .unset] [(.long v103), (.int (9 : Int32)), (.ref b76)])) (own_laload X104 hx hZ e104 V104 (g := (mkF m 163 #[.val (.int ja), .val (.int jd), .val (.long je), .second, .val (.long v75), .second, .val (.ref b76), .val (.long v78), .second, .val (.long v89), .second, .val (.long v102), .second, .unset, .unset, .unset, .unset, .unset, .unset, .unset, .unset] [(.int (8 : Int32)), (.ref b76), (.int (9 : Int32)), (.ref b76)])) rfl rfl (hb hby at_163) (by decide) (Nat.le_of_ble_eq_true rfl) (w := v103) rfl) ?_
  refine own_st (T' := T104) (F' := (mkF m 165 #[.val (.int ja), .val (.int jd), .val (.long je), .second, .val (.long v75), .second, .val (.ref b76), .val (.long v78), .second, .val (.long v89), .second, .val (.long v102), .second, .unset, .unset, .unset, .unset, .unset, .unset, .unset, .unset] [(.int ja), (.long v103), (.int (9 : Int32)), (.ref b76)])) (fun _ kq => XS.iloadN X104.here hx rfl (hb hby at_164) rfl kq) ?_
  refine own_st (T' := T104) (F' := (mkF m 167 #[.val (.int ja), .val (.int jd), .val (.long je), .second, .val (.long v75), .second, .val (.ref b76), .val (.long v78), .second, .val (.long v89), .second, .val (.long v102), .second, .unset, .unset, .unset, .unset, .unset, .unset, .unset, .unset] [(.int (21 : Int32)), (.int ja), (.long v103), (.int (9 : Int32)), (.ref b76)])) (fun _ kq => XS.bipush X104.here hx rfl (hb hby at_165) kq) ?_
  refine own_st (T' := T104) (F' := (mkF m 168 #[.val (.int ja), .val (.int jd), .val (.long je), .second, .val (.long v75), .second, .val (.ref b76), .val (.long v78), .second, .val (.long v89), .second, .val (.long v102), .second, .unset, .unset, .unset, .unset, .unset, .unset, .unset, .unset] [(.int ((ja.toUInt32 >>> ((21 : Int32) &&& 31).toUInt32).toInt32)), (.long v103), (.int (9 : Int32)), (.ref b76)])) (fun _ kq => XS.iushr X104.here hx rfl (hb hby at_167) rfl kq) ?_
  refine own_st (T' := T104) (F' := (mkF m 170 #[.val (.int ja), .val (.int jd), .val (.long je), .second, .val (.long v75), .second, .val (.ref b76), .val (.long v78), .second, .val (.long v89), .second, .val (.long v102), .second, .unset, .unset, .unset, .unset, .unset, .unset, .unset, .unset] [(.int (7 : Int32)), (.int ((ja.toUInt32 >>> ((21 : Int32) &&& 31).toUInt32).toInt32)), (.long v103), (.int (9 : Int32)), (.ref b76)])) (fun _ kq => XS.bipush X104.here hx rfl (hb hby at_168) kq) ?_
  refine own_st (T' := T104) (F' := (mkF m 171 #[.val (.int ja), .val (.int jd), .val (.long je), .second, .val (.long v75), .second, .val (.ref b76), .val (.long v78), .second, .val (.long v89), .second, .val (.long v102), .second, .unset, .unset, .unset, .unset, .unset, .unset, .unset, .unset] [(.int (((ja.toUInt32 >>> ((21 : Int32) &&& 31).toUInt32).toInt32) &&& (7 : Int32))), (.long v103), (.int (9 : Int32)), (.ref b76)])) (fun _ kq => XS.iand X104.here hx rfl (hb hby at_170) rfl kq) ?_
  refine own_st (T' := T104) (F' := (mkF m 172 #[.val (.int ja), .val (.int jd), .val (.long je), .second, .val (.long v75), .second, .val (.ref b76), .val (.long v78), .second, .val (.long v89), .second, .val (.long v102), .second, .unset, .unset, .unset, .unset, .unset, .unset, .unset, .unset] [(.long ((((ja.toUInt32 >>> ((21 : Int32) &&& 31).toUInt32).toInt32) &&& (7 : Int32)).toInt64)), (.long v103), (.int (9 : Int32)), (.ref b76)])) (fun _ kq => XS.i2l X104.here hx rfl (hb hby at_171) rfl kq) ?_
  refine own_st (T' := T104) (F' := (mkF m 173 #[.val (.int ja), .val (.int jd), .val (.long je), .second, .val (.long v75), .second, .val (.ref b76), .val (.long v78), .second, .val (.long v89), .second, .val (.long v102), .second, .unset, .unset, .unset, .unset, .unset, .unset, .unset, .unset] [(.long (v103 + ((((ja.toUInt32 >>> ((21 : Int32) &&& 31).toUInt32).toInt32) &&& (7 : Int32)).toInt64))), (.int (9 : Int32)), (.ref b76)])) (fun _ kq => XS.ladd X104.here hx rfl (hb hby at_172) rfl kq) ?_
  generalize hv106 : (v103 + ((((ja.toUInt32 >>> ((21 : Int32) &&& 31).toUInt32).toInt32) &&& (7 : Int32)).toInt64)) = v106
  obtain ⟨T107, h107, locs107, X107, e107, N107, W107, V107, st107⟩ := own_stJ X104 hx hZ e104 N104 (ys := [v78, v81, v78, v86, v90, v93, v96, v99, v103, v106, (0 : Int64), (0 : Int64)]) V104 gb76 (g := (mkF m 173 #[.val (.int ja), .val (.int jd), .val (.long je), .second, .val (.long v75), .second, .val (.ref b76), .val (.long v78), .second, .val (.long v89), .second, .val (.long v102), .second, .unset, .unset, .unset, .unset, .unset, .unset, .unset, .unset] [(.long v106), (.int (9 : Int32)), (.ref b76)])) rfl rfl (hb hby at_173) (by decide) (Nat.le_of_ble_eq_true rfl) rfl
  have Z107 : n0 ≤ h107.size := by rw [W107.size]; exact Z104
  refine own_st (T' := T107) (F' := (mkF m 174 #[.val (.int ja), .val (.int jd), .val (.long je), .second, .val (.long v75), .second, .val (.ref b76), .val (.long v78), .second, .val (.long v89), .second, .val (.long v102), .second, .unset, .unset, .unset, .unset, .unset, .unset, .unset, .unset] [])) (st107) ?_
  refine own_st (T' := T107) (F' := (mkF m 176 #[.val (.int ja), .val (.int jd), .val (.long je), .second, .val (.long v75), .second, .val (.ref b76), .val (.long v78), .second, .val (.long v89), .second, .val (.long v102), .second, .unset, .unset, .unset, .unset, .unset, .unset, .unset, .unset] [(.ref b76)])) (fun _ kq => XS.aload X107.here hx rfl (hb hby at_174) rfl rfl kq) ?_
  refine own_st (T' := T107) (F' := (mkF m 178 #[.val (.int ja), .val (.int jd), .val (.long je), .second, .val (.long v75), .second, .val (.ref b76), .val (.long v78), .second, .val (.long v89), .second, .val (.long v102), .second, .unset, .unset, .unset, .unset, .unset, .unset, .unset, .unset] [(.int (10 : Int32)), (.ref b76)])) (fun _ kq => XS.bipush X107.here hx rfl (hb hby at_176) kq) ?_
  refine own_st (T' := T107) (F' := (mkF m 180 #[.val (.int ja), .val (.int jd), .val (.long je), .second, .val (.long v75), .second, .val (.ref b76), .val (.long v78), .second, .val (.long v89), .second, .val (.long v102), .second, .unset, .unset, .unset, .unset, .unset, .unset, .unset, .unset] [(.ref b76), (.int (10 : Int32)), (.ref b76)])) (fun _ kq => XS.aload X107.here hx rfl (hb hby at_178) rfl rfl kq) ?_
  refine own_st (T' := T107) (F' := (mkF m 182 #[.val (.int ja), .val (.int jd), .val (.long je), .second, .val (.long v75), .second, .val (.ref b76), .val (.long v78), .second, .val (.long v89), .second, .val (.long v102), .second, .unset, .unset, .unset, .unset, .unset, .unset, .unset, .unset] [(.int (7 : Int32)), (.ref b76), (.int (10 : Int32)), (.ref b76)])) (fun _ kq => XS.bipush X107.here hx rfl (hb hby at_180) kq) ?_
  refine own_st (T' := T107) (F' := (mkF m 183 #[.val (.int ja), .val (.int jd), .val (.long je), .second, .val (.long v75), .second, .val (.ref b76), .val (.long v78), .second, .val (.long v89), .second, .val (.long v102), .second, .unset, .unset, .unset, .unset, .unset, .unset, .unset, .unset] [(.long v99), (.int (10 : Int32)), (.ref b76)])) (own_laload X107 hx hZ e107 V107 (g := (mkF m 182 #[.val (.int ja), .val (.int jd), .val (.long je), .second, .val (.long v75), .second, .val (.ref b76), .val (.long v78), .second, .val (.long v89), .second, .val (.long v102), .second, .unset, .unset, .unset, .unset, .unset, .unset, .unset, .unset] [(.int (7 : Int32)), (.ref b76), (.int (10 : Int32)), (.ref b76)])) rfl rfl (hb hby at_182) (by decide) (Nat.le_of_ble_eq_true rfl) (w := v99) rfl) ?_
  refine own_st (T' := T107) (F' := (mkF m 185 #[.val (.int ja), .val (.int jd), .val (.long je), .second, .val (.long v75), .second, .val (.ref b76), .val (.long v78), .second, .val (.long v89), .second, .val (.long v102), .second, .unset, .unset, .unset, .unset, .unset, .unset, .unset, .unset] [(.long v102), (.long v99), (.int (10 : Int32)), (.ref b76)])) (fun _ kq => XS.lload X107.here hx rfl (hb hby at_183) rfl kq) ?_
  refine own_st (T' := T107) (F' := (mkF m 186 #[.val (.int ja), .val (.int jd), .val (.long je), .second, .val (.long v75), .second, .val (.ref b76), .val (.long v78), .second, .val (.long v89), .second, .val (.long v102), .second, .unset, .unset, .unset, .unset, .unset, .unset, .unset, .unset] [(.long (v99 + v102)), (.int (10 : Int32)), (.ref b76)])) (fun _ kq => XS.ladd X107.here hx rfl (hb hby at_185) rfl kq) ?_
  generalize hv109 : (v99 + v102) = v109
  obtain ⟨T110, h110, locs110, X110, e110, N110, W110, V110, st110⟩ := own_stJ X107 hx hZ e107 N107 (ys := [v78, v81, v78, v86, v90, v93, v96, v99, v103, v106, v109, (0 : Int64)]) V107 gb76 (g := (mkF m 186 #[.val (.int ja), .val (.int jd), .val (.long je), .second, .val (.long v75), .second, .val (.ref b76), .val (.long v78), .second, .val (.long v89), .second, .val (.long v102), .second, .unset, .unset, .unset, .unset, .unset, .unset, .unset, .unset] [(.long v109), (.int (10 : Int32)), (.ref b76)])) rfl rfl (hb hby at_186) (by decide) (Nat.le_of_ble_eq_true rfl) rfl
  have Z110 : n0 ≤ h110.size := by rw [W110.size]; exact Z107
  refine own_st (T' := T110) (F' := (mkF m 187 #[.val (.int ja), .val (.int jd), .val (.long je), .second, .val (.long v75), .second, .val (.ref b76), .val (.long v78), .second, .val (.long v89), .second, .val (.long v102), .second, .unset, .unset, .unset, .unset, .unset, .unset, .unset, .unset] [])) (st110) ?_
  refine own_st (T' := T110) (F' := (mkF m 189 #[.val (.int ja), .val (.int jd), .val (.long je), .second, .val (.long v75), .second, .val (.ref b76), .val (.long v78), .second, .val (.long v89), .second, .val (.long v102), .second, .unset, .unset, .unset, .unset, .unset, .unset, .unset, .unset] [(.ref b76)])) (fun _ kq => XS.aload X110.here hx rfl (hb hby at_187) rfl rfl kq) ?_
  refine own_st (T' := T110) (F' := (mkF m 191 #[.val (.int ja), .val (.int jd), .val (.long je), .second, .val (.long v75), .second, .val (.ref b76), .val (.long v78), .second, .val (.long v89), .second, .val (.long v102), .second, .unset, .unset, .unset, .unset, .unset, .unset, .unset, .unset] [(.int (11 : Int32)), (.ref b76)])) (fun _ kq => XS.bipush X110.here hx rfl (hb hby at_189) kq) ?_
  refine own_st (T' := T110) (F' := (mkF m 193 #[.val (.int ja), .val (.int jd), .val (.long je), .second, .val (.long v75), .second, .val (.ref b76), .val (.long v78), .second, .val (.long v89), .second, .val (.long v102), .second, .unset, .unset, .unset, .unset, .unset, .unset, .unset, .unset] [(.ref b76), (.int (11 : Int32)), (.ref b76)])) (fun _ kq => XS.aload X110.here hx rfl (hb hby at_191) rfl rfl kq) ?_
  refine own_st (T' := T110) (F' := (mkF m 195 #[.val (.int ja), .val (.int jd), .val (.long je), .second, .val (.long v75), .second, .val (.ref b76), .val (.long v78), .second, .val (.long v89), .second, .val (.long v102), .second, .unset, .unset, .unset, .unset, .unset, .unset, .unset, .unset] [(.int (10 : Int32)), (.ref b76), (.int (11 : Int32)), (.ref b76)])) (fun _ kq => XS.bipush X110.here hx rfl (hb hby at_193) kq) ?_
  refine own_st (T' := T110) (F' := (mkF m 196 #[.val (.int ja), .val (.int jd), .val (.long je), .second, .val (.long v75), .second, .val (.ref b76), .val (.long v78), .second, .val (.long v89), .second, .val (.long v102), .second, .unset, .unset, .unset, .unset, .unset, .unset, .unset, .unset] [(.long v109), (.int (11 : Int32)), (.ref b76)])) (own_laload X110 hx hZ e110 V110 (g := (mkF m 195 #[.val (.int ja), .val (.int jd), .val (.long je), .second, .val (.long v75), .second, .val (.ref b76), .val (.long v78), .second, .val (.long v89), .second, .val (.long v102), .second, .unset, .unset, .unset, .unset, .unset, .unset, .unset, .unset] [(.int (10 : Int32)), (.ref b76), (.int (11 : Int32)), (.ref b76)])) rfl rfl (hb hby at_195) (by decide) (Nat.le_of_ble_eq_true rfl) (w := v109) rfl) ?_
  refine own_st (T' := T110) (F' := (mkF m 197 #[.val (.int ja), .val (.int jd), .val (.long je), .second, .val (.long v75), .second, .val (.ref b76), .val (.long v78), .second, .val (.long v89), .second, .val (.long v102), .second, .unset, .unset, .unset, .unset, .unset, .unset, .unset, .unset] [(.int ja), (.long v109), (.int (11 : Int32)), (.ref b76)])) (fun _ kq => XS.iloadN X110.here hx rfl (hb hby at_196) rfl kq) ?_
  refine own_st (T' := T110) (F' := (mkF m 199 #[.val (.int ja), .val (.int jd), .val (.long je), .second, .val (.long v75), .second, .val (.ref b76), .val (.long v78), .second, .val (.long v89), .second, .val (.long v102), .second, .unset, .unset, .unset, .unset, .unset, .unset, .unset, .unset] [(.int (24 : Int32)), (.int ja), (.long v109), (.int (11 : Int32)), (.ref b76)])) (fun _ kq => XS.bipush X110.here hx rfl (hb hby at_197) kq) ?_
  refine own_st (T' := T110) (F' := (mkF m 200 #[.val (.int ja), .val (.int jd), .val (.long je), .second, .val (.long v75), .second, .val (.ref b76), .val (.long v78), .second, .val (.long v89), .second, .val (.long v102), .second, .unset, .unset, .unset, .unset, .unset, .unset, .unset, .unset] [(.int ((ja.toUInt32 >>> ((24 : Int32) &&& 31).toUInt32).toInt32)), (.long v109), (.int (11 : Int32)), (.ref b76)])) (fun _ kq => XS.iushr X110.here hx rfl (hb hby at_199) rfl kq) ?_
  refine own_st (T' := T110) (F' := (mkF m 202 #[.val (.int ja), .val (.int jd), .val (.long je), .second, .val (.long v75), .second, .val (.ref b76), .val (.long v78), .second, .val (.long v89), .second, .val (.long v102), .second, .unset, .unset, .unset, .unset, .unset, .unset, .unset, .unset] [(.int (7 : Int32)), (.int ((ja.toUInt32 >>> ((24 : Int32) &&& 31).toUInt32).toInt32)), (.long v109), (.int (11 : Int32)), (.ref b76)])) (fun _ kq => XS.bipush X110.here hx rfl (hb hby at_200) kq) ?_
  refine own_st (T' := T110) (F' := (mkF m 203 #[.val (.int ja), .val (.int jd), .val (.long je), .second, .val (.long v75), .second, .val (.ref b76), .val (.long v78), .second, .val (.long v89), .second, .val (.long v102), .second, .unset, .unset, .unset, .unset, .unset, .unset, .unset, .unset] [(.int (((ja.toUInt32 >>> ((24 : Int32) &&& 31).toUInt32).toInt32) &&& (7 : Int32))), (.long v109), (.int (11 : Int32)), (.ref b76)])) (fun _ kq => XS.iand X110.here hx rfl (hb hby at_202) rfl kq) ?_
  refine own_st (T' := T110) (F' := (mkF m 204 #[.val (.int ja), .val (.int jd), .val (.long je), .second, .val (.long v75), .second, .val (.ref b76), .val (.long v78), .second, .val (.long v89), .second, .val (.long v102), .second, .unset, .unset, .unset, .unset, .unset, .unset, .unset, .unset] [(.long ((((ja.toUInt32 >>> ((24 : Int32) &&& 31).toUInt32).toInt32) &&& (7 : Int32)).toInt64)), (.long v109), (.int (11 : Int32)), (.ref b76)])) (fun _ kq => XS.i2l X110.here hx rfl (hb hby at_203) rfl kq) ?_
  refine own_st (T' := T110) (F' := (mkF m 205 #[.val (.int ja), .val (.int jd), .val (.long je), .second, .val (.long v75), .second, .val (.ref b76), .val (.long v78), .second, .val (.long v89), .second, .val (.long v102), .second, .unset, .unset, .unset, .unset, .unset, .unset, .unset, .unset] [(.long (v109 + ((((ja.toUInt32 >>> ((24 : Int32) &&& 31).toUInt32).toInt32) &&& (7 : Int32)).toInt64))), (.int (11 : Int32)), (.ref b76)])) (fun _ kq => XS.ladd X110.here hx rfl (hb hby at_204) rfl kq) ?_
  generalize hv112 : (v109 + ((((ja.toUInt32 >>> ((24 : Int32) &&& 31).toUInt32).toInt32) &&& (7 : Int32)).toInt64)) = v112
  obtain ⟨T113, h113, locs113, X113, e113, N113, W113, V113, st113⟩ := own_stJ X110 hx hZ e110 N110 (ys := [v78, v81, v78, v86, v90, v93, v96, v99, v103, v106, v109, v112]) V110 gb76 (g := (mkF m 205 #[.val (.int ja), .val (.int jd), .val (.long je), .second, .val (.long v75), .second, .val (.ref b76), .val (.long v78), .second, .val (.long v89), .second, .val (.long v102), .second, .unset, .unset, .unset, .unset, .unset, .unset, .unset, .unset] [(.long v112), (.int (11 : Int32)), (.ref b76)])) rfl rfl (hb hby at_205) (by decide) (Nat.le_of_ble_eq_true rfl) rfl
  have Z113 : n0 ≤ h113.size := by rw [W113.size]; exact Z110
  refine own_st (T' := T113) (F' := (mkF m 206 #[.val (.int ja), .val (.int jd), .val (.long je), .second, .val (.long v75), .second, .val (.ref b76), .val (.long v78), .second, .val (.long v89), .second, .val (.long v102), .second, .unset, .unset, .unset, .unset, .unset, .unset, .unset, .unset] [])) (st113) ?_
  refine own_st (T' := T113) (F' := (mkF m 208 #[.val (.int ja), .val (.int jd), .val (.long je), .second, .val (.long v75), .second, .val (.ref b76), .val (.long v78), .second, .val (.long v89), .second, .val (.long v102), .second, .unset, .unset, .unset, .unset, .unset, .unset, .unset, .unset] [(.long v75)])) (fun _ kq => XS.lload X113.here hx rfl (hb hby at_206) rfl kq) ?_
  refine own_st (T' := T113) (F' := (mkF m 209 #[.val (.int ja), .val (.int jd), .val (.long je), .second, .val (.long v75), .second, .val (.ref b76), .val (.long v78), .second, .val (.long v89), .second, .val (.long v102), .second, .unset, .unset, .unset, .unset, .unset, .unset, .unset, .unset] [(.int jd), (.long v75)])) (fun _ kq => XS.iloadN X113.here hx rfl (hb hby at_208) rfl kq) ?_
  refine own_st (T' := T113) (F' := (mkF m 211 #[.val (.int ja), .val (.int jd), .val (.long je), .second, .val (.long v75), .second, .val (.ref b76), .val (.long v78), .second, .val (.long v89), .second, .val (.long v102), .second, .unset, .unset, .unset, .unset, .unset, .unset, .unset, .unset] [(.int (63 : Int32)), (.int jd), (.long v75)])) (fun _ kq => XS.bipush X113.here hx rfl (hb hby at_209) kq) ?_
  refine own_st (T' := T113) (F' := (mkF m 212 #[.val (.int ja), .val (.int jd), .val (.long je), .second, .val (.long v75), .second, .val (.ref b76), .val (.long v78), .second, .val (.long v89), .second, .val (.long v102), .second, .unset, .unset, .unset, .unset, .unset, .unset, .unset, .unset] [(.int (jd &&& (63 : Int32))), (.long v75)])) (fun _ kq => XS.iand X113.here hx rfl (hb hby at_211) rfl kq) ?_
  refine own_st (T' := T113) (F' := (mkF m 213 #[.val (.int ja), .val (.int jd), .val (.long je), .second, .val (.long v75), .second, .val (.ref b76), .val (.long v78), .second, .val (.long v89), .second, .val (.long v102), .second, .unset, .unset, .unset, .unset, .unset, .unset, .unset, .unset] [(.long ((jd &&& (63 : Int32)).toInt64)), (.long v75)])) (fun _ kq => XS.i2l X113.here hx rfl (hb hby at_212) rfl kq) ?_
  refine own_st (T' := T113) (F' := (mkF m 214 #[.val (.int ja), .val (.int jd), .val (.long je), .second, .val (.long v75), .second, .val (.ref b76), .val (.long v78), .second, .val (.long v89), .second, .val (.long v102), .second, .unset, .unset, .unset, .unset, .unset, .unset, .unset, .unset] [(.long (v75 + ((jd &&& (63 : Int32)).toInt64)))])) (fun _ kq => XS.ladd X113.here hx rfl (hb hby at_213) rfl kq) ?_
  generalize hv115 : (v75 + ((jd &&& (63 : Int32)).toInt64)) = v115
  refine own_st (T' := T113) (F' := (mkF m 216 #[.val (.int ja), .val (.int jd), .val (.long je), .second, .val (.long v75), .second, .val (.ref b76), .val (.long v78), .second, .val (.long v89), .second, .val (.long v102), .second, .val (.long v115), .second, .unset, .unset, .unset, .unset, .unset, .unset] [])) (fun _ kq => XS.lstore X113.here hx rfl (hb hby at_214) rfl (l' := #[.val (.int ja), .val (.int jd), .val (.long je), .second, .val (.long v75), .second, .val (.ref b76), .val (.long v78), .second, .val (.long v89), .second, .val (.long v102), .second, .val (.long v115), .second, .unset, .unset, .unset, .unset, .unset, .unset]) rfl kq) ?_
  refine own_st (T' := T113) (F' := (mkF m 218 #[.val (.int ja), .val (.int jd), .val (.long je), .second, .val (.long v75), .second, .val (.ref b76), .val (.long v78), .second, .val (.long v89), .second, .val (.long v102), .second, .val (.long v115), .second, .unset, .unset, .unset, .unset, .unset, .unset] [(.long v115)])) (fun _ kq => XS.lload X113.here hx rfl (hb hby at_216) rfl kq) ?_
  refine own_st (T' := T113) (F' := (mkF m 219 #[.val (.int ja), .val (.int jd), .val (.long je), .second, .val (.long v75), .second, .val (.ref b76), .val (.long v78), .second, .val (.long v89), .second, .val (.long v102), .second, .val (.long v115), .second, .unset, .unset, .unset, .unset, .unset, .unset] [(.int jd), (.long v115)])) (fun _ kq => XS.iloadN X113.here hx rfl (hb hby at_218) rfl kq) ?_
  refine own_st (T' := T113) (F' := (mkF m 221 #[.val (.int ja), .val (.int jd), .val (.long je), .second, .val (.long v75), .second, .val (.ref b76), .val (.long v78), .second, .val (.long v89), .second, .val (.long v102), .second, .val (.long v115), .second, .unset, .unset, .unset, .unset, .unset, .unset] [(.int (6 : Int32)), (.int jd), (.long v115)])) (fun _ kq => XS.bipush X113.here hx rfl (hb hby at_219) kq) ?_
  refine own_st (T' := T113) (F' := (mkF m 222 #[.val (.int ja), .val (.int jd), .val (.long je), .second, .val (.long v75), .second, .val (.ref b76), .val (.long v78), .second, .val (.long v89), .second, .val (.long v102), .second, .val (.long v115), .second, .unset, .unset, .unset, .unset, .unset, .unset] [(.int ((jd.toUInt32 >>> ((6 : Int32) &&& 31).toUInt32).toInt32)), (.long v115)])) (fun _ kq => XS.iushr X113.here hx rfl (hb hby at_221) rfl kq) ?_
  refine own_st (T' := T113) (F' := (mkF m 224 #[.val (.int ja), .val (.int jd), .val (.long je), .second, .val (.long v75), .second, .val (.ref b76), .val (.long v78), .second, .val (.long v89), .second, .val (.long v102), .second, .val (.long v115), .second, .unset, .unset, .unset, .unset, .unset, .unset] [(.int (31 : Int32)), (.int ((jd.toUInt32 >>> ((6 : Int32) &&& 31).toUInt32).toInt32)), (.long v115)])) (fun _ kq => XS.bipush X113.here hx rfl (hb hby at_222) kq) ?_
  refine own_st (T' := T113) (F' := (mkF m 225 #[.val (.int ja), .val (.int jd), .val (.long je), .second, .val (.long v75), .second, .val (.ref b76), .val (.long v78), .second, .val (.long v89), .second, .val (.long v102), .second, .val (.long v115), .second, .unset, .unset, .unset, .unset, .unset, .unset] [(.int (((jd.toUInt32 >>> ((6 : Int32) &&& 31).toUInt32).toInt32) &&& (31 : Int32))), (.long v115)])) (fun _ kq => XS.iand X113.here hx rfl (hb hby at_224) rfl kq) ?_
  refine own_st (T' := T113) (F' := (mkF m 226 #[.val (.int ja), .val (.int jd), .val (.long je), .second, .val (.long v75), .second, .val (.ref b76), .val (.long v78), .second, .val (.long v89), .second, .val (.long v102), .second, .val (.long v115), .second, .unset, .unset, .unset, .unset, .unset, .unset] [(.long ((((jd.toUInt32 >>> ((6 : Int32) &&& 31).toUInt32).toInt32) &&& (31 : Int32)).toInt64)), (.long v115)])) (fun _ kq => XS.i2l X113.here hx rfl (hb hby at_225) rfl kq) ?_
  refine own_st (T' := T113) (F' := (mkF m 227 #[.val (.int ja), .val (.int jd), .val (.long je), .second, .val (.long v75), .second, .val (.ref b76), .val (.long v78), .second, .val (.long v89), .second, .val (.long v102), .second, .val (.long v115), .second, .unset, .unset, .unset, .unset, .unset, .unset] [(.long (v115 + ((((jd.toUInt32 >>> ((6 : Int32) &&& 31).toUInt32).toInt32) &&& (31 : Int32)).toInt64)))])) (fun _ kq => XS.ladd X113.here hx rfl (hb hby at_226) rfl kq) ?_
  generalize hv116 : (v115 + ((((jd.toUInt32 >>> ((6 : Int32) &&& 31).toUInt32).toInt32) &&& (31 : Int32)).toInt64)) = v116
  refine own_st (T' := T113) (F' := (mkF m 229 #[.val (.int ja), .val (.int jd), .val (.long je), .second, .val (.long v75), .second, .val (.ref b76), .val (.long v78), .second, .val (.long v89), .second, .val (.long v102), .second, .val (.long v115), .second, .val (.long v116), .second, .unset, .unset, .unset, .unset] [])) (fun _ kq => XS.lstore X113.here hx rfl (hb hby at_227) rfl (l' := #[.val (.int ja), .val (.int jd), .val (.long je), .second, .val (.long v75), .second, .val (.ref b76), .val (.long v78), .second, .val (.long v89), .second, .val (.long v102), .second, .val (.long v115), .second, .val (.long v116), .second, .unset, .unset, .unset, .unset]) rfl kq) ?_
  refine own_st (T' := T113) (F' := (mkF m 231 #[.val (.int ja), .val (.int jd), .val (.long je), .second, .val (.long v75), .second, .val (.ref b76), .val (.long v78), .second, .val (.long v89), .second, .val (.long v102), .second, .val (.long v115), .second, .val (.long v116), .second, .unset, .unset, .unset, .unset] [(.long v116)])) (fun _ kq => XS.lload X113.here hx rfl (hb hby at_229) rfl kq) ?_
  refine own_st (T' := T113) (F' := (mkF m 232 #[.val (.int ja), .val (.int jd), .val (.long je), .second, .val (.long v75), .second, .val (.ref b76), .val (.long v78), .second, .val (.long v89), .second, .val (.long v102), .second, .val (.long v115), .second, .val (.long v116), .second, .unset, .unset, .unset, .unset] [(.int jd), (.long v116)])) (fun _ kq => XS.iloadN X113.here hx rfl (hb hby at_231) rfl kq) ?_
  refine own_st (T' := T113) (F' := (mkF m 234 #[.val (.int ja), .val (.int jd), .val (.long je), .second, .val (.long v75), .second, .val (.ref b76), .val (.long v78), .second, .val (.long v89), .second, .val (.long v102), .second, .val (.long v115), .second, .val (.long v116), .second, .unset, .unset, .unset, .unset] [(.int (11 : Int32)), (.int jd), (.long v116)])) (fun _ kq => XS.bipush X113.here hx rfl (hb hby at_232) kq) ?_
  refine own_st (T' := T113) (F' := (mkF m 235 #[.val (.int ja), .val (.int jd), .val (.long je), .second, .val (.long v75), .second, .val (.ref b76), .val (.long v78), .second, .val (.long v89), .second, .val (.long v102), .second, .val (.long v115), .second, .val (.long v116), .second, .unset, .unset, .unset, .unset] [(.int ((jd.toUInt32 >>> ((11 : Int32) &&& 31).toUInt32).toInt32)), (.long v116)])) (fun _ kq => XS.iushr X113.here hx rfl (hb hby at_234) rfl kq) ?_
  refine own_st (T' := T113) (F' := (mkF m 237 #[.val (.int ja), .val (.int jd), .val (.long je), .second, .val (.long v75), .second, .val (.ref b76), .val (.long v78), .second, .val (.long v89), .second, .val (.long v102), .second, .val (.long v115), .second, .val (.long v116), .second, .unset, .unset, .unset, .unset] [(.int (31 : Int32)), (.int ((jd.toUInt32 >>> ((11 : Int32) &&& 31).toUInt32).toInt32)), (.long v116)])) (fun _ kq => XS.bipush X113.here hx rfl (hb hby at_235) kq) ?_
  refine own_st (T' := T113) (F' := (mkF m 238 #[.val (.int ja), .val (.int jd), .val (.long je), .second, .val (.long v75), .second, .val (.ref b76), .val (.long v78), .second, .val (.long v89), .second, .val (.long v102), .second, .val (.long v115), .second, .val (.long v116), .second, .unset, .unset, .unset, .unset] [(.int (((jd.toUInt32 >>> ((11 : Int32) &&& 31).toUInt32).toInt32) &&& (31 : Int32))), (.long v116)])) (fun _ kq => XS.iand X113.here hx rfl (hb hby at_237) rfl kq) ?_
  refine own_st (T' := T113) (F' := (mkF m 239 #[.val (.int ja), .val (.int jd), .val (.long je), .second, .val (.long v75), .second, .val (.ref b76), .val (.long v78), .second, .val (.long v89), .second, .val (.long v102), .second, .val (.long v115), .second, .val (.long v116), .second, .unset, .unset, .unset, .unset] [(.long ((((jd.toUInt32 >>> ((11 : Int32) &&& 31).toUInt32).toInt32) &&& (31 : Int32)).toInt64)), (.long v116)])) (fun _ kq => XS.i2l X113.here hx rfl (hb hby at_238) rfl kq) ?_
  refine own_st (T' := T113) (F' := (mkF m 240 #[.val (.int ja), .val (.int jd), .val (.long je), .second, .val (.long v75), .second, .val (.ref b76), .val (.long v78), .second, .val (.long v89), .second, .val (.long v102), .second, .val (.long v115), .second, .val (.long v116), .second, .unset, .unset, .unset, .unset] [(.long (v116 + ((((jd.toUInt32 >>> ((11 : Int32) &&& 31).toUInt32).toInt32) &&& (31 : Int32)).toInt64)))])) (fun _ kq => XS.ladd X113.here hx rfl (hb hby at_239) rfl kq) ?_
  generalize hv117 : (v116 + ((((jd.toUInt32 >>> ((11 : Int32) &&& 31).toUInt32).toInt32) &&& (31 : Int32)).toInt64)) = v117
  refine own_st (T' := T113) (F' := (mkF m 242 #[.val (.int ja), .val (.int jd), .val (.long je), .second, .val (.long v75), .second, .val (.ref b76), .val (.long v78), .second, .val (.long v89), .second, .val (.long v102), .second, .val (.long v115), .second, .val (.long v116), .second, .val (.long v117), .second, .unset, .unset] [])) (fun _ kq => XS.lstore X113.here hx rfl (hb hby at_240) rfl (l' := #[.val (.int ja), .val (.int jd), .val (.long je), .second, .val (.long v75), .second, .val (.ref b76), .val (.long v78), .second, .val (.long v89), .second, .val (.long v102), .second, .val (.long v115), .second, .val (.long v116), .second, .val (.long v117), .second, .unset, .unset]) rfl kq) ?_
  obtain ⟨T118, h118, X118, e118, E118, A118, D118, -, st118⟩ := newO X113 hx hZ hown (hw _ (List.mem_of_getElem? (i := 2) rfl)) (hw _ (List.mem_of_getElem? (i := 3) rfl)) (hw _ (List.mem_of_getElem? (i := 4) rfl)) e113 (g := (mkF m 242 #[.val (.int ja), .val (.int jd), .val (.long je), .second, .val (.long v75), .second, .val (.ref b76), .val (.long v78), .second, .val (.long v89), .second, .val (.long v102), .second, .val (.long v115), .second, .val (.long v116), .second, .val (.long v117), .second, .unset, .unset] [])) rfl (hb hby at_242) (by decide) (by decide)
  obtain ⟨b118, g118⟩ : ∃ z, z = h113.size := ⟨_, rfl⟩
  rw [← g118] at A118 D118 st118
  have VAb76_119 := V113.ext E118
  have ne_b76_b118 : b76 ≠ b118 := by rw [g118]; exact Nat.ne_of_lt V113.lt
  have Fb118_runs : Fld Z h118 b118 "com/example/cotejo/cotejo/engine/Alignment" "runs" "[J" .null := D118 (Or.inl (hw _ (List.mem_of_getElem? (i := 12) rfl))) (ty := (.array .long)) (by decide)
  have Fb118_first : Fld Z h118 b118 "com/example/cotejo/cotejo/engine/Alignment" "first" "I" (.int (0 : Int32)) := D118 (Or.inl (hw _ (List.mem_of_getElem? (i := 19) rfl))) (ty := .int) (by decide)
  have Fb118_end : Fld Z h118 b118 "com/example/cotejo/cotejo/engine/Alignment" "end" "I" (.int (0 : Int32)) := D118 (Or.inl (hw _ (List.mem_of_getElem? (i := 21) rfl))) (ty := .int) (by decide)
  have Fb118_shift : Fld Z h118 b118 "com/example/cotejo/cotejo/engine/Alignment" "shift" "J" (.long (0 : Int64)) := D118 (Or.inl (hw _ (List.mem_of_getElem? (i := 32) rfl))) (ty := .long) (by decide)
  have gb118 : n0 ≤ b118 := Nat.le_trans Z113 (Nat.le_of_eq g118.symm)
  have Z118 : n0 ≤ h118.size := Nat.le_trans Z113 E118.1
  refine own_st (T' := T118) (F' := (mkF m 245 #[.val (.int ja), .val (.int jd), .val (.long je), .second, .val (.long v75), .second, .val (.ref b76), .val (.long v78), .second, .val (.long v89), .second, .val (.long v102), .second, .val (.long v115), .second, .val (.long v116), .second, .val (.long v117), .second, .unset, .unset] [(.ref b118)])) (st118) ?_
  refine own_st (T' := T118) (F' := (mkF m 246 #[.val (.int ja), .val (.int jd), .val (.long je), .second, .val (.long v75), .second, .val (.ref b76), .val (.long v78), .second, .val (.long v89), .second, .val (.long v102), .second, .val (.long v115), .second, .val (.long v116), .second, .val (.long v117), .second, .unset, .unset] [(.ref b118), (.ref b118)])) (fun _ kq => XS.dup X118.here hx rfl (hb hby at_245) rfl rfl kq) ?_
  obtain ⟨v120, T120, L120, X120, hQ120, st120⟩ := own_callI X118 hx hZ 1 rfl hown (hw _ (List.mem_of_getElem? (i := 5) rfl)) (hw _ (List.mem_of_getElem? (i := 6) rfl)) (hw _ (List.mem_of_getElem? (i := 4) rfl)) (hw _ (List.mem_of_getElem? (i := 7) rfl)) (by decide) (rm1 l Z a0 hw [] b118 h118 n0 Z118 gb118 A118 Fb118_runs Fb118_first Fb118_end Fb118_shift) (by decide) (by decide) e118 (by decide) (by decide) (g := (mkF m 246 #[.val (.int ja), .val (.int jd), .val (.long je), .second, .val (.long v75), .second, .val (.ref b76), .val (.long v78), .second, .val (.long v89), .second, .val (.long v102), .second, .val (.long v115), .second, .val (.long v116), .second, .val (.long v117), .second, .unset, .unset] [(.ref b118), (.ref b118)])) rfl (by rw [hml]; rfl) (argsL := []) (rest := [(.ref b118)]) (lenOf pd2 rfl) rfl rfl (by show 2 * 0 + _ ≤ _; exact Nat.le_of_eq rfl) (hb hby at_246)
  obtain ⟨rfl, NQ120, K120, r120, gr120, A120⟩ := hQ120
  have N120 := Fr.app N113 NQ120
  have Z120 := Nat.le_trans Z118 K120.1
  have ge120 : n0 ≤ r120 := Nat.le_trans Z118 gr120
  have ne_b76_r120 : b76 ≠ r120 := Nat.ne_of_lt (Nat.lt_of_lt_of_le VAb76_119.lt gr120)
  have VAb76_120 := VAb76_119.keep K120 (ninS ne_b76_b118 nin0)
  refine own_st (T' := T120) (F' := (mkF m 249 #[.val (.int ja), .val (.int jd), .val (.long je), .second, .val (.long v75), .second, .val (.ref b76), .val (.long v78), .second, .val (.long v89), .second, .val (.long v102), .second, .val (.long v115), .second, .val (.long v116), .second, .val (.long v117), .second, .unset, .unset] [(.ref b118)])) (st120) ?_
  refine own_st (T' := T120) (F' := (mkF m 251 #[.val (.int ja), .val (.int jd), .val (.long je), .second, .val (.long v75), .second, .val (.ref b76), .val (.long v78), .second, .val (.long v89), .second, .val (.long v102), .second, .val (.long v115), .second, .val (.long v116), .second, .val (.long v117), .second, .val (.ref b118), .unset] [])) (fun _ kq => XS.astore X120.here hx rfl (hb hby at_249) rfl rfl (l' := #[.val (.int ja), .val (.int jd), .val (.long je), .second, .val (.long v75), .second, .val (.ref b76), .val (.long v78), .second, .val (.long v89), .second, .val (.long v102), .second, .val (.long v115), .second, .val (.long v116), .second, .val (.long v117), .second, .val (.ref b118), .unset]) rfl kq) ?_
  refine own_st (T' := T120) (F' := (mkF m 253 #[.val (.int ja), .val (.int jd), .val (.long je), .second, .val (.long v75), .second, .val (.ref b76), .val (.long v78), .second, .val (.long v89), .second, .val (.long v102), .second, .val (.long v115), .second, .val (.long v116), .second, .val (.long v117), .second, .val (.ref b118), .unset] [(.ref b118)])) (fun _ kq => XS.aload X120.here hx rfl (hb hby at_251) rfl rfl kq) ?_
  refine own_st (T' := T120) (F' := (mkF m 255 #[.val (.int ja), .val (.int jd), .val (.long je), .second, .val (.long v75), .second, .val (.ref b76), .val (.long v78), .second, .val (.long v89), .second, .val (.long v102), .second, .val (.long v115), .second, .val (.long v116), .second, .val (.long v117), .second, .val (.ref b118), .unset] [(.ref b76), (.ref b118)])) (fun _ kq => XS.aload X120.here hx rfl (hb hby at_253) rfl rfl kq) ?_
  refine own_st (T' := T120) (F' := (mkF m 256 #[.val (.int ja), .val (.int jd), .val (.long je), .second, .val (.long v75), .second, .val (.ref b76), .val (.long v78), .second, .val (.long v89), .second, .val (.long v102), .second, .val (.long v115), .second, .val (.long v116), .second, .val (.long v117), .second, .val (.ref b118), .unset] [(.int (0 : Int32)), (.ref b76), (.ref b118)])) (fun _ kq => XS.iconst X120.here hx rfl (hb hby at_255) kq) ?_
  refine own_st (T' := T120) (F' := (mkF m 257 #[.val (.int ja), .val (.int jd), .val (.long je), .second, .val (.long v75), .second, .val (.ref b76), .val (.long v78), .second, .val (.long v89), .second, .val (.long v102), .second, .val (.long v115), .second, .val (.long v116), .second, .val (.long v117), .second, .val (.ref b118), .unset] [(.long v78), (.ref b118)])) (own_laload X120 hx hZ rfl VAb76_120 (g := (mkF m 256 #[.val (.int ja), .val (.int jd), .val (.long je), .second, .val (.long v75), .second, .val (.ref b76), .val (.long v78), .second, .val (.long v89), .second, .val (.long v102), .second, .val (.long v115), .second, .val (.long v116), .second, .val (.long v117), .second, .val (.ref b118), .unset] [(.int (0 : Int32)), (.ref b76), (.ref b118)])) rfl rfl (hb hby at_256) (by decide) (Nat.le_of_ble_eq_true rfl) (w := v78) rfl) ?_
  refine own_st (T' := T120) (F' := (mkF m 259 #[.val (.int ja), .val (.int jd), .val (.long je), .second, .val (.long v75), .second, .val (.ref b76), .val (.long v78), .second, .val (.long v89), .second, .val (.long v102), .second, .val (.long v115), .second, .val (.long v116), .second, .val (.long v117), .second, .val (.ref b118), .unset] [(.ref b76), (.long v78), (.ref b118)])) (fun _ kq => XS.aload X120.here hx rfl (hb hby at_257) rfl rfl kq) ?_
  refine own_st (T' := T120) (F' := (mkF m 260 #[.val (.int ja), .val (.int jd), .val (.long je), .second, .val (.long v75), .second, .val (.ref b76), .val (.long v78), .second, .val (.long v89), .second, .val (.long v102), .second, .val (.long v115), .second, .val (.long v116), .second, .val (.long v117), .second, .val (.ref b118), .unset] [(.int (1 : Int32)), (.ref b76), (.long v78), (.ref b118)])) (fun _ kq => XS.iconst X120.here hx rfl (hb hby at_259) kq) ?_
  refine own_st (T' := T120) (F' := (mkF m 261 #[.val (.int ja), .val (.int jd), .val (.long je), .second, .val (.long v75), .second, .val (.ref b76), .val (.long v78), .second, .val (.long v89), .second, .val (.long v102), .second, .val (.long v115), .second, .val (.long v116), .second, .val (.long v117), .second, .val (.ref b118), .unset] [(.long v81), (.long v78), (.ref b118)])) (own_laload X120 hx hZ rfl VAb76_120 (g := (mkF m 260 #[.val (.int ja), .val (.int jd), .val (.long je), .second, .val (.long v75), .second, .val (.ref b76), .val (.long v78), .second, .val (.long v89), .second, .val (.long v102), .second, .val (.long v115), .second, .val (.long v116), .second, .val (.long v117), .second, .val (.ref b118), .unset] [(.int (1 : Int32)), (.ref b76), (.long v78), (.ref b118)])) rfl rfl (hb hby at_260) (by decide) (Nat.le_of_ble_eq_true rfl) (w := v81) rfl) ?_
  refine own_st (T' := T120) (F' := (mkF m 263 #[.val (.int ja), .val (.int jd), .val (.long je), .second, .val (.long v75), .second, .val (.ref b76), .val (.long v78), .second, .val (.long v89), .second, .val (.long v102), .second, .val (.long v115), .second, .val (.long v116), .second, .val (.long v117), .second, .val (.ref b118), .unset] [(.ref b76), (.long v81), (.long v78), (.ref b118)])) (fun _ kq => XS.aload X120.here hx rfl (hb hby at_261) rfl rfl kq) ?_
  refine own_st (T' := T120) (F' := (mkF m 264 #[.val (.int ja), .val (.int jd), .val (.long je), .second, .val (.long v75), .second, .val (.ref b76), .val (.long v78), .second, .val (.long v89), .second, .val (.long v102), .second, .val (.long v115), .second, .val (.long v116), .second, .val (.long v117), .second, .val (.ref b118), .unset] [(.int (2 : Int32)), (.ref b76), (.long v81), (.long v78), (.ref b118)])) (fun _ kq => XS.iconst X120.here hx rfl (hb hby at_263) kq) ?_
  refine own_st (T' := T120) (F' := (mkF m 265 #[.val (.int ja), .val (.int jd), .val (.long je), .second, .val (.long v75), .second, .val (.ref b76), .val (.long v78), .second, .val (.long v89), .second, .val (.long v102), .second, .val (.long v115), .second, .val (.long v116), .second, .val (.long v117), .second, .val (.ref b118), .unset] [(.long v78), (.long v81), (.long v78), (.ref b118)])) (own_laload X120 hx hZ rfl VAb76_120 (g := (mkF m 264 #[.val (.int ja), .val (.int jd), .val (.long je), .second, .val (.long v75), .second, .val (.ref b76), .val (.long v78), .second, .val (.long v89), .second, .val (.long v102), .second, .val (.long v115), .second, .val (.long v116), .second, .val (.long v117), .second, .val (.ref b118), .unset] [(.int (2 : Int32)), (.ref b76), (.long v81), (.long v78), (.ref b118)])) rfl rfl (hb hby at_264) (by decide) (Nat.le_of_ble_eq_true rfl) (w := v78) rfl) ?_
  refine own_st (T' := T120) (F' := (mkF m 267 #[.val (.int ja), .val (.int jd), .val (.long je), .second, .val (.long v75), .second, .val (.ref b76), .val (.long v78), .second, .val (.long v89), .second, .val (.long v102), .second, .val (.long v115), .second, .val (.long v116), .second, .val (.long v117), .second, .val (.ref b118), .unset] [(.ref b76), (.long v78), (.long v81), (.long v78), (.ref b118)])) (fun _ kq => XS.aload X120.here hx rfl (hb hby at_265) rfl rfl kq) ?_
  refine own_st (T' := T120) (F' := (mkF m 268 #[.val (.int ja), .val (.int jd), .val (.long je), .second, .val (.long v75), .second, .val (.ref b76), .val (.long v78), .second, .val (.long v89), .second, .val (.long v102), .second, .val (.long v115), .second, .val (.long v116), .second, .val (.long v117), .second, .val (.ref b118), .unset] [(.int (3 : Int32)), (.ref b76), (.long v78), (.long v81), (.long v78), (.ref b118)])) (fun _ kq => XS.iconst X120.here hx rfl (hb hby at_267) kq) ?_
  refine own_st (T' := T120) (F' := (mkF m 269 #[.val (.int ja), .val (.int jd), .val (.long je), .second, .val (.long v75), .second, .val (.ref b76), .val (.long v78), .second, .val (.long v89), .second, .val (.long v102), .second, .val (.long v115), .second, .val (.long v116), .second, .val (.long v117), .second, .val (.ref b118), .unset] [(.long v86), (.long v78), (.long v81), (.long v78), (.ref b118)])) (own_laload X120 hx hZ rfl VAb76_120 (g := (mkF m 268 #[.val (.int ja), .val (.int jd), .val (.long je), .second, .val (.long v75), .second, .val (.ref b76), .val (.long v78), .second, .val (.long v89), .second, .val (.long v102), .second, .val (.long v115), .second, .val (.long v116), .second, .val (.long v117), .second, .val (.ref b118), .unset] [(.int (3 : Int32)), (.ref b76), (.long v78), (.long v81), (.long v78), (.ref b118)])) rfl rfl (hb hby at_268) (by decide) (Nat.le_of_ble_eq_true rfl) (w := v86) rfl) ?_
  obtain ⟨v121, T121, L121, X121, hQ121, st121⟩ := own_callV X120 hx hZ 0 hown (hw _ (List.mem_of_getElem? (i := 13) rfl)) (hw _ (List.mem_of_getElem? (i := 14) rfl)) (hw _ (List.mem_of_getElem? (i := 16) rfl)) (hw _ (List.mem_of_getElem? (i := 15) rfl)) (hw _ (List.mem_of_getElem? (i := 4) rfl)) (hw _ (List.mem_of_getElem? (i := 17) rfl)) (by decide) (rm3 l Z a0 hw [] b118 v78 v81 v78 v86 r120 (List.replicate 64 0) (0 : Int32) (0 : Int64) T120.heap n0 Z120 gb118 ge120 ⟨A120.1, A120.2.1, A120.2.2.1, A120.2.2.2.1, A120.2.2.2.2.1, A120.2.2.2.2.2.1, A120.2.2.2.2.2.2⟩ (by decide) (by decide)) (by decide) (by decide) rfl A120.1 (by decide) (by decide) (g := (mkF m 269 #[.val (.int ja), .val (.int jd), .val (.long je), .second, .val (.long v75), .second, .val (.ref b76), .val (.long v78), .second, .val (.long v89), .second, .val (.long v102), .second, .val (.long v115), .second, .val (.long v116), .second, .val (.long v117), .second, .val (.ref b118), .unset] [(.long v86), (.long v78), (.long v81), (.long v78), (.ref b118)])) rfl (by rw [hml]; rfl) (argsL := [(.long v78), (.long v81), (.long v78), (.long v86)]) (rest := []) (lenOf pd3 rfl) rfl rfl (by show 2 * 0 + _ ≤ _; exact Nat.le_of_eq rfl) (hb hby at_269)
  obtain ⟨rfl, NQ121, K121, A121⟩ := hQ121
  have N121 := Fr.app N120 NQ121
  have Z121 := Nat.le_trans Z120 K121.1
  have VAb76_121 := VAb76_120.keep K121 (ninS ne_b76_b118 (ninS ne_b76_r120 nin0))
  obtain ⟨xs121, hxs121⟩ : ∃ z, z = (own_add (List.replicate 64 0) (0 : Int32) v78 v81 v78 v86) := ⟨_, rfl⟩
  rw [← hxs121] at A121
  replace A121 : own_Al Z T121.heap b118 r120 xs121 (0 : Int32) (4 : Int32) (0 : Int64) := A121
  refine own_st (T' := T121) (F' := (mkF m 272 #[.val (.int ja), .val (.int jd), .val (.long je), .second, .val (.long v75), .second, .val (.ref b76), .val (.long v78), .second, .val (.long v89), .second, .val (.long v102), .second, .val (.long v115), .second, .val (.long v116), .second, .val (.long v117), .second, .val (.ref b118), .unset] [])) (st121) ?_
  refine own_st (T' := T121) (F' := (mkF m 274 #[.val (.int ja), .val (.int jd), .val (.long je), .second, .val (.long v75), .second, .val (.ref b76), .val (.long v78), .second, .val (.long v89), .second, .val (.long v102), .second, .val (.long v115), .second, .val (.long v116), .second, .val (.long v117), .second, .val (.ref b118), .unset] [(.ref b118)])) (fun _ kq => XS.aload X121.here hx rfl (hb hby at_272) rfl rfl kq) ?_
  refine own_st (T' := T121) (F' := (mkF m 276 #[.val (.int ja), .val (.int jd), .val (.long je), .second, .val (.long v75), .second, .val (.ref b76), .val (.long v78), .second, .val (.long v89), .second, .val (.long v102), .second, .val (.long v115), .second, .val (.long v116), .second, .val (.long v117), .second, .val (.ref b118), .unset] [(.ref b76), (.ref b118)])) (fun _ kq => XS.aload X121.here hx rfl (hb hby at_274) rfl rfl kq) ?_
  refine own_st (T' := T121) (F' := (mkF m 277 #[.val (.int ja), .val (.int jd), .val (.long je), .second, .val (.long v75), .second, .val (.ref b76), .val (.long v78), .second, .val (.long v89), .second, .val (.long v102), .second, .val (.long v115), .second, .val (.long v116), .second, .val (.long v117), .second, .val (.ref b118), .unset] [(.int (4 : Int32)), (.ref b76), (.ref b118)])) (fun _ kq => XS.iconst X121.here hx rfl (hb hby at_276) kq) ?_
  refine own_st (T' := T121) (F' := (mkF m 278 #[.val (.int ja), .val (.int jd), .val (.long je), .second, .val (.long v75), .second, .val (.ref b76), .val (.long v78), .second, .val (.long v89), .second, .val (.long v102), .second, .val (.long v115), .second, .val (.long v116), .second, .val (.long v117), .second, .val (.ref b118), .unset] [(.long v90), (.ref b118)])) (own_laload X121 hx hZ rfl VAb76_121 (g := (mkF m 277 #[.val (.int ja), .val (.int jd), .val (.long je), .second, .val (.long v75), .second, .val (.ref b76), .val (.long v78), .second, .val (.long v89), .second, .val (.long v102), .second, .val (.long v115), .second, .val (.long v116), .second, .val (.long v117), .second, .val (.ref b118), .unset] [(.int (4 : Int32)), (.ref b76), (.ref b118)])) rfl rfl (hb hby at_277) (by decide) (Nat.le_of_ble_eq_true rfl) (w := v90) rfl) ?_
  refine own_st (T' := T121) (F' := (mkF m 280 #[.val (.int ja), .val (.int jd), .val (.long je), .second, .val (.long v75), .second, .val (.ref b76), .val (.long v78), .second, .val (.long v89), .second, .val (.long v102), .second, .val (.long v115), .second, .val (.long v116), .second, .val (.long v117), .second, .val (.ref b118), .unset] [(.ref b76), (.long v90), (.ref b118)])) (fun _ kq => XS.aload X121.here hx rfl (hb hby at_278) rfl rfl kq) ?_
  refine own_st (T' := T121) (F' := (mkF m 281 #[.val (.int ja), .val (.int jd), .val (.long je), .second, .val (.long v75), .second, .val (.ref b76), .val (.long v78), .second, .val (.long v89), .second, .val (.long v102), .second, .val (.long v115), .second, .val (.long v116), .second, .val (.long v117), .second, .val (.ref b118), .unset] [(.int (5 : Int32)), (.ref b76), (.long v90), (.ref b118)])) (fun _ kq => XS.iconst X121.here hx rfl (hb hby at_280) kq) ?_
  refine own_st (T' := T121) (F' := (mkF m 282 #[.val (.int ja), .val (.int jd), .val (.long je), .second, .val (.long v75), .second, .val (.ref b76), .val (.long v78), .second, .val (.long v89), .second, .val (.long v102), .second, .val (.long v115), .second, .val (.long v116), .second, .val (.long v117), .second, .val (.ref b118), .unset] [(.long v93), (.long v90), (.ref b118)])) (own_laload X121 hx hZ rfl VAb76_121 (g := (mkF m 281 #[.val (.int ja), .val (.int jd), .val (.long je), .second, .val (.long v75), .second, .val (.ref b76), .val (.long v78), .second, .val (.long v89), .second, .val (.long v102), .second, .val (.long v115), .second, .val (.long v116), .second, .val (.long v117), .second, .val (.ref b118), .unset] [(.int (5 : Int32)), (.ref b76), (.long v90), (.ref b118)])) rfl rfl (hb hby at_281) (by decide) (Nat.le_of_ble_eq_true rfl) (w := v93) rfl) ?_
  refine own_st (T' := T121) (F' := (mkF m 284 #[.val (.int ja), .val (.int jd), .val (.long je), .second, .val (.long v75), .second, .val (.ref b76), .val (.long v78), .second, .val (.long v89), .second, .val (.long v102), .second, .val (.long v115), .second, .val (.long v116), .second, .val (.long v117), .second, .val (.ref b118), .unset] [(.ref b76), (.long v93), (.long v90), (.ref b118)])) (fun _ kq => XS.aload X121.here hx rfl (hb hby at_282) rfl rfl kq) ?_
  refine own_st (T' := T121) (F' := (mkF m 286 #[.val (.int ja), .val (.int jd), .val (.long je), .second, .val (.long v75), .second, .val (.ref b76), .val (.long v78), .second, .val (.long v89), .second, .val (.long v102), .second, .val (.long v115), .second, .val (.long v116), .second, .val (.long v117), .second, .val (.ref b118), .unset] [(.int (6 : Int32)), (.ref b76), (.long v93), (.long v90), (.ref b118)])) (fun _ kq => XS.bipush X121.here hx rfl (hb hby at_284) kq) ?_
  refine own_st (T' := T121) (F' := (mkF m 287 #[.val (.int ja), .val (.int jd), .val (.long je), .second, .val (.long v75), .second, .val (.ref b76), .val (.long v78), .second, .val (.long v89), .second, .val (.long v102), .second, .val (.long v115), .second, .val (.long v116), .second, .val (.long v117), .second, .val (.ref b118), .unset] [(.long v96), (.long v93), (.long v90), (.ref b118)])) (own_laload X121 hx hZ rfl VAb76_121 (g := (mkF m 286 #[.val (.int ja), .val (.int jd), .val (.long je), .second, .val (.long v75), .second, .val (.ref b76), .val (.long v78), .second, .val (.long v89), .second, .val (.long v102), .second, .val (.long v115), .second, .val (.long v116), .second, .val (.long v117), .second, .val (.ref b118), .unset] [(.int (6 : Int32)), (.ref b76), (.long v93), (.long v90), (.ref b118)])) rfl rfl (hb hby at_286) (by decide) (Nat.le_of_ble_eq_true rfl) (w := v96) rfl) ?_
  refine own_st (T' := T121) (F' := (mkF m 289 #[.val (.int ja), .val (.int jd), .val (.long je), .second, .val (.long v75), .second, .val (.ref b76), .val (.long v78), .second, .val (.long v89), .second, .val (.long v102), .second, .val (.long v115), .second, .val (.long v116), .second, .val (.long v117), .second, .val (.ref b118), .unset] [(.ref b76), (.long v96), (.long v93), (.long v90), (.ref b118)])) (fun _ kq => XS.aload X121.here hx rfl (hb hby at_287) rfl rfl kq) ?_
  refine own_st (T' := T121) (F' := (mkF m 291 #[.val (.int ja), .val (.int jd), .val (.long je), .second, .val (.long v75), .second, .val (.ref b76), .val (.long v78), .second, .val (.long v89), .second, .val (.long v102), .second, .val (.long v115), .second, .val (.long v116), .second, .val (.long v117), .second, .val (.ref b118), .unset] [(.int (7 : Int32)), (.ref b76), (.long v96), (.long v93), (.long v90), (.ref b118)])) (fun _ kq => XS.bipush X121.here hx rfl (hb hby at_289) kq) ?_
  refine own_st (T' := T121) (F' := (mkF m 292 #[.val (.int ja), .val (.int jd), .val (.long je), .second, .val (.long v75), .second, .val (.ref b76), .val (.long v78), .second, .val (.long v89), .second, .val (.long v102), .second, .val (.long v115), .second, .val (.long v116), .second, .val (.long v117), .second, .val (.ref b118), .unset] [(.long v99), (.long v96), (.long v93), (.long v90), (.ref b118)])) (own_laload X121 hx hZ rfl VAb76_121 (g := (mkF m 291 #[.val (.int ja), .val (.int jd), .val (.long je), .second, .val (.long v75), .second, .val (.ref b76), .val (.long v78), .second, .val (.long v89), .second, .val (.long v102), .second, .val (.long v115), .second, .val (.long v116), .second, .val (.long v117), .second, .val (.ref b118), .unset] [(.int (7 : Int32)), (.ref b76), (.long v96), (.long v93), (.long v90), (.ref b118)])) rfl rfl (hb hby at_291) (by decide) (Nat.le_of_ble_eq_true rfl) (w := v99) rfl) ?_
  obtain ⟨v122, T122, L122, X122, hQ122, st122⟩ := own_callV X121 hx hZ 0 hown (hw _ (List.mem_of_getElem? (i := 13) rfl)) (hw _ (List.mem_of_getElem? (i := 14) rfl)) (hw _ (List.mem_of_getElem? (i := 16) rfl)) (hw _ (List.mem_of_getElem? (i := 15) rfl)) (hw _ (List.mem_of_getElem? (i := 4) rfl)) (hw _ (List.mem_of_getElem? (i := 17) rfl)) (by decide) (rm3 l Z a0 hw [] b118 v90 v93 v96 v99 r120 xs121 (4 : Int32) (0 : Int64) T121.heap n0 Z121 gb118 ge120 ⟨A121.1, A121.2.1, A121.2.2.1, A121.2.2.2.1, A121.2.2.2.2.1, A121.2.2.2.2.2.1, A121.2.2.2.2.2.2⟩ (by decide) (by decide)) (by decide) (by decide) rfl A121.1 (by decide) (by decide) (g := (mkF m 292 #[.val (.int ja), .val (.int jd), .val (.long je), .second, .val (.long v75), .second, .val (.ref b76), .val (.long v78), .second, .val (.long v89), .second, .val (.long v102), .second, .val (.long v115), .second, .val (.long v116), .second, .val (.long v117), .second, .val (.ref b118), .unset] [(.long v99), (.long v96), (.long v93), (.long v90), (.ref b118)])) rfl (by rw [hml]; rfl) (argsL := [(.long v90), (.long v93), (.long v96), (.long v99)]) (rest := []) (lenOf pd3 rfl) rfl rfl (by show 2 * 0 + _ ≤ _; exact Nat.le_of_eq rfl) (hb hby at_292)
  obtain ⟨rfl, NQ122, K122, A122⟩ := hQ122
  have N122 := Fr.app N121 NQ122
  have Z122 := Nat.le_trans Z121 K122.1
  have VAb76_122 := VAb76_121.keep K122 (ninS ne_b76_b118 (ninS ne_b76_r120 nin0))
  obtain ⟨xs122, hxs122⟩ : ∃ z, z = (own_add xs121 (4 : Int32) v90 v93 v96 v99) := ⟨_, rfl⟩
  rw [← hxs122] at A122
  replace A122 : own_Al Z T122.heap b118 r120 xs122 (0 : Int32) (8 : Int32) (0 : Int64) := A122
  refine own_st (T' := T122) (F' := (mkF m 295 #[.val (.int ja), .val (.int jd), .val (.long je), .second, .val (.long v75), .second, .val (.ref b76), .val (.long v78), .second, .val (.long v89), .second, .val (.long v102), .second, .val (.long v115), .second, .val (.long v116), .second, .val (.long v117), .second, .val (.ref b118), .unset] [])) (st122) ?_
  refine own_st (T' := T122) (F' := (mkF m 297 #[.val (.int ja), .val (.int jd), .val (.long je), .second, .val (.long v75), .second, .val (.ref b76), .val (.long v78), .second, .val (.long v89), .second, .val (.long v102), .second, .val (.long v115), .second, .val (.long v116), .second, .val (.long v117), .second, .val (.ref b118), .unset] [(.ref b118)])) (fun _ kq => XS.aload X122.here hx rfl (hb hby at_295) rfl rfl kq) ?_
  refine own_st (T' := T122) (F' := (mkF m 299 #[.val (.int ja), .val (.int jd), .val (.long je), .second, .val (.long v75), .second, .val (.ref b76), .val (.long v78), .second, .val (.long v89), .second, .val (.long v102), .second, .val (.long v115), .second, .val (.long v116), .second, .val (.long v117), .second, .val (.ref b118), .unset] [(.ref b76), (.ref b118)])) (fun _ kq => XS.aload X122.here hx rfl (hb hby at_297) rfl rfl kq) ?_
  refine own_st (T' := T122) (F' := (mkF m 301 #[.val (.int ja), .val (.int jd), .val (.long je), .second, .val (.long v75), .second, .val (.ref b76), .val (.long v78), .second, .val (.long v89), .second, .val (.long v102), .second, .val (.long v115), .second, .val (.long v116), .second, .val (.long v117), .second, .val (.ref b118), .unset] [(.int (8 : Int32)), (.ref b76), (.ref b118)])) (fun _ kq => XS.bipush X122.here hx rfl (hb hby at_299) kq) ?_
  refine own_st (T' := T122) (F' := (mkF m 302 #[.val (.int ja), .val (.int jd), .val (.long je), .second, .val (.long v75), .second, .val (.ref b76), .val (.long v78), .second, .val (.long v89), .second, .val (.long v102), .second, .val (.long v115), .second, .val (.long v116), .second, .val (.long v117), .second, .val (.ref b118), .unset] [(.long v103), (.ref b118)])) (own_laload X122 hx hZ rfl VAb76_122 (g := (mkF m 301 #[.val (.int ja), .val (.int jd), .val (.long je), .second, .val (.long v75), .second, .val (.ref b76), .val (.long v78), .second, .val (.long v89), .second, .val (.long v102), .second, .val (.long v115), .second, .val (.long v116), .second, .val (.long v117), .second, .val (.ref b118), .unset] [(.int (8 : Int32)), (.ref b76), (.ref b118)])) rfl rfl (hb hby at_301) (by decide) (Nat.le_of_ble_eq_true rfl) (w := v103) rfl) ?_
  refine own_st (T' := T122) (F' := (mkF m 304 #[.val (.int ja), .val (.int jd), .val (.long je), .second, .val (.long v75), .second, .val (.ref b76), .val (.long v78), .second, .val (.long v89), .second, .val (.long v102), .second, .val (.long v115), .second, .val (.long v116), .second, .val (.long v117), .second, .val (.ref b118), .unset] [(.ref b76), (.long v103), (.ref b118)])) (fun _ kq => XS.aload X122.here hx rfl (hb hby at_302) rfl rfl kq) ?_
  refine own_st (T' := T122) (F' := (mkF m 306 #[.val (.int ja), .val (.int jd), .val (.long je), .second, .val (.long v75), .second, .val (.ref b76), .val (.long v78), .second, .val (.long v89), .second, .val (.long v102), .second, .val (.long v115), .second, .val (.long v116), .second, .val (.long v117), .second, .val (.ref b118), .unset] [(.int (9 : Int32)), (.ref b76), (.long v103), (.ref b118)])) (fun _ kq => XS.bipush X122.here hx rfl (hb hby at_304) kq) ?_
  refine own_st (T' := T122) (F' := (mkF m 307 #[.val (.int ja), .val (.int jd), .val (.long je), .second, .val (.long v75), .second, .val (.ref b76), .val (.long v78), .second, .val (.long v89), .second, .val (.long v102), .second, .val (.long v115), .second, .val (.long v116), .second, .val (.long v117), .second, .val (.ref b118), .unset] [(.long v106), (.long v103), (.ref b118)])) (own_laload X122 hx hZ rfl VAb76_122 (g := (mkF m 306 #[.val (.int ja), .val (.int jd), .val (.long je), .second, .val (.long v75), .second, .val (.ref b76), .val (.long v78), .second, .val (.long v89), .second, .val (.long v102), .second, .val (.long v115), .second, .val (.long v116), .second, .val (.long v117), .second, .val (.ref b118), .unset] [(.int (9 : Int32)), (.ref b76), (.long v103), (.ref b118)])) rfl rfl (hb hby at_306) (by decide) (Nat.le_of_ble_eq_true rfl) (w := v106) rfl) ?_
  refine own_st (T' := T122) (F' := (mkF m 309 #[.val (.int ja), .val (.int jd), .val (.long je), .second, .val (.long v75), .second, .val (.ref b76), .val (.long v78), .second, .val (.long v89), .second, .val (.long v102), .second, .val (.long v115), .second, .val (.long v116), .second, .val (.long v117), .second, .val (.ref b118), .unset] [(.ref b76), (.long v106), (.long v103), (.ref b118)])) (fun _ kq => XS.aload X122.here hx rfl (hb hby at_307) rfl rfl kq) ?_
  refine own_st (T' := T122) (F' := (mkF m 311 #[.val (.int ja), .val (.int jd), .val (.long je), .second, .val (.long v75), .second, .val (.ref b76), .val (.long v78), .second, .val (.long v89), .second, .val (.long v102), .second, .val (.long v115), .second, .val (.long v116), .second, .val (.long v117), .second, .val (.ref b118), .unset] [(.int (10 : Int32)), (.ref b76), (.long v106), (.long v103), (.ref b118)])) (fun _ kq => XS.bipush X122.here hx rfl (hb hby at_309) kq) ?_
  refine own_st (T' := T122) (F' := (mkF m 312 #[.val (.int ja), .val (.int jd), .val (.long je), .second, .val (.long v75), .second, .val (.ref b76), .val (.long v78), .second, .val (.long v89), .second, .val (.long v102), .second, .val (.long v115), .second, .val (.long v116), .second, .val (.long v117), .second, .val (.ref b118), .unset] [(.long v109), (.long v106), (.long v103), (.ref b118)])) (own_laload X122 hx hZ rfl VAb76_122 (g := (mkF m 311 #[.val (.int ja), .val (.int jd), .val (.long je), .second, .val (.long v75), .second, .val (.ref b76), .val (.long v78), .second, .val (.long v89), .second, .val (.long v102), .second, .val (.long v115), .second, .val (.long v116), .second, .val (.long v117), .second, .val (.ref b118), .unset] [(.int (10 : Int32)), (.ref b76), (.long v106), (.long v103), (.ref b118)])) rfl rfl (hb hby at_311) (by decide) (Nat.le_of_ble_eq_true rfl) (w := v109) rfl) ?_
  refine own_st (T' := T122) (F' := (mkF m 314 #[.val (.int ja), .val (.int jd), .val (.long je), .second, .val (.long v75), .second, .val (.ref b76), .val (.long v78), .second, .val (.long v89), .second, .val (.long v102), .second, .val (.long v115), .second, .val (.long v116), .second, .val (.long v117), .second, .val (.ref b118), .unset] [(.ref b76), (.long v109), (.long v106), (.long v103), (.ref b118)])) (fun _ kq => XS.aload X122.here hx rfl (hb hby at_312) rfl rfl kq) ?_
  refine own_st (T' := T122) (F' := (mkF m 316 #[.val (.int ja), .val (.int jd), .val (.long je), .second, .val (.long v75), .second, .val (.ref b76), .val (.long v78), .second, .val (.long v89), .second, .val (.long v102), .second, .val (.long v115), .second, .val (.long v116), .second, .val (.long v117), .second, .val (.ref b118), .unset] [(.int (11 : Int32)), (.ref b76), (.long v109), (.long v106), (.long v103), (.ref b118)])) (fun _ kq => XS.bipush X122.here hx rfl (hb hby at_314) kq) ?_
  refine own_st (T' := T122) (F' := (mkF m 317 #[.val (.int ja), .val (.int jd), .val (.long je), .second, .val (.long v75), .second, .val (.ref b76), .val (.long v78), .second, .val (.long v89), .second, .val (.long v102), .second, .val (.long v115), .second, .val (.long v116), .second, .val (.long v117), .second, .val (.ref b118), .unset] [(.long v112), (.long v109), (.long v106), (.long v103), (.ref b118)])) (own_laload X122 hx hZ rfl VAb76_122 (g := (mkF m 316 #[.val (.int ja), .val (.int jd), .val (.long je), .second, .val (.long v75), .second, .val (.ref b76), .val (.long v78), .second, .val (.long v89), .second, .val (.long v102), .second, .val (.long v115), .second, .val (.long v116), .second, .val (.long v117), .second, .val (.ref b118), .unset] [(.int (11 : Int32)), (.ref b76), (.long v109), (.long v106), (.long v103), (.ref b118)])) rfl rfl (hb hby at_316) (by decide) (Nat.le_of_ble_eq_true rfl) (w := v112) rfl) ?_
  obtain ⟨v123, T123, L123, X123, hQ123, st123⟩ := own_callV X122 hx hZ 0 hown (hw _ (List.mem_of_getElem? (i := 13) rfl)) (hw _ (List.mem_of_getElem? (i := 14) rfl)) (hw _ (List.mem_of_getElem? (i := 16) rfl)) (hw _ (List.mem_of_getElem? (i := 15) rfl)) (hw _ (List.mem_of_getElem? (i := 4) rfl)) (hw _ (List.mem_of_getElem? (i := 17) rfl)) (by decide) (rm3 l Z a0 hw [] b118 v103 v106 v109 v112 r120 xs122 (8 : Int32) (0 : Int64) T122.heap n0 Z122 gb118 ge120 ⟨A122.1, A122.2.1, A122.2.2.1, A122.2.2.2.1, A122.2.2.2.2.1, A122.2.2.2.2.2.1, A122.2.2.2.2.2.2⟩ (by decide) (by decide)) (by decide) (by decide) rfl A122.1 (by decide) (by decide) (g := (mkF m 317 #[.val (.int ja), .val (.int jd), .val (.long je), .second, .val (.long v75), .second, .val (.ref b76), .val (.long v78), .second, .val (.long v89), .second, .val (.long v102), .second, .val (.long v115), .second, .val (.long v116), .second, .val (.long v117), .second, .val (.ref b118), .unset] [(.long v112), (.long v109), (.long v106), (.long v103), (.ref b118)])) rfl (by rw [hml]; rfl) (argsL := [(.long v103), (.long v106), (.long v109), (.long v112)]) (rest := []) (lenOf pd3 rfl) rfl rfl (by show 2 * 0 + _ ≤ _; exact Nat.le_of_eq rfl) (hb hby at_317)
  obtain ⟨rfl, NQ123, K123, A123⟩ := hQ123
  have N123 := Fr.app N122 NQ123
  have Z123 := Nat.le_trans Z122 K123.1
  have VAb76_123 := VAb76_122.keep K123 (ninS ne_b76_b118 (ninS ne_b76_r120 nin0))
  obtain ⟨xs123, hxs123⟩ : ∃ z, z = (own_add xs122 (8 : Int32) v103 v106 v109 v112) := ⟨_, rfl⟩
  rw [← hxs123] at A123
  replace A123 : own_Al Z T123.heap b118 r120 xs123 (0 : Int32) (12 : Int32) (0 : Int64) := A123
  refine own_st (T' := T123) (F' := (mkF m 320 #[.val (.int ja), .val (.int jd), .val (.long je), .second, .val (.long v75), .second, .val (.ref b76), .val (.long v78), .second, .val (.long v89), .second, .val (.long v102), .second, .val (.long v115), .second, .val (.long v116), .second, .val (.long v117), .second, .val (.ref b118), .unset] [])) (st123) ?_
  have G := own_mkG hxs121 hxs122 hxs123
  have hn := own_nums hv75 hv78 hv81 hv89 hv90 hv93 hv102 hv103 hv106 hv115 hv116 hv117
  refine own_st (T' := T123) (F' := (mkF m 322 #[.val (.int ja), .val (.int jd), .val (.long je), .second, .val (.long v75), .second, .val (.ref b76), .val (.long v78), .second, .val (.long v89), .second, .val (.long v102), .second, .val (.long v115), .second, .val (.long v116), .second, .val (.long v117), .second, .val (.ref b118), .unset] [(.ref b118)])) (fun _ kq => XS.aload X123.here hx rfl (hb hby at_320) rfl rfl kq) ?_
  refine own_st (T' := T123) (F' := (mkF m 324 #[.val (.int ja), .val (.int jd), .val (.long je), .second, .val (.long v75), .second, .val (.ref b76), .val (.long v78), .second, .val (.long v89), .second, .val (.long v102), .second, .val (.long v115), .second, .val (.long v116), .second, .val (.long v117), .second, .val (.ref b118), .unset] [(.long v115), (.ref b118)])) (fun _ kq => XS.lload X123.here hx rfl (hb hby at_322) rfl kq) ?_
  obtain ⟨v124, T124, L124, X124, hQ124, st124⟩ := own_callV X123 hx hZ 0 hown (hw _ (List.mem_of_getElem? (i := 22) rfl)) (hw _ (List.mem_of_getElem? (i := 23) rfl)) (hw _ (List.mem_of_getElem? (i := 25) rfl)) (hw _ (List.mem_of_getElem? (i := 24) rfl)) (hw _ (List.mem_of_getElem? (i := 4) rfl)) (hw _ (List.mem_of_getElem? (i := 26) rfl)) (by decide) (rm4 l Z a0 hw [] b118 v115 r120 xs123 (0 : Int32) (12 : Int32) (0 : Int64) T123.heap n0 Z123 gb118 ⟨A123.1, A123.2.1, A123.2.2.1, A123.2.2.2.1, A123.2.2.2.2.1, A123.2.2.2.2.2.1, A123.2.2.2.2.2.2⟩ (by decide) (by decide) (by decide)) (by decide) (by decide) rfl A123.1 (by decide) (by decide) (g := (mkF m 324 #[.val (.int ja), .val (.int jd), .val (.long je), .second, .val (.long v75), .second, .val (.ref b76), .val (.long v78), .second, .val (.long v89), .second, .val (.long v102), .second, .val (.long v115), .second, .val (.long v116), .second, .val (.long v117), .second, .val (.ref b118), .unset] [(.long v115), (.ref b118)])) rfl (by rw [hml]; rfl) (argsL := [(.long v115)]) (rest := []) (lenOf pd4 rfl) rfl rfl (by show 2 * 0 + _ ≤ _; exact Nat.le_of_eq rfl) (hb hby at_324)
  obtain ⟨rfl, NQ124, K124, A124⟩ := hQ124
  have N124 := Fr.app N123 NQ124
  have Z124 := Nat.le_trans Z123 K124.1
  have VAb76_124 := VAb76_123.keep K124 (ninS ne_b76_b118 nin0)
  have hn124 := own_ps_nn (xs := xs123) (en := (12 : Int32)) (q := v115) (by decide) 3 (0 : Int32) (0 : Int64) (by decide)
  obtain ⟨c124, u124, hp124⟩ : ∃ c u, (own_ps xs123 (12 : Int32) v115 3 (0 : Int32) (0 : Int64)) = (c, u) := ⟨_, _, rfl⟩
  rw [hp124] at A124 hn124 st124
  replace A124 : own_Al Z T124.heap b118 r120 xs123 c124 (12 : Int32) u124 := A124
  replace hn124 : ¬ c124 < 0 := hn124
  have hm124 : (12 : Int32).toInt - c124.toInt ≤ 4 * ((3 : Nat) : Int) := own_room (by decide) hn124
  refine own_st (T' := T124) (F' := (mkF m 327 #[.val (.int ja), .val (.int jd), .val (.long je), .second, .val (.long v75), .second, .val (.ref b76), .val (.long v78), .second, .val (.long v89), .second, .val (.long v102), .second, .val (.long v115), .second, .val (.long v116), .second, .val (.long v117), .second, .val (.ref b118), .unset] [(.long (own_ss xs123 (12 : Int32) v115 c124 u124))])) (st124) ?_
  refine own_st (T' := T124) (F' := (mkF m 329 #[.val (.int ja), .val (.int jd), .val (.long je), .second, .val (.long v75), .second, .val (.ref b76), .val (.long v78), .second, .val (.long v89), .second, .val (.long v102), .second, .val (.long v115), .second, .val (.long v116), .second, .val (.long v117), .second, .val (.ref b118), .unset] [(.long v115), (.long (own_ss xs123 (12 : Int32) v115 c124 u124))])) (fun _ kq => XS.lload X124.here hx rfl (hb hby at_327) rfl kq) ?_
  refine own_st (T' := T124) (F' := (mkF m 331 #[.val (.int ja), .val (.int jd), .val (.long je), .second, .val (.long v75), .second, .val (.ref b76), .val (.long v78), .second, .val (.long v89), .second, .val (.long v102), .second, .val (.long v115), .second, .val (.long v116), .second, .val (.long v117), .second, .val (.ref b118), .unset] [(.ref b76), (.long v115), (.long (own_ss xs123 (12 : Int32) v115 c124 u124))])) (fun _ kq => XS.aload X124.here hx rfl (hb hby at_329) rfl rfl kq) ?_
  refine own_st (T' := T124) (F' := (mkF m 332 #[.val (.int ja), .val (.int jd), .val (.long je), .second, .val (.long v75), .second, .val (.ref b76), .val (.long v78), .second, .val (.long v89), .second, .val (.long v102), .second, .val (.long v115), .second, .val (.long v116), .second, .val (.long v117), .second, .val (.ref b118), .unset] [(.int (0 : Int32)), (.ref b76), (.long v115), (.long (own_ss xs123 (12 : Int32) v115 c124 u124))])) (fun _ kq => XS.iconst X124.here hx rfl (hb hby at_331) kq) ?_
  obtain ⟨T125, locs125, X125, e125, N125, st125⟩ := own_callP X124 hx hZ 2 hown (hw _ (List.mem_of_getElem? (i := 37) rfl)) (hw _ (List.mem_of_getElem? (i := 38) rfl)) (hw _ (List.mem_of_getElem? (i := 39) rfl)) (hw _ (List.mem_of_getElem? (i := 40) rfl)) (by decide) (rm7_0 l Z a0 hw [] v115 b76 v78 v81 v78 v86 v90 v93 v96 v99 v103 v106 v109 v112 T124.heap n0 VAb76_124) (by decide) (by decide) rfl rfl rfl N124 (by decide) (by decide) (g := (mkF m 332 #[.val (.int ja), .val (.int jd), .val (.long je), .second, .val (.long v75), .second, .val (.ref b76), .val (.long v78), .second, .val (.long v89), .second, .val (.long v102), .second, .val (.long v115), .second, .val (.long v116), .second, .val (.long v117), .second, .val (.ref b118), .unset] [(.int (0 : Int32)), (.ref b76), (.long v115), (.long (own_ss xs123 (12 : Int32) v115 c124 u124))])) rfl (by rw [hml]; rfl) (argsL := [(.long v115), (.ref b76), (.int (0 : Int32))]) (rest := [(.long (own_ss xs123 (12 : Int32) v115 c124 u124))]) (lenOf pd5 rfl) rfl rfl (by show 2 * 0 + _ ≤ _; exact Nat.le_of_eq rfl) (hb hby at_332)
  refine own_st (T' := T125) (F' := (mkF m 335 #[.val (.int ja), .val (.int jd), .val (.long je), .second, .val (.long v75), .second, .val (.ref b76), .val (.long v78), .second, .val (.long v89), .second, .val (.long v102), .second, .val (.long v115), .second, .val (.long v116), .second, .val (.long v117), .second, .val (.ref b118), .unset] [(.long (rf0 v115 v78 v81 v78 v86 v90 v93 v96 v99 v103 v106 v109 v112)), (.long (own_ss xs123 (12 : Int32) v115 c124 u124))])) (st125) ?_
  refine own_st (T' := T125) (F' := (mkF m 336 #[.val (.int ja), .val (.int jd), .val (.long je), .second, .val (.long v75), .second, .val (.ref b76), .val (.long v78), .second, .val (.long v89), .second, .val (.long v102), .second, .val (.long v115), .second, .val (.long v116), .second, .val (.long v117), .second, .val (.ref b118), .unset] [(.int (lcmpW (own_ss xs123 (12 : Int32) v115 c124 u124) (rf0 v115 v78 v81 v78 v86 v90 v93 v96 v99 v103 v106 v109 v112)))])) (fun _ kq => XS.lcmp X125.here hx rfl (hb hby at_335) rfl kq) ?_
  refine own_st (T' := T125) (F' := (mkF m 339 #[.val (.int ja), .val (.int jd), .val (.long je), .second, .val (.long v75), .second, .val (.ref b76), .val (.long v78), .second, .val (.long v89), .second, .val (.long v102), .second, .val (.long v115), .second, .val (.long v116), .second, .val (.long v117), .second, .val (.ref b118), .unset] [])) (fun _ kq => XS.ifNo X125.here hx rfl (hb hby at_336) rfl ((if0 _ _).trans (teq ((lw_eq (own_ss xs123 (12 : Int32) v115 c124 u124) (rf0 v115 v78 v81 v78 v86 v90 v93 v96 v99 v103 v106 v109 v112)).mpr (own_vs G hn (own_start3 G hp124)))).2) kq) ?_
  refine own_st (T' := T125) (F' := (mkF m 340 #[.val (.int ja), .val (.int jd), .val (.long je), .second, .val (.long v75), .second, .val (.ref b76), .val (.long v78), .second, .val (.long v89), .second, .val (.long v102), .second, .val (.long v115), .second, .val (.long v116), .second, .val (.long v117), .second, .val (.ref b118), .unset] [(.int (1 : Int32))])) (fun _ kq => XS.iconst X125.here hx rfl (hb hby at_339) kq) ?_
  refine own_st (T' := T125) (F' := (mkF m 344 #[.val (.int ja), .val (.int jd), .val (.long je), .second, .val (.long v75), .second, .val (.ref b76), .val (.long v78), .second, .val (.long v89), .second, .val (.long v102), .second, .val (.long v115), .second, .val (.long v116), .second, .val (.long v117), .second, .val (.ref b118), .unset] [(.int (1 : Int32))])) (fun _ kq => XS.goto X125.here hx rfl (pc0 := 340) (pc' := 344) rfl (hb hby at_340) (by decide) (by decide) kq) ?_
  refine own_st (T' := T125) (F' := (mkF m 346 #[.val (.int ja), .val (.int jd), .val (.long je), .second, .val (.long v75), .second, .val (.ref b76), .val (.long v78), .second, .val (.long v89), .second, .val (.long v102), .second, .val (.long v115), .second, .val (.long v116), .second, .val (.long v117), .second, .val (.ref b118), .val (.int (1 : Int32))] [])) (fun _ kq => XS.istore X125.here hx rfl (hb hby at_344) rfl (l' := #[.val (.int ja), .val (.int jd), .val (.long je), .second, .val (.long v75), .second, .val (.ref b76), .val (.long v78), .second, .val (.long v89), .second, .val (.long v102), .second, .val (.long v115), .second, .val (.long v116), .second, .val (.long v117), .second, .val (.ref b118), .val (.int (1 : Int32))]) rfl kq) ?_
  refine own_st (T' := T125) (F' := (mkF m 348 #[.val (.int ja), .val (.int jd), .val (.long je), .second, .val (.long v75), .second, .val (.ref b76), .val (.long v78), .second, .val (.long v89), .second, .val (.long v102), .second, .val (.long v115), .second, .val (.long v116), .second, .val (.long v117), .second, .val (.ref b118), .val (.int (1 : Int32))] [(.int (1 : Int32))])) (fun _ kq => XS.iload X125.here hx rfl (hb hby at_346) rfl kq) ?_
  refine own_st (T' := T125) (F' := (mkF m 350 #[.val (.int ja), .val (.int jd), .val (.long je), .second, .val (.long v75), .second, .val (.ref b76), .val (.long v78), .second, .val (.long v89), .second, .val (.long v102), .second, .val (.long v115), .second, .val (.long v116), .second, .val (.long v117), .second, .val (.ref b118), .val (.int (1 : Int32))] [(.ref b118), (.int (1 : Int32))])) (fun _ kq => XS.aload X125.here hx rfl (hb hby at_348) rfl rfl kq) ?_
  refine own_st (T' := T125) (F' := (mkF m 352 #[.val (.int ja), .val (.int jd), .val (.long je), .second, .val (.long v75), .second, .val (.ref b76), .val (.long v78), .second, .val (.long v89), .second, .val (.long v102), .second, .val (.long v115), .second, .val (.long v116), .second, .val (.long v117), .second, .val (.ref b118), .val (.int (1 : Int32))] [(.long v115), (.ref b118), (.int (1 : Int32))])) (fun _ kq => XS.lload X125.here hx rfl (hb hby at_350) rfl kq) ?_
  obtain ⟨v126, T126, L126, X126, hQ126, st126⟩ := own_callV X125 hx hZ 1 hown (hw _ (List.mem_of_getElem? (i := 41) rfl)) (hw _ (List.mem_of_getElem? (i := 42) rfl)) (hw _ (List.mem_of_getElem? (i := 44) rfl)) (hw _ (List.mem_of_getElem? (i := 43) rfl)) (hw _ (List.mem_of_getElem? (i := 4) rfl)) (hw _ (List.mem_of_getElem? (i := 45) rfl)) (by decide) (rm8 l Z a0 hw [] b118 v115 r120 xs123 c124 (12 : Int32) u124 T124.heap n0 Z124 gb118 ⟨A124.1, A124.2.1, A124.2.2.1, A124.2.2.2.1, A124.2.2.2.2.1, A124.2.2.2.2.2.1, A124.2.2.2.2.2.2⟩ hn124 (by decide) hm124) (by decide) (by decide) e125 A124.1 (by decide) (by decide) (g := (mkF m 352 #[.val (.int ja), .val (.int jd), .val (.long je), .second, .val (.long v75), .second, .val (.ref b76), .val (.long v78), .second, .val (.long v89), .second, .val (.long v102), .second, .val (.long v115), .second, .val (.long v116), .second, .val (.long v117), .second, .val (.ref b118), .val (.int (1 : Int32))] [(.long v115), (.ref b118), (.int (1 : Int32))])) rfl (by rw [hml]; rfl) (argsL := [(.long v115)]) (rest := [(.int (1 : Int32))]) (lenOf pd4 rfl) rfl rfl (by show 2 * 0 + _ ≤ _; exact Nat.le_of_eq rfl) (hb hby at_352)
  obtain ⟨rfl, NQ126, K126, A126⟩ := hQ126
  have N126 := Fr.app N125 NQ126
  have Z126 := Nat.le_trans Z124 K126.1
  have VAb76_126 := VAb76_124.keep K126 (ninS ne_b76_b118 nin0)
  have hn126 := own_ps_nn (xs := xs123) (en := (12 : Int32)) (q := v115) (by decide) 3 c124 u124 hn124
  obtain ⟨c126, u126, hp126⟩ : ∃ c u, (own_ps xs123 (12 : Int32) v115 3 c124 u124) = (c, u) := ⟨_, _, rfl⟩
  rw [hp126] at A126 hn126 st126
  replace A126 : own_Al Z T126.heap b118 r120 xs123 c126 (12 : Int32) u126 := A126
  replace hn126 : ¬ c126 < 0 := hn126
  have hm126 : (12 : Int32).toInt - c126.toInt ≤ 4 * ((3 : Nat) : Int) := own_room (by decide) hn126
  refine own_st (T' := T126) (F' := (mkF m 355 #[.val (.int ja), .val (.int jd), .val (.long je), .second, .val (.long v75), .second, .val (.ref b76), .val (.long v78), .second, .val (.long v89), .second, .val (.long v102), .second, .val (.long v115), .second, .val (.long v116), .second, .val (.long v117), .second, .val (.ref b118), .val (.int (1 : Int32))] [(.long (own_se xs123 (12 : Int32) v115 c126 u126)), (.int (1 : Int32))])) (st126) ?_
  refine own_st (T' := T126) (F' := (mkF m 357 #[.val (.int ja), .val (.int jd), .val (.long je), .second, .val (.long v75), .second, .val (.ref b76), .val (.long v78), .second, .val (.long v89), .second, .val (.long v102), .second, .val (.long v115), .second, .val (.long v116), .second, .val (.long v117), .second, .val (.ref b118), .val (.int (1 : Int32))] [(.long v115), (.long (own_se xs123 (12 : Int32) v115 c126 u126)), (.int (1 : Int32))])) (fun _ kq => XS.lload X126.here hx rfl (hb hby at_355) rfl kq) ?_
  refine own_st (T' := T126) (F' := (mkF m 359 #[.val (.int ja), .val (.int jd), .val (.long je), .second, .val (.long v75), .second, .val (.ref b76), .val (.long v78), .second, .val (.long v89), .second, .val (.long v102), .second, .val (.long v115), .second, .val (.long v116), .second, .val (.long v117), .second, .val (.ref b118), .val (.int (1 : Int32))] [(.ref b76), (.long v115), (.long (own_se xs123 (12 : Int32) v115 c126 u126)), (.int (1 : Int32))])) (fun _ kq => XS.aload X126.here hx rfl (hb hby at_357) rfl rfl kq) ?_
  refine own_st (T' := T126) (F' := (mkF m 360 #[.val (.int ja), .val (.int jd), .val (.long je), .second, .val (.long v75), .second, .val (.ref b76), .val (.long v78), .second, .val (.long v89), .second, .val (.long v102), .second, .val (.long v115), .second, .val (.long v116), .second, .val (.long v117), .second, .val (.ref b118), .val (.int (1 : Int32))] [(.int (1 : Int32)), (.ref b76), (.long v115), (.long (own_se xs123 (12 : Int32) v115 c126 u126)), (.int (1 : Int32))])) (fun _ kq => XS.iconst X126.here hx rfl (hb hby at_359) kq) ?_
  obtain ⟨T127, locs127, X127, e127, N127, st127⟩ := own_callP X126 hx hZ 3 hown (hw _ (List.mem_of_getElem? (i := 37) rfl)) (hw _ (List.mem_of_getElem? (i := 38) rfl)) (hw _ (List.mem_of_getElem? (i := 39) rfl)) (hw _ (List.mem_of_getElem? (i := 40) rfl)) (by decide) (rm7_1 l Z a0 hw [] v115 b76 v78 v81 v78 v86 v90 v93 v96 v99 v103 v106 v109 v112 T126.heap n0 VAb76_126) (by decide) (by decide) rfl rfl rfl N126 (by decide) (by decide) (g := (mkF m 360 #[.val (.int ja), .val (.int jd), .val (.long je), .second, .val (.long v75), .second, .val (.ref b76), .val (.long v78), .second, .val (.long v89), .second, .val (.long v102), .second, .val (.long v115), .second, .val (.long v116), .second, .val (.long v117), .second, .val (.ref b118), .val (.int (1 : Int32))] [(.int (1 : Int32)), (.ref b76), (.long v115), (.long (own_se xs123 (12 : Int32) v115 c126 u126)), (.int (1 : Int32))])) rfl (by rw [hml]; rfl) (argsL := [(.long v115), (.ref b76), (.int (1 : Int32))]) (rest := [(.long (own_se xs123 (12 : Int32) v115 c126 u126)), (.int (1 : Int32))]) (lenOf pd5 rfl) rfl rfl (by show 2 * 0 + _ ≤ _; exact Nat.le_of_eq rfl) (hb hby at_360)
  refine own_st (T' := T127) (F' := (mkF m 363 #[.val (.int ja), .val (.int jd), .val (.long je), .second, .val (.long v75), .second, .val (.ref b76), .val (.long v78), .second, .val (.long v89), .second, .val (.long v102), .second, .val (.long v115), .second, .val (.long v116), .second, .val (.long v117), .second, .val (.ref b118), .val (.int (1 : Int32))] [(.long (rf1 v115 v78 v81 v86 v90 v93 v99 v103 v106 v112)), (.long (own_se xs123 (12 : Int32) v115 c126 u126)), (.int (1 : Int32))])) (st127) ?_
  refine own_st (T' := T127) (F' := (mkF m 364 #[.val (.int ja), .val (.int jd), .val (.long je), .second, .val (.long v75), .second, .val (.ref b76), .val (.long v78), .second, .val (.long v89), .second, .val (.long v102), .second, .val (.long v115), .second, .val (.long v116), .second, .val (.long v117), .second, .val (.ref b118), .val (.int (1 : Int32))] [(.int (lcmpW (own_se xs123 (12 : Int32) v115 c126 u126) (rf1 v115 v78 v81 v86 v90 v93 v99 v103 v106 v112))), (.int (1 : Int32))])) (fun _ kq => XS.lcmp X127.here hx rfl (hb hby at_363) rfl kq) ?_
  refine own_st (T' := T127) (F' := (mkF m 367 #[.val (.int ja), .val (.int jd), .val (.long je), .second, .val (.long v75), .second, .val (.ref b76), .val (.long v78), .second, .val (.long v89), .second, .val (.long v102), .second, .val (.long v115), .second, .val (.long v116), .second, .val (.long v117), .second, .val (.ref b118), .val (.int (1 : Int32))] [(.int (1 : Int32))])) (fun _ kq => XS.ifNo X127.here hx rfl (hb hby at_364) rfl ((if0 _ _).trans (teq ((lw_eq (own_se xs123 (12 : Int32) v115 c126 u126) (rf1 v115 v78 v81 v86 v90 v93 v99 v103 v106 v112)).mpr (own_ve G hn (own_go3 G (Int.le_refl _) hp126 (own_start3 G hp124))))).2) kq) ?_
  refine own_st (T' := T127) (F' := (mkF m 368 #[.val (.int ja), .val (.int jd), .val (.long je), .second, .val (.long v75), .second, .val (.ref b76), .val (.long v78), .second, .val (.long v89), .second, .val (.long v102), .second, .val (.long v115), .second, .val (.long v116), .second, .val (.long v117), .second, .val (.ref b118), .val (.int (1 : Int32))] [(.int (1 : Int32)), (.int (1 : Int32))])) (fun _ kq => XS.iconst X127.here hx rfl (hb hby at_367) kq) ?_
  refine own_st (T' := T127) (F' := (mkF m 372 #[.val (.int ja), .val (.int jd), .val (.long je), .second, .val (.long v75), .second, .val (.ref b76), .val (.long v78), .second, .val (.long v89), .second, .val (.long v102), .second, .val (.long v115), .second, .val (.long v116), .second, .val (.long v117), .second, .val (.ref b118), .val (.int (1 : Int32))] [(.int (1 : Int32)), (.int (1 : Int32))])) (fun _ kq => XS.goto X127.here hx rfl (pc0 := 368) (pc' := 372) rfl (hb hby at_368) (by decide) (by decide) kq) ?_
  refine own_st (T' := T127) (F' := (mkF m 373 #[.val (.int ja), .val (.int jd), .val (.long je), .second, .val (.long v75), .second, .val (.ref b76), .val (.long v78), .second, .val (.long v89), .second, .val (.long v102), .second, .val (.long v115), .second, .val (.long v116), .second, .val (.long v117), .second, .val (.ref b118), .val (.int (1 : Int32))] [(.int (1 : Int32))])) (fun _ kq => XS.iand X127.here hx rfl (hb hby at_372) rfl kq) ?_
  refine own_st (T' := T127) (F' := (mkF m 375 #[.val (.int ja), .val (.int jd), .val (.long je), .second, .val (.long v75), .second, .val (.ref b76), .val (.long v78), .second, .val (.long v89), .second, .val (.long v102), .second, .val (.long v115), .second, .val (.long v116), .second, .val (.long v117), .second, .val (.ref b118), .val (.int (1 : Int32))] [])) (fun _ kq => XS.istore X127.here hx rfl (hb hby at_373) rfl (l' := #[.val (.int ja), .val (.int jd), .val (.long je), .second, .val (.long v75), .second, .val (.ref b76), .val (.long v78), .second, .val (.long v89), .second, .val (.long v102), .second, .val (.long v115), .second, .val (.long v116), .second, .val (.long v117), .second, .val (.ref b118), .val (.int (1 : Int32))]) rfl kq) ?_
  refine own_st (T' := T127) (F' := (mkF m 377 #[.val (.int ja), .val (.int jd), .val (.long je), .second, .val (.long v75), .second, .val (.ref b76), .val (.long v78), .second, .val (.long v89), .second, .val (.long v102), .second, .val (.long v115), .second, .val (.long v116), .second, .val (.long v117), .second, .val (.ref b118), .val (.int (1 : Int32))] [(.int (1 : Int32))])) (fun _ kq => XS.iload X127.here hx rfl (hb hby at_375) rfl kq) ?_
  refine own_st (T' := T127) (F' := (mkF m 379 #[.val (.int ja), .val (.int jd), .val (.long je), .second, .val (.long v75), .second, .val (.ref b76), .val (.long v78), .second, .val (.long v89), .second, .val (.long v102), .second, .val (.long v115), .second, .val (.long v116), .second, .val (.long v117), .second, .val (.ref b118), .val (.int (1 : Int32))] [(.ref b118), (.int (1 : Int32))])) (fun _ kq => XS.aload X127.here hx rfl (hb hby at_377) rfl rfl kq) ?_
  refine own_st (T' := T127) (F' := (mkF m 381 #[.val (.int ja), .val (.int jd), .val (.long je), .second, .val (.long v75), .second, .val (.ref b76), .val (.long v78), .second, .val (.long v89), .second, .val (.long v102), .second, .val (.long v115), .second, .val (.long v116), .second, .val (.long v117), .second, .val (.ref b118), .val (.int (1 : Int32))] [(.long v116), (.ref b118), (.int (1 : Int32))])) (fun _ kq => XS.lload X127.here hx rfl (hb hby at_379) rfl kq) ?_
  obtain ⟨v128, T128, L128, X128, hQ128, st128⟩ := own_callV X127 hx hZ 1 hown (hw _ (List.mem_of_getElem? (i := 22) rfl)) (hw _ (List.mem_of_getElem? (i := 23) rfl)) (hw _ (List.mem_of_getElem? (i := 25) rfl)) (hw _ (List.mem_of_getElem? (i := 24) rfl)) (hw _ (List.mem_of_getElem? (i := 4) rfl)) (hw _ (List.mem_of_getElem? (i := 26) rfl)) (by decide) (rm4 l Z a0 hw [] b118 v116 r120 xs123 c126 (12 : Int32) u126 T126.heap n0 Z126 gb118 ⟨A126.1, A126.2.1, A126.2.2.1, A126.2.2.2.1, A126.2.2.2.2.1, A126.2.2.2.2.2.1, A126.2.2.2.2.2.2⟩ hn126 (by decide) hm126) (by decide) (by decide) e127 A126.1 (by decide) (by decide) (g := (mkF m 381 #[.val (.int ja), .val (.int jd), .val (.long je), .second, .val (.long v75), .second, .val (.ref b76), .val (.long v78), .second, .val (.long v89), .second, .val (.long v102), .second, .val (.long v115), .second, .val (.long v116), .second, .val (.long v117), .second, .val (.ref b118), .val (.int (1 : Int32))] [(.long v116), (.ref b118), (.int (1 : Int32))])) rfl (by rw [hml]; rfl) (argsL := [(.long v116)]) (rest := [(.int (1 : Int32))]) (lenOf pd4 rfl) rfl rfl (by show 2 * 0 + _ ≤ _; exact Nat.le_of_eq rfl) (hb hby at_381)
  obtain ⟨rfl, NQ128, K128, A128⟩ := hQ128
  have N128 := Fr.app N127 NQ128
  have Z128 := Nat.le_trans Z126 K128.1
  have VAb76_128 := VAb76_126.keep K128 (ninS ne_b76_b118 nin0)
  have hn128 := own_ps_nn (xs := xs123) (en := (12 : Int32)) (q := v116) (by decide) 3 c126 u126 hn126
  obtain ⟨c128, u128, hp128⟩ : ∃ c u, (own_ps xs123 (12 : Int32) v116 3 c126 u126) = (c, u) := ⟨_, _, rfl⟩
  rw [hp128] at A128 hn128 st128
  replace A128 : own_Al Z T128.heap b118 r120 xs123 c128 (12 : Int32) u128 := A128
  replace hn128 : ¬ c128 < 0 := hn128
  have hm128 : (12 : Int32).toInt - c128.toInt ≤ 4 * ((3 : Nat) : Int) := own_room (by decide) hn128
  refine own_st (T' := T128) (F' := (mkF m 384 #[.val (.int ja), .val (.int jd), .val (.long je), .second, .val (.long v75), .second, .val (.ref b76), .val (.long v78), .second, .val (.long v89), .second, .val (.long v102), .second, .val (.long v115), .second, .val (.long v116), .second, .val (.long v117), .second, .val (.ref b118), .val (.int (1 : Int32))] [(.long (own_ss xs123 (12 : Int32) v116 c128 u128)), (.int (1 : Int32))])) (st128) ?_
  refine own_st (T' := T128) (F' := (mkF m 386 #[.val (.int ja), .val (.int jd), .val (.long je), .second, .val (.long v75), .second, .val (.ref b76), .val (.long v78), .second, .val (.long v89), .second, .val (.long v102), .second, .val (.long v115), .second, .val (.long v116), .second, .val (.long v117), .second, .val (.ref b118), .val (.int (1 : Int32))] [(.long v116), (.long (own_ss xs123 (12 : Int32) v116 c128 u128)), (.int (1 : Int32))])) (fun _ kq => XS.lload X128.here hx rfl (hb hby at_384) rfl kq) ?_
  refine own_st (T' := T128) (F' := (mkF m 388 #[.val (.int ja), .val (.int jd), .val (.long je), .second, .val (.long v75), .second, .val (.ref b76), .val (.long v78), .second, .val (.long v89), .second, .val (.long v102), .second, .val (.long v115), .second, .val (.long v116), .second, .val (.long v117), .second, .val (.ref b118), .val (.int (1 : Int32))] [(.ref b76), (.long v116), (.long (own_ss xs123 (12 : Int32) v116 c128 u128)), (.int (1 : Int32))])) (fun _ kq => XS.aload X128.here hx rfl (hb hby at_386) rfl rfl kq) ?_
  refine own_st (T' := T128) (F' := (mkF m 389 #[.val (.int ja), .val (.int jd), .val (.long je), .second, .val (.long v75), .second, .val (.ref b76), .val (.long v78), .second, .val (.long v89), .second, .val (.long v102), .second, .val (.long v115), .second, .val (.long v116), .second, .val (.long v117), .second, .val (.ref b118), .val (.int (1 : Int32))] [(.int (0 : Int32)), (.ref b76), (.long v116), (.long (own_ss xs123 (12 : Int32) v116 c128 u128)), (.int (1 : Int32))])) (fun _ kq => XS.iconst X128.here hx rfl (hb hby at_388) kq) ?_
  obtain ⟨T129, locs129, X129, e129, N129, st129⟩ := own_callP X128 hx hZ 3 hown (hw _ (List.mem_of_getElem? (i := 37) rfl)) (hw _ (List.mem_of_getElem? (i := 38) rfl)) (hw _ (List.mem_of_getElem? (i := 39) rfl)) (hw _ (List.mem_of_getElem? (i := 40) rfl)) (by decide) (rm7_0 l Z a0 hw [] v116 b76 v78 v81 v78 v86 v90 v93 v96 v99 v103 v106 v109 v112 T128.heap n0 VAb76_128) (by decide) (by decide) rfl rfl rfl N128 (by decide) (by decide) (g := (mkF m 389 #[.val (.int ja), .val (.int jd), .val (.long je), .second, .val (.long v75), .second, .val (.ref b76), .val (.long v78), .second, .val (.long v89), .second, .val (.long v102), .second, .val (.long v115), .second, .val (.long v116), .second, .val (.long v117), .second, .val (.ref b118), .val (.int (1 : Int32))] [(.int (0 : Int32)), (.ref b76), (.long v116), (.long (own_ss xs123 (12 : Int32) v116 c128 u128)), (.int (1 : Int32))])) rfl (by rw [hml]; rfl) (argsL := [(.long v116), (.ref b76), (.int (0 : Int32))]) (rest := [(.long (own_ss xs123 (12 : Int32) v116 c128 u128)), (.int (1 : Int32))]) (lenOf pd5 rfl) rfl rfl (by show 2 * 0 + _ ≤ _; exact Nat.le_of_eq rfl) (hb hby at_389)
  refine own_st (T' := T129) (F' := (mkF m 392 #[.val (.int ja), .val (.int jd), .val (.long je), .second, .val (.long v75), .second, .val (.ref b76), .val (.long v78), .second, .val (.long v89), .second, .val (.long v102), .second, .val (.long v115), .second, .val (.long v116), .second, .val (.long v117), .second, .val (.ref b118), .val (.int (1 : Int32))] [(.long (rf0 v116 v78 v81 v78 v86 v90 v93 v96 v99 v103 v106 v109 v112)), (.long (own_ss xs123 (12 : Int32) v116 c128 u128)), (.int (1 : Int32))])) (st129) ?_
  refine own_st (T' := T129) (F' := (mkF m 393 #[.val (.int ja), .val (.int jd), .val (.long je), .second, .val (.long v75), .second, .val (.ref b76), .val (.long v78), .second, .val (.long v89), .second, .val (.long v102), .second, .val (.long v115), .second, .val (.long v116), .second, .val (.long v117), .second, .val (.ref b118), .val (.int (1 : Int32))] [(.int (lcmpW (own_ss xs123 (12 : Int32) v116 c128 u128) (rf0 v116 v78 v81 v78 v86 v90 v93 v96 v99 v103 v106 v109 v112))), (.int (1 : Int32))])) (fun _ kq => XS.lcmp X129.here hx rfl (hb hby at_392) rfl kq) ?_
  refine own_st (T' := T129) (F' := (mkF m 396 #[.val (.int ja), .val (.int jd), .val (.long je), .second, .val (.long v75), .second, .val (.ref b76), .val (.long v78), .second, .val (.long v89), .second, .val (.long v102), .second, .val (.long v115), .second, .val (.long v116), .second, .val (.long v117), .second, .val (.ref b118), .val (.int (1 : Int32))] [(.int (1 : Int32))])) (fun _ kq => XS.ifNo X129.here hx rfl (hb hby at_393) rfl ((if0 _ _).trans (teq ((lw_eq (own_ss xs123 (12 : Int32) v116 c128 u128) (rf0 v116 v78 v81 v78 v86 v90 v93 v96 v99 v103 v106 v109 v112)).mpr (own_vs G hn (own_go3 G hn.2.2.2.2.2.1 hp128 (own_go3 G (Int.le_refl _) hp126 (own_start3 G hp124)))))).2) kq) ?_
  refine own_st (T' := T129) (F' := (mkF m 397 #[.val (.int ja), .val (.int jd), .val (.long je), .second, .val (.long v75), .second, .val (.ref b76), .val (.long v78), .second, .val (.long v89), .second, .val (.long v102), .second, .val (.long v115), .second, .val (.long v116), .second, .val (.long v117), .second, .val (.ref b118), .val (.int (1 : Int32))] [(.int (1 : Int32)), (.int (1 : Int32))])) (fun _ kq => XS.iconst X129.here hx rfl (hb hby at_396) kq) ?_
  refine own_st (T' := T129) (F' := (mkF m 401 #[.val (.int ja), .val (.int jd), .val (.long je), .second, .val (.long v75), .second, .val (.ref b76), .val (.long v78), .second, .val (.long v89), .second, .val (.long v102), .second, .val (.long v115), .second, .val (.long v116), .second, .val (.long v117), .second, .val (.ref b118), .val (.int (1 : Int32))] [(.int (1 : Int32)), (.int (1 : Int32))])) (fun _ kq => XS.goto X129.here hx rfl (pc0 := 397) (pc' := 401) rfl (hb hby at_397) (by decide) (by decide) kq) ?_
  refine own_st (T' := T129) (F' := (mkF m 402 #[.val (.int ja), .val (.int jd), .val (.long je), .second, .val (.long v75), .second, .val (.ref b76), .val (.long v78), .second, .val (.long v89), .second, .val (.long v102), .second, .val (.long v115), .second, .val (.long v116), .second, .val (.long v117), .second, .val (.ref b118), .val (.int (1 : Int32))] [(.int (1 : Int32))])) (fun _ kq => XS.iand X129.here hx rfl (hb hby at_401) rfl kq) ?_
  refine own_st (T' := T129) (F' := (mkF m 404 #[.val (.int ja), .val (.int jd), .val (.long je), .second, .val (.long v75), .second, .val (.ref b76), .val (.long v78), .second, .val (.long v89), .second, .val (.long v102), .second, .val (.long v115), .second, .val (.long v116), .second, .val (.long v117), .second, .val (.ref b118), .val (.int (1 : Int32))] [])) (fun _ kq => XS.istore X129.here hx rfl (hb hby at_402) rfl (l' := #[.val (.int ja), .val (.int jd), .val (.long je), .second, .val (.long v75), .second, .val (.ref b76), .val (.long v78), .second, .val (.long v89), .second, .val (.long v102), .second, .val (.long v115), .second, .val (.long v116), .second, .val (.long v117), .second, .val (.ref b118), .val (.int (1 : Int32))]) rfl kq) ?_
  refine own_st (T' := T129) (F' := (mkF m 406 #[.val (.int ja), .val (.int jd), .val (.long je), .second, .val (.long v75), .second, .val (.ref b76), .val (.long v78), .second, .val (.long v89), .second, .val (.long v102), .second, .val (.long v115), .second, .val (.long v116), .second, .val (.long v117), .second, .val (.ref b118), .val (.int (1 : Int32))] [(.int (1 : Int32))])) (fun _ kq => XS.iload X129.here hx rfl (hb hby at_404) rfl kq) ?_
  refine own_st (T' := T129) (F' := (mkF m 408 #[.val (.int ja), .val (.int jd), .val (.long je), .second, .val (.long v75), .second, .val (.ref b76), .val (.long v78), .second, .val (.long v89), .second, .val (.long v102), .second, .val (.long v115), .second, .val (.long v116), .second, .val (.long v117), .second, .val (.ref b118), .val (.int (1 : Int32))] [(.ref b118), (.int (1 : Int32))])) (fun _ kq => XS.aload X129.here hx rfl (hb hby at_406) rfl rfl kq) ?_
  refine own_st (T' := T129) (F' := (mkF m 410 #[.val (.int ja), .val (.int jd), .val (.long je), .second, .val (.long v75), .second, .val (.ref b76), .val (.long v78), .second, .val (.long v89), .second, .val (.long v102), .second, .val (.long v115), .second, .val (.long v116), .second, .val (.long v117), .second, .val (.ref b118), .val (.int (1 : Int32))] [(.long v116), (.ref b118), (.int (1 : Int32))])) (fun _ kq => XS.lload X129.here hx rfl (hb hby at_408) rfl kq) ?_
  obtain ⟨v130, T130, L130, X130, hQ130, st130⟩ := own_callV X129 hx hZ 1 hown (hw _ (List.mem_of_getElem? (i := 41) rfl)) (hw _ (List.mem_of_getElem? (i := 42) rfl)) (hw _ (List.mem_of_getElem? (i := 44) rfl)) (hw _ (List.mem_of_getElem? (i := 43) rfl)) (hw _ (List.mem_of_getElem? (i := 4) rfl)) (hw _ (List.mem_of_getElem? (i := 45) rfl)) (by decide) (rm8 l Z a0 hw [] b118 v116 r120 xs123 c128 (12 : Int32) u128 T128.heap n0 Z128 gb118 ⟨A128.1, A128.2.1, A128.2.2.1, A128.2.2.2.1, A128.2.2.2.2.1, A128.2.2.2.2.2.1, A128.2.2.2.2.2.2⟩ hn128 (by decide) hm128) (by decide) (by decide) e129 A128.1 (by decide) (by decide) (g := (mkF m 410 #[.val (.int ja), .val (.int jd), .val (.long je), .second, .val (.long v75), .second, .val (.ref b76), .val (.long v78), .second, .val (.long v89), .second, .val (.long v102), .second, .val (.long v115), .second, .val (.long v116), .second, .val (.long v117), .second, .val (.ref b118), .val (.int (1 : Int32))] [(.long v116), (.ref b118), (.int (1 : Int32))])) rfl (by rw [hml]; rfl) (argsL := [(.long v116)]) (rest := [(.int (1 : Int32))]) (lenOf pd4 rfl) rfl rfl (by show 2 * 0 + _ ≤ _; exact Nat.le_of_eq rfl) (hb hby at_410)
  obtain ⟨rfl, NQ130, K130, A130⟩ := hQ130
  have N130 := Fr.app N129 NQ130
  have Z130 := Nat.le_trans Z128 K130.1
  have VAb76_130 := VAb76_128.keep K130 (ninS ne_b76_b118 nin0)
  have hn130 := own_ps_nn (xs := xs123) (en := (12 : Int32)) (q := v116) (by decide) 3 c128 u128 hn128
  obtain ⟨c130, u130, hp130⟩ : ∃ c u, (own_ps xs123 (12 : Int32) v116 3 c128 u128) = (c, u) := ⟨_, _, rfl⟩
  rw [hp130] at A130 hn130 st130
  replace A130 : own_Al Z T130.heap b118 r120 xs123 c130 (12 : Int32) u130 := A130
  replace hn130 : ¬ c130 < 0 := hn130
  have hm130 : (12 : Int32).toInt - c130.toInt ≤ 4 * ((3 : Nat) : Int) := own_room (by decide) hn130
  refine own_st (T' := T130) (F' := (mkF m 413 #[.val (.int ja), .val (.int jd), .val (.long je), .second, .val (.long v75), .second, .val (.ref b76), .val (.long v78), .second, .val (.long v89), .second, .val (.long v102), .second, .val (.long v115), .second, .val (.long v116), .second, .val (.long v117), .second, .val (.ref b118), .val (.int (1 : Int32))] [(.long (own_se xs123 (12 : Int32) v116 c130 u130)), (.int (1 : Int32))])) (st130) ?_
  refine own_st (T' := T130) (F' := (mkF m 415 #[.val (.int ja), .val (.int jd), .val (.long je), .second, .val (.long v75), .second, .val (.ref b76), .val (.long v78), .second, .val (.long v89), .second, .val (.long v102), .second, .val (.long v115), .second, .val (.long v116), .second, .val (.long v117), .second, .val (.ref b118), .val (.int (1 : Int32))] [(.long v116), (.long (own_se xs123 (12 : Int32) v116 c130 u130)), (.int (1 : Int32))])) (fun _ kq => XS.lload X130.here hx rfl (hb hby at_413) rfl kq) ?_
  refine own_st (T' := T130) (F' := (mkF m 417 #[.val (.int ja), .val (.int jd), .val (.long je), .second, .val (.long v75), .second, .val (.ref b76), .val (.long v78), .second, .val (.long v89), .second, .val (.long v102), .second, .val (.long v115), .second, .val (.long v116), .second, .val (.long v117), .second, .val (.ref b118), .val (.int (1 : Int32))] [(.ref b76), (.long v116), (.long (own_se xs123 (12 : Int32) v116 c130 u130)), (.int (1 : Int32))])) (fun _ kq => XS.aload X130.here hx rfl (hb hby at_415) rfl rfl kq) ?_
  refine own_st (T' := T130) (F' := (mkF m 418 #[.val (.int ja), .val (.int jd), .val (.long je), .second, .val (.long v75), .second, .val (.ref b76), .val (.long v78), .second, .val (.long v89), .second, .val (.long v102), .second, .val (.long v115), .second, .val (.long v116), .second, .val (.long v117), .second, .val (.ref b118), .val (.int (1 : Int32))] [(.int (1 : Int32)), (.ref b76), (.long v116), (.long (own_se xs123 (12 : Int32) v116 c130 u130)), (.int (1 : Int32))])) (fun _ kq => XS.iconst X130.here hx rfl (hb hby at_417) kq) ?_
  obtain ⟨T131, locs131, X131, e131, N131, st131⟩ := own_callP X130 hx hZ 3 hown (hw _ (List.mem_of_getElem? (i := 37) rfl)) (hw _ (List.mem_of_getElem? (i := 38) rfl)) (hw _ (List.mem_of_getElem? (i := 39) rfl)) (hw _ (List.mem_of_getElem? (i := 40) rfl)) (by decide) (rm7_1 l Z a0 hw [] v116 b76 v78 v81 v78 v86 v90 v93 v96 v99 v103 v106 v109 v112 T130.heap n0 VAb76_130) (by decide) (by decide) rfl rfl rfl N130 (by decide) (by decide) (g := (mkF m 418 #[.val (.int ja), .val (.int jd), .val (.long je), .second, .val (.long v75), .second, .val (.ref b76), .val (.long v78), .second, .val (.long v89), .second, .val (.long v102), .second, .val (.long v115), .second, .val (.long v116), .second, .val (.long v117), .second, .val (.ref b118), .val (.int (1 : Int32))] [(.int (1 : Int32)), (.ref b76), (.long v116), (.long (own_se xs123 (12 : Int32) v116 c130 u130)), (.int (1 : Int32))])) rfl (by rw [hml]; rfl) (argsL := [(.long v116), (.ref b76), (.int (1 : Int32))]) (rest := [(.long (own_se xs123 (12 : Int32) v116 c130 u130)), (.int (1 : Int32))]) (lenOf pd5 rfl) rfl rfl (by show 2 * 0 + _ ≤ _; exact Nat.le_of_eq rfl) (hb hby at_418)
  refine own_st (T' := T131) (F' := (mkF m 421 #[.val (.int ja), .val (.int jd), .val (.long je), .second, .val (.long v75), .second, .val (.ref b76), .val (.long v78), .second, .val (.long v89), .second, .val (.long v102), .second, .val (.long v115), .second, .val (.long v116), .second, .val (.long v117), .second, .val (.ref b118), .val (.int (1 : Int32))] [(.long (rf1 v116 v78 v81 v86 v90 v93 v99 v103 v106 v112)), (.long (own_se xs123 (12 : Int32) v116 c130 u130)), (.int (1 : Int32))])) (st131) ?_
  refine own_st (T' := T131) (F' := (mkF m 422 #[.val (.int ja), .val (.int jd), .val (.long je), .second, .val (.long v75), .second, .val (.ref b76), .val (.long v78), .second, .val (.long v89), .second, .val (.long v102), .second, .val (.long v115), .second, .val (.long v116), .second, .val (.long v117), .second, .val (.ref b118), .val (.int (1 : Int32))] [(.int (lcmpW (own_se xs123 (12 : Int32) v116 c130 u130) (rf1 v116 v78 v81 v86 v90 v93 v99 v103 v106 v112))), (.int (1 : Int32))])) (fun _ kq => XS.lcmp X131.here hx rfl (hb hby at_421) rfl kq) ?_
  refine own_st (T' := T131) (F' := (mkF m 425 #[.val (.int ja), .val (.int jd), .val (.long je), .second, .val (.long v75), .second, .val (.ref b76), .val (.long v78), .second, .val (.long v89), .second, .val (.long v102), .second, .val (.long v115), .second, .val (.long v116), .second, .val (.long v117), .second, .val (.ref b118), .val (.int (1 : Int32))] [(.int (1 : Int32))])) (fun _ kq => XS.ifNo X131.here hx rfl (hb hby at_422) rfl ((if0 _ _).trans (teq ((lw_eq (own_se xs123 (12 : Int32) v116 c130 u130) (rf1 v116 v78 v81 v86 v90 v93 v99 v103 v106 v112)).mpr (own_ve G hn (own_go3 G (Int.le_refl _) hp130 (own_go3 G hn.2.2.2.2.2.1 hp128 (own_go3 G (Int.le_refl _) hp126 (own_start3 G hp124))))))).2) kq) ?_
  refine own_st (T' := T131) (F' := (mkF m 426 #[.val (.int ja), .val (.int jd), .val (.long je), .second, .val (.long v75), .second, .val (.ref b76), .val (.long v78), .second, .val (.long v89), .second, .val (.long v102), .second, .val (.long v115), .second, .val (.long v116), .second, .val (.long v117), .second, .val (.ref b118), .val (.int (1 : Int32))] [(.int (1 : Int32)), (.int (1 : Int32))])) (fun _ kq => XS.iconst X131.here hx rfl (hb hby at_425) kq) ?_
  refine own_st (T' := T131) (F' := (mkF m 430 #[.val (.int ja), .val (.int jd), .val (.long je), .second, .val (.long v75), .second, .val (.ref b76), .val (.long v78), .second, .val (.long v89), .second, .val (.long v102), .second, .val (.long v115), .second, .val (.long v116), .second, .val (.long v117), .second, .val (.ref b118), .val (.int (1 : Int32))] [(.int (1 : Int32)), (.int (1 : Int32))])) (fun _ kq => XS.goto X131.here hx rfl (pc0 := 426) (pc' := 430) rfl (hb hby at_426) (by decide) (by decide) kq) ?_
  refine own_st (T' := T131) (F' := (mkF m 431 #[.val (.int ja), .val (.int jd), .val (.long je), .second, .val (.long v75), .second, .val (.ref b76), .val (.long v78), .second, .val (.long v89), .second, .val (.long v102), .second, .val (.long v115), .second, .val (.long v116), .second, .val (.long v117), .second, .val (.ref b118), .val (.int (1 : Int32))] [(.int (1 : Int32))])) (fun _ kq => XS.iand X131.here hx rfl (hb hby at_430) rfl kq) ?_
  refine own_st (T' := T131) (F' := (mkF m 433 #[.val (.int ja), .val (.int jd), .val (.long je), .second, .val (.long v75), .second, .val (.ref b76), .val (.long v78), .second, .val (.long v89), .second, .val (.long v102), .second, .val (.long v115), .second, .val (.long v116), .second, .val (.long v117), .second, .val (.ref b118), .val (.int (1 : Int32))] [])) (fun _ kq => XS.istore X131.here hx rfl (hb hby at_431) rfl (l' := #[.val (.int ja), .val (.int jd), .val (.long je), .second, .val (.long v75), .second, .val (.ref b76), .val (.long v78), .second, .val (.long v89), .second, .val (.long v102), .second, .val (.long v115), .second, .val (.long v116), .second, .val (.long v117), .second, .val (.ref b118), .val (.int (1 : Int32))]) rfl kq) ?_
  refine own_st (T' := T131) (F' := (mkF m 435 #[.val (.int ja), .val (.int jd), .val (.long je), .second, .val (.long v75), .second, .val (.ref b76), .val (.long v78), .second, .val (.long v89), .second, .val (.long v102), .second, .val (.long v115), .second, .val (.long v116), .second, .val (.long v117), .second, .val (.ref b118), .val (.int (1 : Int32))] [(.int (1 : Int32))])) (fun _ kq => XS.iload X131.here hx rfl (hb hby at_433) rfl kq) ?_
  refine own_st (T' := T131) (F' := (mkF m 437 #[.val (.int ja), .val (.int jd), .val (.long je), .second, .val (.long v75), .second, .val (.ref b76), .val (.long v78), .second, .val (.long v89), .second, .val (.long v102), .second, .val (.long v115), .second, .val (.long v116), .second, .val (.long v117), .second, .val (.ref b118), .val (.int (1 : Int32))] [(.ref b118), (.int (1 : Int32))])) (fun _ kq => XS.aload X131.here hx rfl (hb hby at_435) rfl rfl kq) ?_
  refine own_st (T' := T131) (F' := (mkF m 439 #[.val (.int ja), .val (.int jd), .val (.long je), .second, .val (.long v75), .second, .val (.ref b76), .val (.long v78), .second, .val (.long v89), .second, .val (.long v102), .second, .val (.long v115), .second, .val (.long v116), .second, .val (.long v117), .second, .val (.ref b118), .val (.int (1 : Int32))] [(.long v117), (.ref b118), (.int (1 : Int32))])) (fun _ kq => XS.lload X131.here hx rfl (hb hby at_437) rfl kq) ?_
  obtain ⟨v132, T132, L132, X132, hQ132, st132⟩ := own_callV X131 hx hZ 1 hown (hw _ (List.mem_of_getElem? (i := 22) rfl)) (hw _ (List.mem_of_getElem? (i := 23) rfl)) (hw _ (List.mem_of_getElem? (i := 25) rfl)) (hw _ (List.mem_of_getElem? (i := 24) rfl)) (hw _ (List.mem_of_getElem? (i := 4) rfl)) (hw _ (List.mem_of_getElem? (i := 26) rfl)) (by decide) (rm4 l Z a0 hw [] b118 v117 r120 xs123 c130 (12 : Int32) u130 T130.heap n0 Z130 gb118 ⟨A130.1, A130.2.1, A130.2.2.1, A130.2.2.2.1, A130.2.2.2.2.1, A130.2.2.2.2.2.1, A130.2.2.2.2.2.2⟩ hn130 (by decide) hm130) (by decide) (by decide) e131 A130.1 (by decide) (by decide) (g := (mkF m 439 #[.val (.int ja), .val (.int jd), .val (.long je), .second, .val (.long v75), .second, .val (.ref b76), .val (.long v78), .second, .val (.long v89), .second, .val (.long v102), .second, .val (.long v115), .second, .val (.long v116), .second, .val (.long v117), .second, .val (.ref b118), .val (.int (1 : Int32))] [(.long v117), (.ref b118), (.int (1 : Int32))])) rfl (by rw [hml]; rfl) (argsL := [(.long v117)]) (rest := [(.int (1 : Int32))]) (lenOf pd4 rfl) rfl rfl (by show 2 * 0 + _ ≤ _; exact Nat.le_of_eq rfl) (hb hby at_439)
  obtain ⟨rfl, NQ132, K132, A132⟩ := hQ132
  have N132 := Fr.app N131 NQ132
  have Z132 := Nat.le_trans Z130 K132.1
  have VAb76_132 := VAb76_130.keep K132 (ninS ne_b76_b118 nin0)
  have hn132 := own_ps_nn (xs := xs123) (en := (12 : Int32)) (q := v117) (by decide) 3 c130 u130 hn130
  obtain ⟨c132, u132, hp132⟩ : ∃ c u, (own_ps xs123 (12 : Int32) v117 3 c130 u130) = (c, u) := ⟨_, _, rfl⟩
  rw [hp132] at A132 hn132 st132
  replace A132 : own_Al Z T132.heap b118 r120 xs123 c132 (12 : Int32) u132 := A132
  replace hn132 : ¬ c132 < 0 := hn132
  have hm132 : (12 : Int32).toInt - c132.toInt ≤ 4 * ((3 : Nat) : Int) := own_room (by decide) hn132
  refine own_st (T' := T132) (F' := (mkF m 442 #[.val (.int ja), .val (.int jd), .val (.long je), .second, .val (.long v75), .second, .val (.ref b76), .val (.long v78), .second, .val (.long v89), .second, .val (.long v102), .second, .val (.long v115), .second, .val (.long v116), .second, .val (.long v117), .second, .val (.ref b118), .val (.int (1 : Int32))] [(.long (own_ss xs123 (12 : Int32) v117 c132 u132)), (.int (1 : Int32))])) (st132) ?_
  refine own_st (T' := T132) (F' := (mkF m 444 #[.val (.int ja), .val (.int jd), .val (.long je), .second, .val (.long v75), .second, .val (.ref b76), .val (.long v78), .second, .val (.long v89), .second, .val (.long v102), .second, .val (.long v115), .second, .val (.long v116), .second, .val (.long v117), .second, .val (.ref b118), .val (.int (1 : Int32))] [(.long v117), (.long (own_ss xs123 (12 : Int32) v117 c132 u132)), (.int (1 : Int32))])) (fun _ kq => XS.lload X132.here hx rfl (hb hby at_442) rfl kq) ?_
  refine own_st (T' := T132) (F' := (mkF m 446 #[.val (.int ja), .val (.int jd), .val (.long je), .second, .val (.long v75), .second, .val (.ref b76), .val (.long v78), .second, .val (.long v89), .second, .val (.long v102), .second, .val (.long v115), .second, .val (.long v116), .second, .val (.long v117), .second, .val (.ref b118), .val (.int (1 : Int32))] [(.ref b76), (.long v117), (.long (own_ss xs123 (12 : Int32) v117 c132 u132)), (.int (1 : Int32))])) (fun _ kq => XS.aload X132.here hx rfl (hb hby at_444) rfl rfl kq) ?_
  refine own_st (T' := T132) (F' := (mkF m 447 #[.val (.int ja), .val (.int jd), .val (.long je), .second, .val (.long v75), .second, .val (.ref b76), .val (.long v78), .second, .val (.long v89), .second, .val (.long v102), .second, .val (.long v115), .second, .val (.long v116), .second, .val (.long v117), .second, .val (.ref b118), .val (.int (1 : Int32))] [(.int (0 : Int32)), (.ref b76), (.long v117), (.long (own_ss xs123 (12 : Int32) v117 c132 u132)), (.int (1 : Int32))])) (fun _ kq => XS.iconst X132.here hx rfl (hb hby at_446) kq) ?_
  obtain ⟨T133, locs133, X133, e133, N133, st133⟩ := own_callP X132 hx hZ 3 hown (hw _ (List.mem_of_getElem? (i := 37) rfl)) (hw _ (List.mem_of_getElem? (i := 38) rfl)) (hw _ (List.mem_of_getElem? (i := 39) rfl)) (hw _ (List.mem_of_getElem? (i := 40) rfl)) (by decide) (rm7_0 l Z a0 hw [] v117 b76 v78 v81 v78 v86 v90 v93 v96 v99 v103 v106 v109 v112 T132.heap n0 VAb76_132) (by decide) (by decide) rfl rfl rfl N132 (by decide) (by decide) (g := (mkF m 447 #[.val (.int ja), .val (.int jd), .val (.long je), .second, .val (.long v75), .second, .val (.ref b76), .val (.long v78), .second, .val (.long v89), .second, .val (.long v102), .second, .val (.long v115), .second, .val (.long v116), .second, .val (.long v117), .second, .val (.ref b118), .val (.int (1 : Int32))] [(.int (0 : Int32)), (.ref b76), (.long v117), (.long (own_ss xs123 (12 : Int32) v117 c132 u132)), (.int (1 : Int32))])) rfl (by rw [hml]; rfl) (argsL := [(.long v117), (.ref b76), (.int (0 : Int32))]) (rest := [(.long (own_ss xs123 (12 : Int32) v117 c132 u132)), (.int (1 : Int32))]) (lenOf pd5 rfl) rfl rfl (by show 2 * 0 + _ ≤ _; exact Nat.le_of_eq rfl) (hb hby at_447)
  refine own_st (T' := T133) (F' := (mkF m 450 #[.val (.int ja), .val (.int jd), .val (.long je), .second, .val (.long v75), .second, .val (.ref b76), .val (.long v78), .second, .val (.long v89), .second, .val (.long v102), .second, .val (.long v115), .second, .val (.long v116), .second, .val (.long v117), .second, .val (.ref b118), .val (.int (1 : Int32))] [(.long (rf0 v117 v78 v81 v78 v86 v90 v93 v96 v99 v103 v106 v109 v112)), (.long (own_ss xs123 (12 : Int32) v117 c132 u132)), (.int (1 : Int32))])) (st133) ?_
  refine own_st (T' := T133) (F' := (mkF m 451 #[.val (.int ja), .val (.int jd), .val (.long je), .second, .val (.long v75), .second, .val (.ref b76), .val (.long v78), .second, .val (.long v89), .second, .val (.long v102), .second, .val (.long v115), .second, .val (.long v116), .second, .val (.long v117), .second, .val (.ref b118), .val (.int (1 : Int32))] [(.int (lcmpW (own_ss xs123 (12 : Int32) v117 c132 u132) (rf0 v117 v78 v81 v78 v86 v90 v93 v96 v99 v103 v106 v109 v112))), (.int (1 : Int32))])) (fun _ kq => XS.lcmp X133.here hx rfl (hb hby at_450) rfl kq) ?_
  refine own_st (T' := T133) (F' := (mkF m 454 #[.val (.int ja), .val (.int jd), .val (.long je), .second, .val (.long v75), .second, .val (.ref b76), .val (.long v78), .second, .val (.long v89), .second, .val (.long v102), .second, .val (.long v115), .second, .val (.long v116), .second, .val (.long v117), .second, .val (.ref b118), .val (.int (1 : Int32))] [(.int (1 : Int32))])) (fun _ kq => XS.ifNo X133.here hx rfl (hb hby at_451) rfl ((if0 _ _).trans (teq ((lw_eq (own_ss xs123 (12 : Int32) v117 c132 u132) (rf0 v117 v78 v81 v78 v86 v90 v93 v96 v99 v103 v106 v109 v112)).mpr (own_vs G hn (own_go3 G hn.2.2.2.2.2.2 hp132 (own_go3 G (Int.le_refl _) hp130 (own_go3 G hn.2.2.2.2.2.1 hp128 (own_go3 G (Int.le_refl _) hp126 (own_start3 G hp124)))))))).2) kq) ?_
  refine own_st (T' := T133) (F' := (mkF m 455 #[.val (.int ja), .val (.int jd), .val (.long je), .second, .val (.long v75), .second, .val (.ref b76), .val (.long v78), .second, .val (.long v89), .second, .val (.long v102), .second, .val (.long v115), .second, .val (.long v116), .second, .val (.long v117), .second, .val (.ref b118), .val (.int (1 : Int32))] [(.int (1 : Int32)), (.int (1 : Int32))])) (fun _ kq => XS.iconst X133.here hx rfl (hb hby at_454) kq) ?_
  refine own_st (T' := T133) (F' := (mkF m 459 #[.val (.int ja), .val (.int jd), .val (.long je), .second, .val (.long v75), .second, .val (.ref b76), .val (.long v78), .second, .val (.long v89), .second, .val (.long v102), .second, .val (.long v115), .second, .val (.long v116), .second, .val (.long v117), .second, .val (.ref b118), .val (.int (1 : Int32))] [(.int (1 : Int32)), (.int (1 : Int32))])) (fun _ kq => XS.goto X133.here hx rfl (pc0 := 455) (pc' := 459) rfl (hb hby at_455) (by decide) (by decide) kq) ?_
  refine own_st (T' := T133) (F' := (mkF m 460 #[.val (.int ja), .val (.int jd), .val (.long je), .second, .val (.long v75), .second, .val (.ref b76), .val (.long v78), .second, .val (.long v89), .second, .val (.long v102), .second, .val (.long v115), .second, .val (.long v116), .second, .val (.long v117), .second, .val (.ref b118), .val (.int (1 : Int32))] [(.int (1 : Int32))])) (fun _ kq => XS.iand X133.here hx rfl (hb hby at_459) rfl kq) ?_
  refine own_st (T' := T133) (F' := (mkF m 462 #[.val (.int ja), .val (.int jd), .val (.long je), .second, .val (.long v75), .second, .val (.ref b76), .val (.long v78), .second, .val (.long v89), .second, .val (.long v102), .second, .val (.long v115), .second, .val (.long v116), .second, .val (.long v117), .second, .val (.ref b118), .val (.int (1 : Int32))] [])) (fun _ kq => XS.istore X133.here hx rfl (hb hby at_460) rfl (l' := #[.val (.int ja), .val (.int jd), .val (.long je), .second, .val (.long v75), .second, .val (.ref b76), .val (.long v78), .second, .val (.long v89), .second, .val (.long v102), .second, .val (.long v115), .second, .val (.long v116), .second, .val (.long v117), .second, .val (.ref b118), .val (.int (1 : Int32))]) rfl kq) ?_
  refine own_st (T' := T133) (F' := (mkF m 464 #[.val (.int ja), .val (.int jd), .val (.long je), .second, .val (.long v75), .second, .val (.ref b76), .val (.long v78), .second, .val (.long v89), .second, .val (.long v102), .second, .val (.long v115), .second, .val (.long v116), .second, .val (.long v117), .second, .val (.ref b118), .val (.int (1 : Int32))] [(.int (1 : Int32))])) (fun _ kq => XS.iload X133.here hx rfl (hb hby at_462) rfl kq) ?_
  refine own_st (T' := T133) (F' := (mkF m 466 #[.val (.int ja), .val (.int jd), .val (.long je), .second, .val (.long v75), .second, .val (.ref b76), .val (.long v78), .second, .val (.long v89), .second, .val (.long v102), .second, .val (.long v115), .second, .val (.long v116), .second, .val (.long v117), .second, .val (.ref b118), .val (.int (1 : Int32))] [(.ref b118), (.int (1 : Int32))])) (fun _ kq => XS.aload X133.here hx rfl (hb hby at_464) rfl rfl kq) ?_
  refine own_st (T' := T133) (F' := (mkF m 468 #[.val (.int ja), .val (.int jd), .val (.long je), .second, .val (.long v75), .second, .val (.ref b76), .val (.long v78), .second, .val (.long v89), .second, .val (.long v102), .second, .val (.long v115), .second, .val (.long v116), .second, .val (.long v117), .second, .val (.ref b118), .val (.int (1 : Int32))] [(.long v117), (.ref b118), (.int (1 : Int32))])) (fun _ kq => XS.lload X133.here hx rfl (hb hby at_466) rfl kq) ?_
  obtain ⟨v134, T134, L134, X134, hQ134, st134⟩ := own_callV X133 hx hZ 1 hown (hw _ (List.mem_of_getElem? (i := 41) rfl)) (hw _ (List.mem_of_getElem? (i := 42) rfl)) (hw _ (List.mem_of_getElem? (i := 44) rfl)) (hw _ (List.mem_of_getElem? (i := 43) rfl)) (hw _ (List.mem_of_getElem? (i := 4) rfl)) (hw _ (List.mem_of_getElem? (i := 45) rfl)) (by decide) (rm8 l Z a0 hw [] b118 v117 r120 xs123 c132 (12 : Int32) u132 T132.heap n0 Z132 gb118 ⟨A132.1, A132.2.1, A132.2.2.1, A132.2.2.2.1, A132.2.2.2.2.1, A132.2.2.2.2.2.1, A132.2.2.2.2.2.2⟩ hn132 (by decide) hm132) (by decide) (by decide) e133 A132.1 (by decide) (by decide) (g := (mkF m 468 #[.val (.int ja), .val (.int jd), .val (.long je), .second, .val (.long v75), .second, .val (.ref b76), .val (.long v78), .second, .val (.long v89), .second, .val (.long v102), .second, .val (.long v115), .second, .val (.long v116), .second, .val (.long v117), .second, .val (.ref b118), .val (.int (1 : Int32))] [(.long v117), (.ref b118), (.int (1 : Int32))])) rfl (by rw [hml]; rfl) (argsL := [(.long v117)]) (rest := [(.int (1 : Int32))]) (lenOf pd4 rfl) rfl rfl (by show 2 * 0 + _ ≤ _; exact Nat.le_of_eq rfl) (hb hby at_468)
  obtain ⟨rfl, NQ134, K134, A134⟩ := hQ134
  have N134 := Fr.app N133 NQ134
  have Z134 := Nat.le_trans Z132 K134.1
  have VAb76_134 := VAb76_132.keep K134 (ninS ne_b76_b118 nin0)
  have hn134 := own_ps_nn (xs := xs123) (en := (12 : Int32)) (q := v117) (by decide) 3 c132 u132 hn132
  obtain ⟨c134, u134, hp134⟩ : ∃ c u, (own_ps xs123 (12 : Int32) v117 3 c132 u132) = (c, u) := ⟨_, _, rfl⟩
  rw [hp134] at A134 hn134 st134
  replace A134 : own_Al Z T134.heap b118 r120 xs123 c134 (12 : Int32) u134 := A134
  replace hn134 : ¬ c134 < 0 := hn134
  have hm134 : (12 : Int32).toInt - c134.toInt ≤ 4 * ((3 : Nat) : Int) := own_room (by decide) hn134
  refine own_st (T' := T134) (F' := (mkF m 471 #[.val (.int ja), .val (.int jd), .val (.long je), .second, .val (.long v75), .second, .val (.ref b76), .val (.long v78), .second, .val (.long v89), .second, .val (.long v102), .second, .val (.long v115), .second, .val (.long v116), .second, .val (.long v117), .second, .val (.ref b118), .val (.int (1 : Int32))] [(.long (own_se xs123 (12 : Int32) v117 c134 u134)), (.int (1 : Int32))])) (st134) ?_
  refine own_st (T' := T134) (F' := (mkF m 473 #[.val (.int ja), .val (.int jd), .val (.long je), .second, .val (.long v75), .second, .val (.ref b76), .val (.long v78), .second, .val (.long v89), .second, .val (.long v102), .second, .val (.long v115), .second, .val (.long v116), .second, .val (.long v117), .second, .val (.ref b118), .val (.int (1 : Int32))] [(.long v117), (.long (own_se xs123 (12 : Int32) v117 c134 u134)), (.int (1 : Int32))])) (fun _ kq => XS.lload X134.here hx rfl (hb hby at_471) rfl kq) ?_
  refine own_st (T' := T134) (F' := (mkF m 475 #[.val (.int ja), .val (.int jd), .val (.long je), .second, .val (.long v75), .second, .val (.ref b76), .val (.long v78), .second, .val (.long v89), .second, .val (.long v102), .second, .val (.long v115), .second, .val (.long v116), .second, .val (.long v117), .second, .val (.ref b118), .val (.int (1 : Int32))] [(.ref b76), (.long v117), (.long (own_se xs123 (12 : Int32) v117 c134 u134)), (.int (1 : Int32))])) (fun _ kq => XS.aload X134.here hx rfl (hb hby at_473) rfl rfl kq) ?_
  refine own_st (T' := T134) (F' := (mkF m 476 #[.val (.int ja), .val (.int jd), .val (.long je), .second, .val (.long v75), .second, .val (.ref b76), .val (.long v78), .second, .val (.long v89), .second, .val (.long v102), .second, .val (.long v115), .second, .val (.long v116), .second, .val (.long v117), .second, .val (.ref b118), .val (.int (1 : Int32))] [(.int (1 : Int32)), (.ref b76), (.long v117), (.long (own_se xs123 (12 : Int32) v117 c134 u134)), (.int (1 : Int32))])) (fun _ kq => XS.iconst X134.here hx rfl (hb hby at_475) kq) ?_
  obtain ⟨T135, locs135, X135, e135, N135, st135⟩ := own_callP X134 hx hZ 3 hown (hw _ (List.mem_of_getElem? (i := 37) rfl)) (hw _ (List.mem_of_getElem? (i := 38) rfl)) (hw _ (List.mem_of_getElem? (i := 39) rfl)) (hw _ (List.mem_of_getElem? (i := 40) rfl)) (by decide) (rm7_1 l Z a0 hw [] v117 b76 v78 v81 v78 v86 v90 v93 v96 v99 v103 v106 v109 v112 T134.heap n0 VAb76_134) (by decide) (by decide) rfl rfl rfl N134 (by decide) (by decide) (g := (mkF m 476 #[.val (.int ja), .val (.int jd), .val (.long je), .second, .val (.long v75), .second, .val (.ref b76), .val (.long v78), .second, .val (.long v89), .second, .val (.long v102), .second, .val (.long v115), .second, .val (.long v116), .second, .val (.long v117), .second, .val (.ref b118), .val (.int (1 : Int32))] [(.int (1 : Int32)), (.ref b76), (.long v117), (.long (own_se xs123 (12 : Int32) v117 c134 u134)), (.int (1 : Int32))])) rfl (by rw [hml]; rfl) (argsL := [(.long v117), (.ref b76), (.int (1 : Int32))]) (rest := [(.long (own_se xs123 (12 : Int32) v117 c134 u134)), (.int (1 : Int32))]) (lenOf pd5 rfl) rfl rfl (by show 2 * 0 + _ ≤ _; exact Nat.le_of_eq rfl) (hb hby at_476)
  refine own_st (T' := T135) (F' := (mkF m 479 #[.val (.int ja), .val (.int jd), .val (.long je), .second, .val (.long v75), .second, .val (.ref b76), .val (.long v78), .second, .val (.long v89), .second, .val (.long v102), .second, .val (.long v115), .second, .val (.long v116), .second, .val (.long v117), .second, .val (.ref b118), .val (.int (1 : Int32))] [(.long (rf1 v117 v78 v81 v86 v90 v93 v99 v103 v106 v112)), (.long (own_se xs123 (12 : Int32) v117 c134 u134)), (.int (1 : Int32))])) (st135) ?_
  refine own_st (T' := T135) (F' := (mkF m 480 #[.val (.int ja), .val (.int jd), .val (.long je), .second, .val (.long v75), .second, .val (.ref b76), .val (.long v78), .second, .val (.long v89), .second, .val (.long v102), .second, .val (.long v115), .second, .val (.long v116), .second, .val (.long v117), .second, .val (.ref b118), .val (.int (1 : Int32))] [(.int (lcmpW (own_se xs123 (12 : Int32) v117 c134 u134) (rf1 v117 v78 v81 v86 v90 v93 v99 v103 v106 v112))), (.int (1 : Int32))])) (fun _ kq => XS.lcmp X135.here hx rfl (hb hby at_479) rfl kq) ?_
  refine own_st (T' := T135) (F' := (mkF m 483 #[.val (.int ja), .val (.int jd), .val (.long je), .second, .val (.long v75), .second, .val (.ref b76), .val (.long v78), .second, .val (.long v89), .second, .val (.long v102), .second, .val (.long v115), .second, .val (.long v116), .second, .val (.long v117), .second, .val (.ref b118), .val (.int (1 : Int32))] [(.int (1 : Int32))])) (fun _ kq => XS.ifNo X135.here hx rfl (hb hby at_480) rfl ((if0 _ _).trans (teq ((lw_eq (own_se xs123 (12 : Int32) v117 c134 u134) (rf1 v117 v78 v81 v86 v90 v93 v99 v103 v106 v112)).mpr (own_ve G hn (own_go3 G (Int.le_refl _) hp134 (own_go3 G hn.2.2.2.2.2.2 hp132 (own_go3 G (Int.le_refl _) hp130 (own_go3 G hn.2.2.2.2.2.1 hp128 (own_go3 G (Int.le_refl _) hp126 (own_start3 G hp124))))))))).2) kq) ?_
  refine own_st (T' := T135) (F' := (mkF m 484 #[.val (.int ja), .val (.int jd), .val (.long je), .second, .val (.long v75), .second, .val (.ref b76), .val (.long v78), .second, .val (.long v89), .second, .val (.long v102), .second, .val (.long v115), .second, .val (.long v116), .second, .val (.long v117), .second, .val (.ref b118), .val (.int (1 : Int32))] [(.int (1 : Int32)), (.int (1 : Int32))])) (fun _ kq => XS.iconst X135.here hx rfl (hb hby at_483) kq) ?_
  refine own_st (T' := T135) (F' := (mkF m 488 #[.val (.int ja), .val (.int jd), .val (.long je), .second, .val (.long v75), .second, .val (.ref b76), .val (.long v78), .second, .val (.long v89), .second, .val (.long v102), .second, .val (.long v115), .second, .val (.long v116), .second, .val (.long v117), .second, .val (.ref b118), .val (.int (1 : Int32))] [(.int (1 : Int32)), (.int (1 : Int32))])) (fun _ kq => XS.goto X135.here hx rfl (pc0 := 484) (pc' := 488) rfl (hb hby at_484) (by decide) (by decide) kq) ?_
  refine own_st (T' := T135) (F' := (mkF m 489 #[.val (.int ja), .val (.int jd), .val (.long je), .second, .val (.long v75), .second, .val (.ref b76), .val (.long v78), .second, .val (.long v89), .second, .val (.long v102), .second, .val (.long v115), .second, .val (.long v116), .second, .val (.long v117), .second, .val (.ref b118), .val (.int (1 : Int32))] [(.int (1 : Int32))])) (fun _ kq => XS.iand X135.here hx rfl (hb hby at_488) rfl kq) ?_
  refine own_st (T' := T135) (F' := (mkF m 491 #[.val (.int ja), .val (.int jd), .val (.long je), .second, .val (.long v75), .second, .val (.ref b76), .val (.long v78), .second, .val (.long v89), .second, .val (.long v102), .second, .val (.long v115), .second, .val (.long v116), .second, .val (.long v117), .second, .val (.ref b118), .val (.int (1 : Int32))] [])) (fun _ kq => XS.istore X135.here hx rfl (hb hby at_489) rfl (l' := #[.val (.int ja), .val (.int jd), .val (.long je), .second, .val (.long v75), .second, .val (.ref b76), .val (.long v78), .second, .val (.long v89), .second, .val (.long v102), .second, .val (.long v115), .second, .val (.long v116), .second, .val (.long v117), .second, .val (.ref b118), .val (.int (1 : Int32))]) rfl kq) ?_
  refine own_st (T' := T135) (F' := (mkF m 493 #[.val (.int ja), .val (.int jd), .val (.long je), .second, .val (.long v75), .second, .val (.ref b76), .val (.long v78), .second, .val (.long v89), .second, .val (.long v102), .second, .val (.long v115), .second, .val (.long v116), .second, .val (.long v117), .second, .val (.ref b118), .val (.int (1 : Int32))] [(.int (1 : Int32))])) (fun _ kq => XS.iload X135.here hx rfl (hb hby at_491) rfl kq) ?_
  exact own_retN X135 hx hlk hret (by simp) (hb hby at_493) (by decide) (by decide) ⟨rfl, N135⟩
set_option maxRecDepth 65536 in
theorem comes_1 {Post : Tables → Env → Array Value → State → Outcome → State → Prop} (hpost : ∀ tb e args s v u, (limb_1_1.after args s (.returned v) u = true ∧ limb_1_2.after args s (.returned v) u = true ∧ True) → FrameEnd s (.returned v) u (Jvm.fieldLocs frame_1_writes args s ++ Jvm.arrayLocs frame_1_arrays args s ++ Jvm.staticLocs frame_1_statics s) 16 256 → Post tb e args s (.returned v) u) :
    ArmFor flags0 classFile x code maxLocals ret World_1 tables_1 room_1 Calls_1 rest_1 Pre_1 Post := by
  intro l hfl _ _ p e ha hc hk s m args below hf hA hF happ hP
  obtain ⟨hcalls, hrest, hpre⟩ := hP
  obtain ⟨-, -, -, hnamed, -, -, -, hat⟩ := (Spec.applies_iff hf).mp happ
  obtain ⟨hg, hn⟩ := and_e (Cond.before_iff.mp (show (Jvm.Cond.and given_1 narrow_1).before args s = true from hpre))
  obtain ⟨g0, r0⟩ := and_e hg
  obtain ⟨g1, r1⟩ := and_e r0
  obtain ⟨g2, r2⟩ := and_e r1
  obtain ⟨w0, w1, w2, rfl⟩ : ∃ w0 w1 w2 : Value, args = #[w0, w1, w2] := by
    have hs : args.size = 3 := by simpa [Cond.value, given_1] using g0
    obtain ⟨L⟩ := args
    match L, hs with
    | [w0, w1, w2], _ => exact ⟨w0, w1, w2, rfl⟩
  have hw := fun d (hd : d ∈ tables_1) => atoms_spec (ws := Jvm.Cond.code x code maxLocals ret :: tables_1) hat d (List.mem_cons_of_mem _ hd)
  obtain ⟨i0, ei0⟩ := is_v g1
  obtain rfl : w0 = (.int i0) := Option.some.inj ei0
  obtain ⟨i1, ei1⟩ := is_v g2
  obtain rfl : w1 = (.int i1) := Option.some.inj ei1
  obtain ⟨i2, ei2⟩ := isL_v r2
  obtain rfl : w2 = (.long i2) := Option.some.inj ei2
  obtain ⟨n, o, h1, h2, h3, _, L, rfl, ⟨rfl, N⟩, hq⟩ := rm0 l s _ hw tables_1 i0 i1 i2 s.heap s.heap.size (Nat.le_refl _) p e ha hc hk s m _ below hf ((Spec.applies_iff_loose hf).mp happ).1 ⟨rfl, State.Warmed39.refl s, rfl⟩ trivial
  refine ⟨n, _, h1, h2, h3, hpost _ _ _ _ _ _ ⟨Cond.after_iff.mpr rfl, Cond.after_iff.mpr (eq_i res_at (Term.int_eval (1)) rfl), trivial⟩ ⟨hq.1, hq.2.1, (hq.2.2.sift fun y hy => Or.inr (N y hy)).mono (by decide) (by decide)⟩⟩
theorem main_1_1 : Claimed_1_1 := comes_1 fun _ _ _ _ _ _ h hF => ⟨h.1, hF⟩
theorem main_1_2 : Claimed_1_2 := comes_1 fun _ _ _ _ _ _ h hF => ⟨h.2.1, hF⟩
end Jvm.Pilot.@@N@@
namespace Jvm.Pilot.@@N@@
open Jvm Jvm.ClassFile Sem Op Lib Jvm.Free Jvm.Stand Jvm.Pilot.@@N@@.Jvm.D
/-! MADE BY PROGRAM (witnessworld.py) out of the Statement's table words and the real class files: 11 classes; the members and pool entries that the words name. The judged class is class 1, her method 1. -/
namespace start1
open Jvm.ClassFile
def u (s : String) : CpInfo := .utf8 (stringToUtf16 s)
/-- a pool by its gaps: so many unusable entries, then the entry; so many at the end -/
def gap : Nat → List CpInfo → List CpInfo
  | 0, r => r
  | n + 1, r => .unusable :: gap n r
def poolList (es : List (Nat × CpInfo)) (last : Nat) : List CpInfo := es.foldr (fun e r => gap e.1 (e.2 :: r)) (gap last [])
def pool (es : List (Nat × CpInfo)) (last : Nat) : Array CpInfo := ⟨poolList es last⟩
def fileOf (pool : Array CpInfo) (this : Nat) (attrs : Array Attribute := #[]) (ms : Array MethodInfo := #[]) (fl : Nat := 33) (sup : Nat := 0) (ifs : Array Nat := #[]) (fds : Array FieldInfo := #[]) : ClassFile where
  minorVersion := 0
  majorVersion := 65
  constantPool := pool
  accessFlags := fl
  thisClass := this
  superClass := sup
  interfaces := ifs
  fields := fds
  methods := ms
  attributes := attrs
def plain (name : String) (sup : Option ClassId) : Class where
  name := name
  kind := .ordinary
  loader := none
  accessFlags := 33
  super := sup
  interfaces := #[]
  cf := none
  fields := #[]
  methods := #[]
  instanceTypes := #[]
  staticTypes := #[]
  resolved := #[]
  callSites := []
  init := .initialized
  statics := none
  mirror := none

def pool0 : Array CpInfo := pool [(5, u "<init>"), (0, u "()V"), (1, .class_ 10), (1, u "java/lang/Object")] 113

def k0c0 : Code := { maxStack := 0, maxLocals := 1, code := object_method_1_code, exceptionTable := #[], attributes := #[] }
def k0m0 : Method := { name := "<init>", desc := "()V", sig := { parameters := [], returnType := none }, accessFlags := 1, code := some k0c0 }
/-- java/lang/Object -/
def k0 : Class := { plain "java/lang/Object" none with
  accessFlags := 33
  interfaces := #[]
  cf := some (fileOf pool0 8 #[] #[{ accessFlags := 1, nameIndex := 5, descriptorIndex := 6, attributes := #[] }] 33 0 #[] #[])
  fields := #[]
  methods := #[k0m0]
  instanceTypes := #[]
  staticTypes := #[]
  resolved := Array.replicate 124 none
  statics := none }

def pool1 : Array CpInfo := pool [(2, .class_ 4), (0, .nameAndType 5 6), (0, u "java/lang/Object"), (0, u "<init>"), (0, u "()V"), (0, .long 1152921504606846975), (1, .class_ 10), (0, u "com/example/cotejo/cotejo/engine/Alignment"), (0, .methodref 9 3), (0, .methodref 9 13), (0, .nameAndType 14 15), (0, u "add"), (0, u "(JJJJ)V"), (0, .methodref 9 17), (0, .nameAndType 18 19), (0, u "sourceStart"), (0, u "(J)J"), (0, .methodref 21 22), (0, .class_ 23), (0, .nameAndType 24 25), (0, u "com/example/cotejo/cotejo/engine/AlignmentAddPinLaw"), (0, u "ref"), (0, u "(J[JZ)J"), (0, .methodref 9 27), (0, .nameAndType 28 19), (0, u "sourceEnd"), (2, u "law"), (0, u "(IIJ)Z")] 5

def k1m0 : Method := { name := "<init>", desc := "()V", sig := { parameters := [], returnType := none }, accessFlags := 1, code := none }
def k1c1 : Code := { maxStack := 9, maxLocals := 21, code := code, exceptionTable := #[], attributes := #[] }
def k1m1 : Method := { name := "law", desc := "(IIJ)Z", sig := { parameters := [.int, .int, .long], returnType := some .boolean }, accessFlags := 9, code := some k1c1 }
def k1c2 : Code := { maxStack := 6, maxLocals := 6, code := method_3_code, exceptionTable := #[], attributes := #[] }
def k1m2 : Method := { name := "ref", desc := "(J[JZ)J", sig := { parameters := [.long, (.array .long), .boolean], returnType := some .long }, accessFlags := 10, code := some k1c2 }
/-- com/example/cotejo/cotejo/engine/AlignmentAddPinLaw -/
def k1 : Class := { plain "com/example/cotejo/cotejo/engine/AlignmentAddPinLaw" (some 0) with
  accessFlags := 49
  interfaces := #[]
  cf := some (fileOf pool1 21 #[] #[{ accessFlags := 1, nameIndex := 5, descriptorIndex := 6, attributes := #[] }, { accessFlags := 9, nameIndex := 31, descriptorIndex := 32, attributes := #[] }, { accessFlags := 10, nameIndex := 24, descriptorIndex := 25, attributes := #[] }] 49 2 #[] #[])
  fields := #[]
  methods := #[k1m0, k1m1, k1m2]
  instanceTypes := #[]
  staticTypes := #[]
  resolved := Array.replicate 38 none
  statics := none }

def pool2 : Array CpInfo := pool [(1, .methodref 2 3), (0, .class_ 4), (0, .nameAndType 5 6), (0, u "java/lang/Object"), (0, u "<init>"), (0, u "()V"), (0, .class_ 8), (0, u "com/example/cotejo/cotejo/engine/Alignment"), (0, .fieldref 7 10), (0, .nameAndType 11 12), (0, u "runs"), (0, u "[J"), (0, .fieldref 7 14), (0, .nameAndType 15 16), (0, u "first"), (0, u "I"), (0, .fieldref 7 18), (0, .nameAndType 19 16), (0, u "end"), (12, .methodref 7 33), (0, .nameAndType 34 35), (0, u "pass"), (0, u "(J)V"), (0, .methodref 7 37), (0, .nameAndType 38 39), (0, u "inRun"), (0, u "(J)Z"), (0, .fieldref 7 41), (0, .nameAndType 42 43), (0, u "shift"), (0, u "J"), (0, u "FIELDS"), (4, u "add"), (0, u "(JJJJ)V"), (1, u "sourceStart"), (0, u "(J)J"), (0, u "sourceEnd")] 2

def k2c0 : Code := { maxStack := 2, maxLocals := 1, code := prog_5_method_1_code, exceptionTable := #[], attributes := #[] }
def k2m0 : Method := { name := "<init>", desc := "()V", sig := { parameters := [], returnType := none }, accessFlags := 0, code := some k2c0 }
def k2c1 : Code := { maxStack := 6, maxLocals := 9, code := prog_5_method_2_code, exceptionTable := #[], attributes := #[] }
def k2m1 : Method := { name := "add", desc := "(JJJJ)V", sig := { parameters := [.long, .long, .long, .long], returnType := none }, accessFlags := 0, code := some k2c1 }
def k2c2 : Code := { maxStack := 4, maxLocals := 3, code := prog_5_method_3_code, exceptionTable := #[], attributes := #[] }
def k2m2 : Method := { name := "sourceStart", desc := "(J)J", sig := { parameters := [.long], returnType := some .long }, accessFlags := 0, code := some k2c2 }
def k2c3 : Code := { maxStack := 4, maxLocals := 3, code := prog_5_method_4_code, exceptionTable := #[], attributes := #[] }
def k2m3 : Method := { name := "sourceEnd", desc := "(J)J", sig := { parameters := [.long], returnType := some .long }, accessFlags := 0, code := some k2c3 }
def k2c4 : Code := { maxStack := 6, maxLocals := 3, code := prog_5_method_5_code, exceptionTable := #[], attributes := #[] }
def k2m4 : Method := { name := "pass", desc := "(J)V", sig := { parameters := [.long], returnType := none }, accessFlags := 2, code := some k2c4 }
def k2c5 : Code := { maxStack := 4, maxLocals := 3, code := prog_5_method_6_code, exceptionTable := #[], attributes := #[] }
def k2m5 : Method := { name := "inRun", desc := "(J)Z", sig := { parameters := [.long], returnType := some .boolean }, accessFlags := 2, code := some k2c5 }
/-- com/example/cotejo/cotejo/engine/Alignment -/
def k2 : Class := { plain "com/example/cotejo/cotejo/engine/Alignment" (some 0) with
  accessFlags := 48
  interfaces := #[]
  cf := some (fileOf pool2 7 #[] #[{ accessFlags := 0, nameIndex := 5, descriptorIndex := 6, attributes := #[] }, { accessFlags := 0, nameIndex := 49, descriptorIndex := 50, attributes := #[] }, { accessFlags := 0, nameIndex := 52, descriptorIndex := 53, attributes := #[] }, { accessFlags := 0, nameIndex := 54, descriptorIndex := 53, attributes := #[] }, { accessFlags := 2, nameIndex := 34, descriptorIndex := 35, attributes := #[] }, { accessFlags := 2, nameIndex := 38, descriptorIndex := 39, attributes := #[] }] 48 2 #[] #[{ accessFlags := 26, nameIndex := 44, descriptorIndex := 16, attributes := #[] }, { accessFlags := 2, nameIndex := 11, descriptorIndex := 12, attributes := #[] }, { accessFlags := 2, nameIndex := 15, descriptorIndex := 16, attributes := #[] }, { accessFlags := 2, nameIndex := 19, descriptorIndex := 16, attributes := #[] }, { accessFlags := 2, nameIndex := 42, descriptorIndex := 43, attributes := #[] }])
  fields := #[{ name := "FIELDS", type := .int, accessFlags := 26, slot := 0, constantValue := 0 }, { name := "runs", type := (.array .long), accessFlags := 2, slot := 0, constantValue := 0 }, { name := "first", type := .int, accessFlags := 2, slot := 1, constantValue := 0 }, { name := "end", type := .int, accessFlags := 2, slot := 2, constantValue := 0 }, { name := "shift", type := .long, accessFlags := 2, slot := 3, constantValue := 0 }]
  methods := #[k2m0, k2m1, k2m2, k2m3, k2m4, k2m5]
  instanceTypes := #[(.array .long), .int, .int, .long]
  staticTypes := #[.int]
  resolved := Array.replicate 57 none
  statics := none }

def pool3 : Array CpInfo := pool [(1, u "java/lang/Cloneable"), (0, .class_ 1), (0, u "java/lang/Object"), (0, .class_ 3)] 3

/-- java/lang/Cloneable -/
def k3 : Class := { plain "java/lang/Cloneable" (some 0) with
  accessFlags := 1537
  interfaces := #[]
  cf := some (fileOf pool3 2 #[] #[] 1537 4 #[] #[])
  fields := #[]
  methods := #[]
  instanceTypes := #[]
  staticTypes := #[]
  resolved := Array.replicate 8 none
  statics := none }

def pool4 : Array CpInfo := pool [(1, u "java/io/Serializable"), (0, .class_ 1), (0, u "java/lang/Object"), (0, .class_ 3)] 3

/-- java/io/Serializable -/
def k4 : Class := { plain "java/io/Serializable" (some 0) with
  accessFlags := 1537
  interfaces := #[]
  cf := some (fileOf pool4 2 #[] #[] 1537 4 #[] #[])
  fields := #[]
  methods := #[]
  instanceTypes := #[]
  staticTypes := #[]
  resolved := Array.replicate 8 none
  statics := none }

/-- the primitive byte -/
def k5 : Class := { plain "byte" none with kind := .primitive 'B', accessFlags := 0x411 }
/-- [B -/
def k6 : Class := { plain "[B" (some 0) with kind := .array 5 .byte, interfaces := #[3, 4], accessFlags := 1041 }

/-- the primitive int -/
def k7 : Class := { plain "int" none with kind := .primitive 'I', accessFlags := 0x411 }
/-- [I -/
def k8 : Class := { plain "[I" (some 0) with kind := .array 7 .int, interfaces := #[3, 4], accessFlags := 1041 }

/-- the primitive long -/
def k9 : Class := { plain "long" none with kind := .primitive 'J', accessFlags := 0x411 }
/-- [J -/
def k10 : Class := { plain "[J" (some 0) with kind := .array 9 .long, interfaces := #[3, 4], accessFlags := 1041 }

def heap : Heap := #[]
def classes : Array Class := #[k0, k1, k2, k3, k4, k5, k6, k7, k8, k9, k10]
def interned : List (Array UInt16 × Addr) := []
def slotsUsed : Nat := 0
def theMethod : MethodId := ⟨1, 1⟩
def args0 : Array Value := #[.int 5, .int 5, .long 5]
def aboutOver (below : List Frame) : State where
  vm := { classes := classes, interned := interned.toArray }
  heap := heap
  slotsUsed := slotsUsed
  threads := #[{ frames := .invoking theMethod args0 :: below }]
def below0 : List Frame := [.native { method := ⟨0, 0⟩, args := #[] }]
def about1 : State := aboutOver below0
def p0 : Program := .bare "" "" ""
def e0 : Env := launch0.env 0 0 0
theorem w_frames : about1.frames = Frame.invoking theMethod args0 :: below0 := rfl
set_option maxRecDepth 65536 in
theorem w_args : argsFit about1.vm theMethod args0 = true := by decide +kernel
set_option maxRecDepth 65536 in
theorem w_heap : heapFits about1 = true := by decide +kernel
set_option maxRecDepth 65536 in
theorem w_runnable : about1.curStatus? = some .runnable := by decide +kernel
set_option maxRecDepth 65536 in
theorem w_alone : about1.alone = true := by decide +kernel
set_option maxRecDepth 65536 in
theorem w_named : about1.methodNamed? x = some theMethod := by decide +kernel
set_option maxRecDepth 65536 in
theorem w_hears : about1.hears theMethod below0 = true := by decide +kernel
set_option maxRecDepth 65536 in
theorem w_ripe : about1.ripe theMethod args0 below0 = true := by decide +kernel
theorem w_running : about1.status = .running := rfl
set_option maxRecDepth 65536 in
theorem w_room : about1.hasRoom e0.platform room_1 = true :=
  launch0.hasRoom_least _ room_1 (by decide +kernel) (by decide +kernel) (by decide +kernel) (by decide +kernel) (by decide +kernel) (by decide +kernel)
theorem allAtoms_all (ts : List Jvm.Cond) (a : Array Jvm.Value) (st : Jvm.State) : (allAtoms ts).before a st = ts.all (fun c => c.before a st) := by
  induction ts with
  | nil => rfl
  | cons c t ih =>
    show (Jvm.Cond.and c (allAtoms t)).before a st = _
    rw [Jvm.Cond.before_and, ih, List.all_cons]
def words1 : List Jvm.Cond := Jvm.Cond.code x code maxLocals ret :: tables_1
/-- a 'code' word, met by the world's own term for the bytes: nothing is compared byte by byte -/
theorem code_word {y : MethodName} {bytes : ByteArray} {mx : Nat} {rt : Option FieldType} {a : Array Value} {s : State} {m : MethodId} {meth : Method} {c : Code} (h1 : s.methodNamed? y = some m) (h2 : s.vm.method? m = some meth) (h3 : meth.code = some c) (h4 : c.code = bytes)
    (h5 : (c.maxLocals == mx && c.exceptionTable.isEmpty && decide (c.maxStack ≤ mostOperands) && decide (meth.sig.returnType = rt) && !meth.locks && decide (parseMethodDescriptor y.desc = some meth.sig)) = true) : (Jvm.Cond.code y bytes mx rt).before a s = true := by
  simp only [Bool.and_eq_true, beq_iff_eq, Bool.not_eq_true', decide_eq_true_eq] at h5
  obtain ⟨⟨⟨⟨⟨g1, g2⟩, g3⟩, g4⟩, g5⟩, g6⟩ := h5
  simp [Cond.before, Cond.holds, Cond.value, h1, h2, h3, h4, g1, g2, g3, g4, g5, g6]
def isCode : Jvm.Cond → Bool
  | .code _ _ _ _ => true
  | _ => false
theorem all_split {L : List Jvm.Cond} {P : Jvm.Cond → Bool} (h1 : L.all (fun c => isCode c || P c) = true) (h2 : ∀ c ∈ L.filter isCode, P c = true) : L.all P = true := by
  refine List.all_eq_true.mpr fun c hc => ?_
  have h := List.all_eq_true.mp h1 c hc
  rcases Bool.eq_false_or_eq_true (isCode c) with hi | hi
  · exact h2 c (List.mem_filter.mpr ⟨hc, hi⟩)
  · simpa [hi] using h
set_option maxRecDepth 65536 in
theorem w_c0 : (Jvm.Cond.code x code maxLocals ret).before args0 about1 = true := code_word (m := ⟨1, 1⟩) (meth := k1m1) (c := k1c1) (by decide +kernel) rfl rfl rfl (by decide +kernel)
set_option maxRecDepth 65536 in
theorem w_c1 : (Jvm.Cond.code ({ cls := "com/example/cotejo/cotejo/engine/Alignment", name := "<init>", desc := "()V" } : Jvm.MethodName) prog_5_method_1_code (1 : Nat) (Option.none : Option Jvm.ClassFile.FieldType)).before args0 about1 = true := code_word (m := ⟨2, 0⟩) (meth := k2m0) (c := k2c0) (by decide +kernel) rfl rfl rfl (by decide +kernel)
set_option maxRecDepth 65536 in
theorem w_c2 : (Jvm.Cond.code ({ cls := "java/lang/Object", name := "<init>", desc := "()V" } : Jvm.MethodName) object_method_1_code (1 : Nat) (Option.none : Option Jvm.ClassFile.FieldType)).before args0 about1 = true := code_word (m := ⟨0, 0⟩) (meth := k0m0) (c := k0c0) (by decide +kernel) rfl rfl rfl (by decide +kernel)
set_option maxRecDepth 65536 in
theorem w_c3 : (Jvm.Cond.code ({ cls := "com/example/cotejo/cotejo/engine/Alignment", name := "add", desc := "(JJJJ)V" } : Jvm.MethodName) prog_5_method_2_code (9 : Nat) (Option.none : Option Jvm.ClassFile.FieldType)).before args0 about1 = true := code_word (m := ⟨2, 1⟩) (meth := k2m1) (c := k2c1) (by decide +kernel) rfl rfl rfl (by decide +kernel)
set_option maxRecDepth 65536 in
theorem w_c4 : (Jvm.Cond.code ({ cls := "com/example/cotejo/cotejo/engine/Alignment", name := "sourceStart", desc := "(J)J" } : Jvm.MethodName) prog_5_method_3_code (3 : Nat) (Option.some Jvm.ClassFile.FieldType.long)).before args0 about1 = true := code_word (m := ⟨2, 2⟩) (meth := k2m2) (c := k2c2) (by decide +kernel) rfl rfl rfl (by decide +kernel)
set_option maxRecDepth 65536 in
theorem w_c5 : (Jvm.Cond.code ({ cls := "com/example/cotejo/cotejo/engine/Alignment", name := "pass", desc := "(J)V" } : Jvm.MethodName) prog_5_method_5_code (3 : Nat) (Option.none : Option Jvm.ClassFile.FieldType)).before args0 about1 = true := code_word (m := ⟨2, 4⟩) (meth := k2m4) (c := k2c4) (by decide +kernel) rfl rfl rfl (by decide +kernel)
set_option maxRecDepth 65536 in
theorem w_c6 : (Jvm.Cond.code ({ cls := "com/example/cotejo/cotejo/engine/Alignment", name := "inRun", desc := "(J)Z" } : Jvm.MethodName) prog_5_method_6_code (3 : Nat) (Option.some Jvm.ClassFile.FieldType.boolean)).before args0 about1 = true := code_word (m := ⟨2, 5⟩) (meth := k2m5) (c := k2c5) (by decide +kernel) rfl rfl rfl (by decide +kernel)
set_option maxRecDepth 65536 in
theorem w_c7 : (Jvm.Cond.code ({ cls := "com/example/cotejo/cotejo/engine/AlignmentAddPinLaw", name := "ref", desc := "(J[JZ)J" } : Jvm.MethodName) method_3_code (6 : Nat) (Option.some Jvm.ClassFile.FieldType.long)).before args0 about1 = true := code_word (m := ⟨1, 2⟩) (meth := k1m2) (c := k1c2) (by decide +kernel) rfl rfl rfl (by decide +kernel)
set_option maxRecDepth 65536 in
theorem w_c8 : (Jvm.Cond.code ({ cls := "com/example/cotejo/cotejo/engine/Alignment", name := "sourceEnd", desc := "(J)J" } : Jvm.MethodName) prog_5_method_4_code (3 : Nat) (Option.some Jvm.ClassFile.FieldType.long)).before args0 about1 = true := code_word (m := ⟨2, 3⟩) (meth := k2m3) (c := k2c3) (by decide +kernel) rfl rfl rfl (by decide +kernel)
def codes1 : List Jvm.Cond := [Jvm.Cond.code x code maxLocals ret, Jvm.Cond.code ({ cls := "com/example/cotejo/cotejo/engine/Alignment", name := "<init>", desc := "()V" } : Jvm.MethodName) prog_5_method_1_code (1 : Nat) (Option.none : Option Jvm.ClassFile.FieldType), Jvm.Cond.code ({ cls := "java/lang/Object", name := "<init>", desc := "()V" } : Jvm.MethodName) object_method_1_code (1 : Nat) (Option.none : Option Jvm.ClassFile.FieldType), Jvm.Cond.code ({ cls := "com/example/cotejo/cotejo/engine/Alignment", name := "add", desc := "(JJJJ)V" } : Jvm.MethodName) prog_5_method_2_code (9 : Nat) (Option.none : Option Jvm.ClassFile.FieldType), Jvm.Cond.code ({ cls := "com/example/cotejo/cotejo/engine/Alignment", name := "sourceStart", desc := "(J)J" } : Jvm.MethodName) prog_5_method_3_code (3 : Nat) (Option.some Jvm.ClassFile.FieldType.long), Jvm.Cond.code ({ cls := "com/example/cotejo/cotejo/engine/Alignment", name := "pass", desc := "(J)V" } : Jvm.MethodName) prog_5_method_5_code (3 : Nat) (Option.none : Option Jvm.ClassFile.FieldType), Jvm.Cond.code ({ cls := "com/example/cotejo/cotejo/engine/Alignment", name := "inRun", desc := "(J)Z" } : Jvm.MethodName) prog_5_method_6_code (3 : Nat) (Option.some Jvm.ClassFile.FieldType.boolean), Jvm.Cond.code ({ cls := "com/example/cotejo/cotejo/engine/AlignmentAddPinLaw", name := "ref", desc := "(J[JZ)J" } : Jvm.MethodName) method_3_code (6 : Nat) (Option.some Jvm.ClassFile.FieldType.long), Jvm.Cond.code ({ cls := "com/example/cotejo/cotejo/engine/Alignment", name := "sourceEnd", desc := "(J)J" } : Jvm.MethodName) prog_5_method_4_code (3 : Nat) (Option.some Jvm.ClassFile.FieldType.long)]
set_option maxRecDepth 65536 in
theorem codes_eq : words1.filter isCode = codes1 := rfl
theorem w_codes : ∀ c ∈ words1.filter isCode, c.before args0 about1 = true := by
  rw [codes_eq]
  intro c hc
  simp only [codes1, List.mem_cons, List.not_mem_nil, or_false] at hc
  rcases hc with rfl | rfl | rfl | rfl | rfl | rfl | rfl | rfl | rfl
  · exact w_c0
  · exact w_c1
  · exact w_c2
  · exact w_c3
  · exact w_c4
  · exact w_c5
  · exact w_c6
  · exact w_c7
  · exact w_c8
set_option maxRecDepth 65536 in
theorem w_t1 : (words1.take 24).all (fun c => isCode c || c.before args0 about1) = true := by decide +kernel
set_option maxRecDepth 65536 in
theorem w_t2 : (words1.drop 24).all (fun c => isCode c || c.before args0 about1) = true := by decide +kernel
theorem w_tables : (allAtoms (Jvm.Cond.code x code maxLocals ret :: tables_1)).before args0 about1 = true := by
  rw [allAtoms_all]
  show words1.all (fun c => c.before args0 about1) = true
  refine all_split ?_ w_codes
  rw [← List.take_append_drop 24 words1, List.all_append, w_t1, w_t2]
  rfl
set_option maxRecDepth 65536 in
theorem w_case : (Jvm.Cond.and given_1 narrow_1).before args0 about1 = true := by decide +kernel
theorem w_applies : (headSpec (Jvm.Cond.code x code maxLocals ret :: tables_1) room_1).applies x e0.platform about1 = true :=
  (Spec.applies_iff w_frames).mpr ⟨w_running, w_runnable, w_alone, w_named, w_hears, w_ripe, w_room, w_tables⟩
theorem atStart : AtStart classFile x code maxLocals ret World_1 tables_1 room_1 Calls_1 rest_1 Pre_1 launch0 p0 e0 about1 theMethod args0 below0 :=
  ⟨lists_1, trivial, launch0.admits_env _ _ _, launch0.least_env, fairChoices_fair.cas, fairChoices_fair.clock, w_frames, w_args, w_heap, w_applies, trivial, trivial, w_case⟩
end start1
theorem witness_1 : WitnessClaimed_1 := ⟨start1.p0, start1.e0, start1.about1, start1.theMethod, start1.args0, start1.below0, start1.atStart⟩
end Jvm.Pilot.@@N@@
