import JvmDerived
import JvmDerived.Pilot.@@N@@Statement
import JvmDerived.Pilot.@@N@@Code
set_option linter.unusedVariables false
set_option linter.unusedSimpArgs false
namespace Jvm.RoadKit
open Sem ClassFile Op Lib Jvm.Stand Jvm.Free Jvm.LawKit
section New
variable {p : Program} {l : Launch} {e : Env} {R : Room} {s : State} {m : MethodId} {args : Array Value} {below : List Frame} {meth : Method} {c : Code} {T : State} {locs : List Loc} {cells slots : Nat}
theorem retI (X : Stand p l e R s m args below meth c T locs cells slots) (hx : p.tables.exec = Jvm.exec) {pc : Nat} {Ls : Array Slot} {z : Int32} {rest : List Value} (hret : meth.sig.returnType = some .int) (hd : decode c.code pc = .ok (.ireturn, 1)) {fs : List Frame}
    (hl : ∀ (f : JFrame) (acts : List Action), f.method = m → f.locked = none → f.entered = [] → (doReturn e (T.setTop f) acts (some (.int z))).1 = T.setFrames fs) : Steps p.tables e below (T.setTop (mkF m pc Ls (.int z :: rest))) (T.setFrames fs) := by
  have hm' : T.vm.method? m = some meth := X.method'
  have hn : narrow .int (.int z) = .int z := rfl
  show Steps p.tables e below (T.setTop { method := m, pc := pc, locals := Ls, stack := _ :: rest, locked := none }) _
  jvm_step X.here [X.here.top, hx, hd, hm', hret, hn]
  first | (intro acts; rw [hl _ acts rfl rfl rfl]) | rw [hl _ _ rfl rfl rfl]
  exact Steps.refl _
end New
end Jvm.RoadKit
namespace Jvm.Pilot.@@N@@
open Jvm Jvm.ClassFile Sem Op Lib Jvm.Free Jvm.Stand Jvm.LawKit Jvm.RoadKit Bundle Jvm.Pilot.@@N@@.Jvm.D
section OwnKit
variable {p : Program} {l : Launch} {e : Env} {R : Room} {s : State} {m : MethodId} {args : Array Value} {below : List Frame} {meth : Method} {c : Code} {T T' : State} {locs : List Loc} {cells slots : Nat} {Z : State} {a0 : Array Value} {h h' : Heap} {n0 : Nat} {a : Addr}
/-- from this frame the walk ends by a return, and leaves what Q says -/
def own_Ends (p : Program) (e : Env) (below : List Frame) (s : State) (k n : Nat) (Q : Option Value → Heap → List Loc → Prop) (T : State) (F : JFrame) : Prop :=
  ∃ s₂ o, Steps p.tables e below (T.setTop F) s₂ ∧ s₂.status = .running ∧ Ended s₂ below o ∧ ∃ v L, o = .returned v ∧ Q v s₂.heap L ∧ FrameEnd s o s₂ L k n
theorem own_st {F F' : JFrame} {k n : Nat} {Q : Option Value → Heap → List Loc → Prop} (q : ∀ t, Steps p.tables e below (T'.setTop F') t → Steps p.tables e below (T.setTop F) t) (r : own_Ends p e below s k n Q T' F') : own_Ends p e below s k n Q T F := by
  obtain ⟨s₂, o, h1, h2⟩ := r
  exact ⟨s₂, o, q _ h1, h2⟩
theorem own_retN (X : Stand p l e R s m args below meth c T locs cells slots) (hx : p.tables.exec = Jvm.exec) (hlk : meth.locks = false) {t : FieldType} (hret : meth.sig.returnType = some t) (ht : t = .boolean ∨ t = .byte ∨ t = .char ∨ t = .short) {pc : Nat} {Ls : Array Slot} {z : Int32} {rest : List Value}
    (hd : decode c.code pc = .ok (.ireturn, 1)) {k n : Nat} {Q : Option Value → Heap → List Loc → Prop} (hk : cells ≤ k) (hn : slots ≤ n) (q : Q (some (.int (nar t z))) T.heap locs) : own_Ends p e below s k n Q T (mkF m pc Ls (.int z :: rest)) := by
  obtain ⟨fs, hr, hrun, hended, hW, hsame⟩ := X.leave (v := some (.int (nar t z))) (fun h => by rw [hret] at h; cases h) hlk
  exact ⟨_, _, retN X hx hret ht hd hr, hrun, hended, _, _, rfl, q, ⟨_, rfl⟩, hW, hsame.mono hk hn⟩
theorem own_retI (X : Stand p l e R s m args below meth c T locs cells slots) (hx : p.tables.exec = Jvm.exec) (hlk : meth.locks = false) (hret : meth.sig.returnType = some .int) {pc : Nat} {Ls : Array Slot} {z : Int32} {rest : List Value}
    (hd : decode c.code pc = .ok (.ireturn, 1)) {k n : Nat} {Q : Option Value → Heap → List Loc → Prop} (hk : cells ≤ k) (hn : slots ≤ n) (q : Q (some (.int z)) T.heap locs) : own_Ends p e below s k n Q T (mkF m pc Ls (.int z :: rest)) := by
  obtain ⟨fs, hr, hrun, hended, hW, hsame⟩ := X.leave (v := some (.int z)) (fun h => by rw [hret] at h; cases h) hlk
  exact ⟨_, _, retI X hx hret hd hr, hrun, hended, _, _, rfl, q, ⟨_, rfl⟩, hW, hsame.mono hk hn⟩
theorem own_retL (X : Stand p l e R s m args below meth c T locs cells slots) (hx : p.tables.exec = Jvm.exec) (hlk : meth.locks = false) (hret : meth.sig.returnType = some .long) {pc : Nat} {Ls : Array Slot} {z : Int64}
    (hd : decode c.code pc = .ok (.lreturn, 1)) {k n : Nat} {Q : Option Value → Heap → List Loc → Prop} (hk : cells ≤ k) (hn : slots ≤ n) (q : Q (some (.long z)) T.heap locs) : own_Ends p e below s k n Q T (mkF m pc Ls [.long z]) := by
  obtain ⟨fs, hr, hrun, hended, hW, hsame⟩ := X.leave (v := some (.long z)) (fun h => by rw [hret] at h; cases h) hlk
  exact ⟨_, _, X.lreturnOut hx hret hd hr, hrun, hended, _, _, rfl, q, ⟨_, rfl⟩, hW, hsame.mono hk hn⟩
theorem own_retV (X : Stand p l e R s m args below meth c T locs cells slots) (hx : p.tables.exec = Jvm.exec) (hlk : meth.locks = false) (hret : meth.sig.returnType = none) {pc : Nat} {Ls : Array Slot}
    (hd : decode c.code pc = .ok (.return_, 1)) {k n : Nat} {Q : Option Value → Heap → List Loc → Prop} (hk : cells ≤ k) (hn : slots ≤ n) (q : Q none T.heap locs) : own_Ends p e below s k n Q T (mkF m pc Ls []) := by
  obtain ⟨fs, hr, hrun, hended, hW, hsame⟩ := X.leave (v := none) (fun _ => rfl) hlk
  exact ⟨_, _, X.returnOut hx hret hd hr, hrun, hended, _, _, rfl, q, ⟨_, rfl⟩, hW, hsame.mono hk hn⟩
/-- a body's contract: called with these values in heap h it returns, and Q holds of what it returns, of the heap and of the places written -/
abbrev own_Met (l : Launch) (Z : State) (y : MethodName) (bytes : ByteArray) (maxL : Nat) (ret : Option FieldType) (ws : List Jvm.Cond) (rm : Room) (as' : Array Value) (h : Heap) (Q : Option Value → Heap → List Loc → Prop) : Prop :=
  MetFree l y (head1 (Jvm.Cond.code y bytes maxL ret :: ws) rm) (fun a U => a = as' ∧ Z.Warmed39 U.vm ∧ U.heap = h) (fun _ _ _ _ _ => True) (fun _ U o U' => ∃ v L, o = .returned v ∧ Q v U'.heap L ∧ FrameEnd U o U' L rm.cells rm.slots)
theorem own_body {y : MethodName} {bytes : ByteArray} {maxL : Nat} {ret : Option FieldType} {ws : List Jvm.Cond} {rm : Room} {as' : Array Value} {Q : Option Value → Heap → List Loc → Prop} (hpf : plainFor y = true)
    (body : ∀ (p : Program) (e : Env) (s : State) (m : MethodId) (below : List Frame) (meth : Method) (c : Code) (T : State), Stand p l e rm s m as' below meth c T [] 0 0 → p.tables.exec = Jvm.exec → c.code = bytes → c.maxLocals = maxL → meth.sig.returnType = ret → meth.locks = false → Z.Warmed39 s.vm → s.vm.findClass y.cls = some m.cls → meth.name = y.name → T.heap = h →
      own_Ends p e below s rm.cells rm.slots Q T (entryFrame m as' maxL)) : own_Met l Z y bytes maxL ret ws rm as' h Q := by
  refine MetFree.of_bodySF hpf hisR ?_
  intro p e s m args below meth c s₁ Bd hml0 hP hK
  obtain ⟨rfl, hZ, hh⟩ := hP
  exact body p e s m below meth c s₁ (Stand.of_body Bd) Bd.exec Bd.bytes hml0 Bd.returns Bd.notSynchronized hZ (findClass_of_methodNamed Bd.named) (name_of_methodNamed Bd.named Bd.method).1 (by rw [← hh, Bd.state]; rfl)
theorem own_entry {F F' : JFrame} {k n : Nat} {Q : Option Value → Heap → List Loc → Prop} (q : F = F') (r : own_Ends p e below s k n Q T F') : own_Ends p e below s k n Q T F := q ▸ r
/-- what a body without effect leaves -/
abbrev own_PQ (w : Value) (h0 : Heap) (n0 : Nat) : Option Value → Heap → List Loc → Prop := fun v h L => v = some w ∧ Fr n0 L ∧ h = h0
theorem own_PQi {w w' : Value} {h0 : Heap} {L : List Loc} (hv : w = w') (N : Fr n0 L) (hh : h = h0) : own_PQ w' h0 n0 (some w) h L := ⟨congrArg some hv, N, hh⟩
/-- a static call by the callee's contract -/
theorem own_callS (X : Stand p l e R s m args below meth c T locs cells slots) (hx : p.tables.exec = Jvm.exec) (hZ : Z.Warmed39 s.vm) {own : String} {index : Nat} {y : MethodName} {bytes : ByteArray} {maxL : Nat} {ret : Option FieldType} {rm : Room} (W : Nat) {as' : Array Value} {Q : Option Value → Heap → List Loc → Prop}
    (hown : s.vm.findClass own = some m.cls) (w1 : (Jvm.Cond.methodLink own index y).before a0 Z = true) (w2 : (Jvm.Cond.static y).before a0 Z = true) (w3 : (Jvm.Cond.initialized y.cls).before a0 Z = true) (w4 : (Jvm.Cond.code y bytes maxL ret).before a0 Z = true)
    (hy : y.cls ≠ "java/lang/invoke/MethodHandle" ∧ y.cls ≠ "java/lang/invoke/VarHandle") (hM : own_Met l Z y bytes maxL ret [] rm as' h Q) (hf : rm.frames + 1 ≤ R.frames) (hl : W + (maxL + 11) + rm.locals ≤ R.locals) (eT : T.heap = h) (hc : cells + rm.cells ≤ R.cells) (hs : slots + rm.slots ≤ R.slots)
    {g : JFrame} (hg : g.method = m) (hsize : g.locals.size = c.maxLocals) {argsL rest : List Value} (hlen : ∀ sig, parseMethodDescriptor y.desc = some sig → argsL.length = sig.parameters.length) (has : argsL.toArray = as') (hst : g.stack = argsL.reverse ++ rest)
    (hW : 2 * g.monitorRoom + (rest.map fun v => v.category).sum ≤ W) (hd : decode c.code g.pc = .ok (.invokestatic index, 3)) :
    ∃ (v : Option Value) (T' : State) (L : List Loc), Stand p l e R s m args below meth c T' (locs ++ L) (cells + rm.cells) (slots + rm.slots) ∧ Q v T'.heap L ∧
      ∀ t, Steps p.tables e below (T'.setTop { g with pc := g.pc + 3, stack := v.toList ++ rest }) t → Steps p.tables e below (T.setTop g) t := by
  obtain ⟨v, _, ⟨T6, L6, k6, n6⟩, -, X6, ⟨Lc6, hQ6, l6, y6, z6⟩, st6⟩ := Jvm.LawKit.callS X hx hown (mvT hZ w1) (mvT hZ w2) (mvT hZ w3) (mvT hZ w4) hy (backOf (W := W) hM hZ w4 w3 hf hl) hg hsize (argsL := argsL) (rest := rest) hlen hst hW hd (fun _ _ => ⟨has, eT, hc, hs⟩)
  dsimp only [Pt.U, Pt.locs, Pt.cells, Pt.slots] at X6 l6 y6 z6 st6 hQ6
  subst l6 y6 z6
  exact ⟨v, T6, Lc6, X6, hQ6, st6⟩
/-- a static call without effect -/
theorem own_callP (X : Stand p l e R s m args below meth c T locs cells slots) (hx : p.tables.exec = Jvm.exec) (hZ : Z.Warmed39 s.vm) {own : String} {index : Nat} {y : MethodName} {bytes : ByteArray} {maxL : Nat} {ret : Option FieldType} {rm : Room} (W : Nat) {as' : Array Value} {w : Value}
    (hown : s.vm.findClass own = some m.cls) (w1 : (Jvm.Cond.methodLink own index y).before a0 Z = true) (w2 : (Jvm.Cond.static y).before a0 Z = true) (w3 : (Jvm.Cond.initialized y.cls).before a0 Z = true) (w4 : (Jvm.Cond.code y bytes maxL ret).before a0 Z = true)
    (hy : y.cls ≠ "java/lang/invoke/MethodHandle" ∧ y.cls ≠ "java/lang/invoke/VarHandle") (hM : own_Met l Z y bytes maxL ret [] rm as' h (own_PQ w h n0)) (hf : rm.frames + 1 ≤ R.frames) (hl : W + (maxL + 11) + rm.locals ≤ R.locals) (rc : rm.cells = 0) (rs : rm.slots = 0) (eT : T.heap = h) (N : Fr n0 locs) (hc : cells ≤ R.cells) (hs : slots ≤ R.slots)
    {g : JFrame} (hg : g.method = m) (hsize : g.locals.size = c.maxLocals) {argsL rest : List Value} (hlen : ∀ sig, parseMethodDescriptor y.desc = some sig → argsL.length = sig.parameters.length) (has : argsL.toArray = as') (hst : g.stack = argsL.reverse ++ rest)
    (hW : 2 * g.monitorRoom + (rest.map fun v => v.category).sum ≤ W) (hd : decode c.code g.pc = .ok (.invokestatic index, 3)) :
    ∃ (T' : State) (locs' : List Loc), Stand p l e R s m args below meth c T' locs' cells slots ∧ T'.heap = h ∧ Fr n0 locs' ∧
      ∀ t, Steps p.tables e below (T'.setTop { g with pc := g.pc + 3, stack := w :: rest }) t → Steps p.tables e below (T.setTop g) t := by
  obtain ⟨v, T', L, X', ⟨rfl, NL, hh⟩, st⟩ := own_callS X hx hZ W hown w1 w2 w3 w4 hy hM hf hl eT (by rw [rc]; exact hc) (by rw [rs]; exact hs) hg hsize hlen has hst hW hd
  rw [rc, rs] at X'
  exact ⟨T', _, X', hh, Fr.app N NL, st⟩
/-- an array of ints, bytes, ..: its length and all its elements -/
def own_AI (Z : State) (h : Heap) (a : Addr) (ty : FieldType) (n : Int32) (xs : List Int32) : Prop := ∃ k, Arv Z h a k ty n (xs.map Value.int) (.int 0) ∧ xs.length = n.toNatClampNeg
def own_AJ (Z : State) (h : Heap) (a : Addr) (n : Int32) (xs : List Int64) : Prop := ∃ k, Arv Z h a k .long n (xs.map Value.long) (.long 0) ∧ xs.length = n.toNatClampNeg
theorem own_AI.ext {ty : FieldType} {n : Int32} {xs : List Int32} (V : own_AI Z h a ty n xs) (E : Ext h h') : own_AI Z h' a ty n xs := by
  obtain ⟨k, V, q⟩ := V; exact ⟨k, V.ext E, q⟩
theorem own_AJ.ext {n : Int32} {xs : List Int64} (V : own_AJ Z h a n xs) (E : Ext h h') : own_AJ Z h' a n xs := by
  obtain ⟨k, V, q⟩ := V; exact ⟨k, V.ext E, q⟩
theorem own_AI.other {ty : FieldType} {n : Int32} {xs : List Int32} {b : Addr} {sl : Nat} {v : Value} (V : own_AI Z h a ty n xs) (W : Wr h h' b sl v) (q : a ≠ b) : own_AI Z h' a ty n xs := by
  obtain ⟨k, V, r⟩ := V; exact ⟨k, V.other W q, r⟩
theorem own_AJ.other {n : Int32} {xs : List Int64} {b : Addr} {sl : Nat} {v : Value} (V : own_AJ Z h a n xs) (W : Wr h h' b sl v) (q : a ≠ b) : own_AJ Z h' a n xs := by
  obtain ⟨k, V, r⟩ := V; exact ⟨k, V.other W q, r⟩
theorem own_AI.keep {ty : FieldType} {n : Int32} {xs : List Int32} {ws : List Addr} (V : own_AI Z h a ty n xs) (K : Keep h h' ws) (q : a ∉ ws) : own_AI Z h' a ty n xs := by
  obtain ⟨k, V, r⟩ := V; exact ⟨k, V.keep K q, r⟩
theorem own_AJ.keep {n : Int32} {xs : List Int64} {ws : List Addr} (V : own_AJ Z h a n xs) (K : Keep h h' ws) (q : a ∉ ws) : own_AJ Z h' a n xs := by
  obtain ⟨k, V, r⟩ := V; exact ⟨k, V.keep K q, r⟩
theorem own_AI.lt {ty : FieldType} {n : Int32} {xs : List Int32} (V : own_AI Z h a ty n xs) : a < h.size := by
  obtain ⟨k, V, q⟩ := V; exact V.lt
theorem own_AJ.lt {n : Int32} {xs : List Int64} (V : own_AJ Z h a n xs) : a < h.size := by
  obtain ⟨k, V, q⟩ := V; exact V.lt
theorem own_AI.len {ty : FieldType} {n : Int32} {xs : List Int32} (V : own_AI Z h a ty n xs) : xs.length = n.toNatClampNeg := by
  obtain ⟨k, V, q⟩ := V; exact q
theorem own_AJ.len {n : Int32} {xs : List Int64} (V : own_AJ Z h a n xs) : xs.length = n.toNatClampNeg := by
  obtain ⟨k, V, q⟩ := V; exact q
theorem own_map_getD {α : Type} (f : α → Value) (d : α) (xs : List α) (i : Nat) : (xs.map f).getD i (f d) = f (xs.getD i d) := by
  simp only [List.getD_eq_getElem?_getD, List.getElem?_map]
  cases xs[i]? <;> rfl
theorem own_bound {j n : Int32} {N : Nat} (hN : N = n.toNatClampNeg) (hj : ¬ j < 0) (hn : ¬ n < 0) (q : j.toNatClampNeg < N) : ¬ j < 0 ∧ j < n := by
  refine ⟨hj, ?_⟩
  rw [hN] at q
  rw [Int32.lt_iff_toInt_lt] at hj hn ⊢
  have e0 : (0 : Int32).toInt = 0 := rfl
  simp only [Int32.toNatClampNeg] at q
  omega
/-- newarray of an int's kind -/
theorem own_newI (X : Stand p l e R s m args below meth c T locs cells slots) (hx : p.tables.exec = Jvm.exec) (hZ : Z.Warmed39 s.vm) {aty : ArrayType} (w : (Jvm.Cond.arrayClass (newarray.typeOf aty)).before a0 Z = true) (eT : T.heap = h) (Z0 : n0 ≤ h.size) {g : JFrame} (hg : g.method = m) {n : Int32} {rest : List Value} (hs : g.stack = .int n :: rest)
    (hd : decode c.code g.pc = .ok (.newarray aty, 2)) (hdv : defaultValue (newarray.typeOf aty) = .int 0) (hn : ¬ n < 0) (cap N : Nat) (hN : n.toNatClampNeg = N) (hcap : N ≤ cap) (hb : cap * 8 ≤ 536870912) (hc : cells + 1 ≤ R.cells) (hl : slots + cap ≤ R.slots) :
    ∃ (T' : State) (h' : Heap) (b : Addr), Stand p l e R s m args below meth c T' locs (cells + 1) (slots + cap) ∧ T'.heap = h' ∧ Ext h h' ∧ b = h.size ∧ n0 ≤ b ∧ n0 ≤ h'.size ∧ own_AI Z h' b (newarray.typeOf aty) n (List.replicate N 0) ∧
      ∀ t, Steps p.tables e below (T'.setTop { g with pc := g.pc + 2, stack := .ref b :: rest }) t → Steps p.tables e below (T.setTop g) t := by
  obtain ⟨T', h', k, X', e', E, A, st⟩ := newP X hx hZ w eT hg hd hs hn (cap := cap) (by rw [hN]; exact hcap) hb hc hl
  refine ⟨T', h', h.size, X', e', E, rfl, Z0, Nat.le_trans Z0 E.1, ⟨k, ?_, by rw [List.length_replicate, hN]⟩, st⟩
  have V := Arv.new A hn
  rw [hdv] at V
  rw [List.map_replicate]
  exact V.pad (vs' := List.replicate N (.int 0)) (fun i => by have q := pad_rep [] (Value.int 0) N i; rw [List.nil_append] at q; exact q)
theorem own_newJ (X : Stand p l e R s m args below meth c T locs cells slots) (hx : p.tables.exec = Jvm.exec) (hZ : Z.Warmed39 s.vm) (w : (Jvm.Cond.arrayClass .long).before a0 Z = true) (eT : T.heap = h) (Z0 : n0 ≤ h.size) {g : JFrame} (hg : g.method = m) {n : Int32} {rest : List Value} (hs : g.stack = .int n :: rest)
    (hd : decode c.code g.pc = .ok (.newarray .long, 2)) (hn : ¬ n < 0) (cap N : Nat) (hN : n.toNatClampNeg = N) (hcap : N ≤ cap) (hb : cap * 8 ≤ 536870912) (hc : cells + 1 ≤ R.cells) (hl : slots + cap ≤ R.slots) :
    ∃ (T' : State) (h' : Heap) (b : Addr), Stand p l e R s m args below meth c T' locs (cells + 1) (slots + cap) ∧ T'.heap = h' ∧ Ext h h' ∧ b = h.size ∧ n0 ≤ b ∧ n0 ≤ h'.size ∧ own_AJ Z h' b n (List.replicate N 0) ∧
      ∀ t, Steps p.tables e below (T'.setTop { g with pc := g.pc + 2, stack := .ref b :: rest }) t → Steps p.tables e below (T.setTop g) t := by
  obtain ⟨T', h', k, X', e', E, A, st⟩ := newP X hx hZ (aty := .long) w eT hg hd hs hn (cap := cap) (by rw [hN]; exact hcap) hb hc hl
  refine ⟨T', h', h.size, X', e', E, rfl, Z0, Nat.le_trans Z0 E.1, ⟨k, ?_, by rw [List.length_replicate, hN]⟩, st⟩
  have V := Arv.new A hn
  rw [List.map_replicate]
  exact V.pad (vs' := List.replicate N (.long 0)) (fun i => by have q := pad_rep [] (Value.long 0) N i; rw [List.nil_append] at q; exact q)
/-- a byte stored -/
theorem own_stB (X : Stand p l e R s m args below meth c T locs cells slots) (hx : p.tables.exec = Jvm.exec) (hZ : Z.Warmed39 s.vm) (eT : T.heap = h) (N : Fr n0 locs) {n : Int32} {xs ys : List Int32} (V : own_AI Z h a .byte n xs) (ga : n0 ≤ a) {g : JFrame} (hg : g.method = m) {j x : Int32} {rest : List Value} (hs : g.stack = .int x :: .int j :: .ref a :: rest)
    (hd : decode c.code g.pc = .ok (.bastore, 1)) (hj : ¬ j < 0) (hi : j.toNatClampNeg < xs.length) (hy : xs.set j.toNatClampNeg (x.toInt8.toInt32) = ys) :
    ∃ (T' : State) (h' : Heap) (locs' : List Loc), Stand p l e R s m args below meth c T' locs' cells slots ∧ T'.heap = h' ∧ Fr n0 locs' ∧ Wr h h' a j.toNatClampNeg (.int (x.toInt8.toInt32)) ∧ own_AI Z h' a .byte n ys ∧
      ∀ t, Steps p.tables e below (T'.setTop { g with pc := g.pc + 1, stack := rest }) t → Steps p.tables e below (T.setTop g) t := by
  obtain ⟨k, ⟨cl, Ar, q, S, M, H, G⟩, hl⟩ := V
  obtain ⟨T', h', X', e', W, st⟩ := stB X hx hZ eT Ar (j := j) (x := x) (inb_of S (own_bound hl hj M hi)) hg hs hd
  refine ⟨T', h', _, X', e', Fr.snoc X' N ga, W, ?_, st⟩
  subst hy
  refine ⟨k, ?_, by rw [List.length_set]; exact hl⟩
  have := Arv.set Ar q S M H G (fits_nar_byte x) W j.toNatClampNeg rfl (by rw [List.length_map]; exact hi)
  rw [List.map_set]
  exact this
theorem own_stI (X : Stand p l e R s m args below meth c T locs cells slots) (hx : p.tables.exec = Jvm.exec) (hZ : Z.Warmed39 s.vm) (eT : T.heap = h) (N : Fr n0 locs) {n : Int32} {xs ys : List Int32} (V : own_AI Z h a .int n xs) (ga : n0 ≤ a) {g : JFrame} (hg : g.method = m) {j x : Int32} {rest : List Value} (hs : g.stack = .int x :: .int j :: .ref a :: rest)
    (hd : decode c.code g.pc = .ok (.iastore, 1)) (hj : ¬ j < 0) (hi : j.toNatClampNeg < xs.length) (hy : xs.set j.toNatClampNeg x = ys) :
    ∃ (T' : State) (h' : Heap) (locs' : List Loc), Stand p l e R s m args below meth c T' locs' cells slots ∧ T'.heap = h' ∧ Fr n0 locs' ∧ Wr h h' a j.toNatClampNeg (.int x) ∧ own_AI Z h' a .int n ys ∧
      ∀ t, Steps p.tables e below (T'.setTop { g with pc := g.pc + 1, stack := rest }) t → Steps p.tables e below (T.setTop g) t := by
  obtain ⟨k, ⟨cl, Ar, q, S, M, H, G⟩, hl⟩ := V
  obtain ⟨T', h', X', e', W, st⟩ := stI X hx hZ eT Ar (j := j) (x := x) (inb_of S (own_bound hl hj M hi)) hg hs hd
  refine ⟨T', h', _, X', e', Fr.snoc X' N ga, W, ?_, st⟩
  subst hy
  refine ⟨k, ?_, by rw [List.length_set]; exact hl⟩
  have := Arv.set Ar q S M H G (v := .int x) rfl W j.toNatClampNeg rfl (by rw [List.length_map]; exact hi)
  rw [List.map_set]
  exact this
theorem own_stJ (X : Stand p l e R s m args below meth c T locs cells slots) (hx : p.tables.exec = Jvm.exec) (hZ : Z.Warmed39 s.vm) (eT : T.heap = h) (N : Fr n0 locs) {n : Int32} {xs ys : List Int64} (V : own_AJ Z h a n xs) (ga : n0 ≤ a) {g : JFrame} (hg : g.method = m) {j : Int32} {x : Int64} {rest : List Value} (hs : g.stack = .long x :: .int j :: .ref a :: rest)
    (hd : decode c.code g.pc = .ok (.lastore, 1)) (hj : ¬ j < 0) (hi : j.toNatClampNeg < xs.length) (hy : xs.set j.toNatClampNeg x = ys) :
    ∃ (T' : State) (h' : Heap) (locs' : List Loc), Stand p l e R s m args below meth c T' locs' cells slots ∧ T'.heap = h' ∧ Fr n0 locs' ∧ Wr h h' a j.toNatClampNeg (.long x) ∧ own_AJ Z h' a n ys ∧
      ∀ t, Steps p.tables e below (T'.setTop { g with pc := g.pc + 1, stack := rest }) t → Steps p.tables e below (T.setTop g) t := by
  obtain ⟨k, ⟨cl, Ar, q, S, M, H, G⟩, hl⟩ := V
  obtain ⟨T', h', X', e', W, st⟩ := stJ X hx hZ eT Ar (j := j) (x := x) (inb_of S (own_bound hl hj M hi)) hg hs hd
  refine ⟨T', h', _, X', e', Fr.snoc X' N ga, W, ?_, st⟩
  subst hy
  refine ⟨k, ?_, by rw [List.length_set]; exact hl⟩
  have := Arv.set Ar q S M H G (v := .long x) rfl W j.toNatClampNeg rfl (by rw [List.length_map]; exact hi)
  rw [List.map_set]
  exact this
theorem own_baload (X : Stand p l e R s m args below meth c T locs cells slots) (hx : p.tables.exec = Jvm.exec) (hZ : Z.Warmed39 s.vm) (eT : T.heap = h) {n : Int32} {xs : List Int32} (V : own_AI Z h a .byte n xs) {g : JFrame} (hg : g.method = m) {j : Int32} {rest : List Value} (hs : g.stack = .int j :: .ref a :: rest)
    (hd : decode c.code g.pc = .ok (.baload, 1)) (hj : ¬ j < 0) (hi : j.toNatClampNeg < xs.length) {w : Int32} (hv : xs.getD j.toNatClampNeg 0 = w) :
    ∀ t, Steps p.tables e below (T.setTop { g with pc := g.pc + 1, stack := .int w :: rest }) t → Steps p.tables e below (T.setTop g) t := by
  obtain ⟨k, ⟨cl, Ar, q, S, M, H, G⟩, hl⟩ := V
  have hin := inb_of (j := j) S (own_bound hl hj M hi)
  have hat := Has.at H hin (v := .int w) (by rw [own_map_getD Value.int 0, hv])
  exact fun t k => X.baloadBytes hx (j := j) (v := .int w) (by rw [eT]; exact Ar.1) (State.isArrayOf_alike hZ.alike Ar.2.1) Ar.2.2 hin hat hg hs hd _ k
theorem own_iaload (X : Stand p l e R s m args below meth c T locs cells slots) (hx : p.tables.exec = Jvm.exec) (hZ : Z.Warmed39 s.vm) (eT : T.heap = h) {n : Int32} {xs : List Int32} (V : own_AI Z h a .int n xs) {g : JFrame} (hg : g.method = m) {j : Int32} {rest : List Value} (hs : g.stack = .int j :: .ref a :: rest)
    (hd : decode c.code g.pc = .ok (.iaload, 1)) (hj : ¬ j < 0) (hi : j.toNatClampNeg < xs.length) {w : Int32} (hv : xs.getD j.toNatClampNeg 0 = w) :
    ∀ t, Steps p.tables e below (T.setTop { g with pc := g.pc + 1, stack := .int w :: rest }) t → Steps p.tables e below (T.setTop g) t := by
  obtain ⟨k, ⟨cl, Ar, q, S, M, H, G⟩, hl⟩ := V
  have hin := inb_of (j := j) S (own_bound hl hj M hi)
  have hat := Has.at H hin (v := .int w) (by rw [own_map_getD Value.int 0, hv])
  exact fun t k => X.iaload hx (j := j) (v := .int w) (by rw [eT]; exact Ar.1) (State.isArrayOf_alike hZ.alike Ar.2.1) Ar.2.2 hin hat hg hs hd _ k
theorem own_laload (X : Stand p l e R s m args below meth c T locs cells slots) (hx : p.tables.exec = Jvm.exec) (hZ : Z.Warmed39 s.vm) (eT : T.heap = h) {n : Int32} {xs : List Int64} (V : own_AJ Z h a n xs) {g : JFrame} (hg : g.method = m) {j : Int32} {rest : List Value} (hs : g.stack = .int j :: .ref a :: rest)
    (hd : decode c.code g.pc = .ok (.laload, 1)) (hj : ¬ j < 0) (hi : j.toNatClampNeg < xs.length) {w : Int64} (hv : xs.getD j.toNatClampNeg 0 = w) :
    ∀ t, Steps p.tables e below (T.setTop { g with pc := g.pc + 1, stack := .long w :: rest }) t → Steps p.tables e below (T.setTop g) t := by
  obtain ⟨k, ⟨cl, Ar, q, S, M, H, G⟩, hl⟩ := V
  have hin := inb_of (j := j) S (own_bound hl hj M hi)
  have hat := Has.at H hin (v := .long w) (by rw [own_map_getD Value.long 0, hv])
  exact fun t k => X.laload hx (j := j) (v := .long w) (by rw [eT]; exact Ar.1) (State.isArrayOf_alike hZ.alike Ar.2.1) Ar.2.2 hin hat hg hs hd _ k
theorem own_lenI (X : Stand p l e R s m args below meth c T locs cells slots) (hx : p.tables.exec = Jvm.exec) (hZ : Z.Warmed39 s.vm) (eT : T.heap = h) {ty : FieldType} {n : Int32} {xs : List Int32} (V : own_AI Z h a ty n xs) {g : JFrame} (hg : g.method = m) {rest : List Value} (hs : g.stack = .ref a :: rest)
    (hd : decode c.code g.pc = .ok (.arraylength, 1)) :
    ∀ t, Steps p.tables e below (T.setTop { g with pc := g.pc + 1, stack := .int n :: rest }) t → Steps p.tables e below (T.setTop g) t := by
  obtain ⟨k, ⟨cl, Ar, q, S, M, H, G⟩, hl⟩ := V
  intro t k
  refine X.arraylength hx (cell := cl) (by rw [eT]; exact Ar.1) (State.isArrayOf_alike hZ.alike Ar.2.1) hg hs hd _ ?_
  rw [len_of S M]
  exact k
theorem own_lenJ (X : Stand p l e R s m args below meth c T locs cells slots) (hx : p.tables.exec = Jvm.exec) (hZ : Z.Warmed39 s.vm) (eT : T.heap = h) {n : Int32} {xs : List Int64} (V : own_AJ Z h a n xs) {g : JFrame} (hg : g.method = m) {rest : List Value} (hs : g.stack = .ref a :: rest)
    (hd : decode c.code g.pc = .ok (.arraylength, 1)) :
    ∀ t, Steps p.tables e below (T.setTop { g with pc := g.pc + 1, stack := .int n :: rest }) t → Steps p.tables e below (T.setTop g) t := by
  obtain ⟨k, ⟨cl, Ar, q, S, M, H, G⟩, hl⟩ := V
  intro t k
  refine X.arraylength hx (cell := cl) (by rw [eT]; exact Ar.1) (State.isArrayOf_alike hZ.alike Ar.2.1) hg hs hd _ ?_
  rw [len_of S M]
  exact k
end OwnKit
theorem d3_0 : decode method_3_code 0 = .ok (.iload_n 0, 1) := by decide +kernel
theorem d3_1 : decode method_3_code 1 = .ok (.sipush 192, 3) := by decide +kernel
theorem d3_4 : decode method_3_code 4 = .ok (.iand, 1) := by decide +kernel
theorem d3_5 : decode method_3_code 5 = .ok (.sipush 128, 3) := by decide +kernel
theorem d3_11 : decode method_3_code 11 = .ok (.iconst 1, 1) := by decide +kernel
theorem d3_12 : decode method_3_code 12 = .ok (.goto 4, 3) := by decide +kernel
theorem d3_15 : decode method_3_code 15 = .ok (.iconst 0, 1) := by decide +kernel
theorem ef3 (m : MethodId) (x0 : Int32) : entryFrame m #[(.int x0)] 1 = mkF m 0 #[.val (.int x0)] [] := by first | (simp [entryFrame, mkF, argsToLocals, Value.category]; done) | rfl
theorem d3_8 : decode method_3_code 8 = .ok (.if_icmp .ne 7, 3) := by decide +kernel
theorem d3_16 : decode method_3_code 16 = .ok (.ireturn, 1) := by decide +kernel
theorem pn0 : plainName "com/example/ogma/ogma/canon/Utf8SequenceLengthPinLaw" = true := by first | (simp [plainName, overriddenIn]; done) | decide +kernel
def f3 (y : Int32) : Int32 := if (y &&& (192 : Int32)) = (128 : Int32) then ((1 : Int32)) else ((0 : Int32))
set_option maxRecDepth 65536 in
set_option maxHeartbeats 40000000 in
theorem rm3 (l : Launch) (Z : State) (a0 : Array Value) (hw : ∀ d ∈ tables_1, d.before a0 Z = true) (ws : List Jvm.Cond) (y : Int32) (h0 : Heap) (n0 : Nat) :
    own_Met l Z (⟨"com/example/ogma/ogma/canon/Utf8SequenceLengthPinLaw", "isCont", "(I)Z"⟩ : MethodName) method_3_code 1 (some .boolean) ws ({ frames := 0, cells := 0, slots := 0, locals := 0 } : Room) #[(.int y)] h0 (own_PQ (.int (f3 y)) h0 n0) := by
  refine own_body (plainFor_of_name pn0) ?_
  intro p e s m below meth c T X hx hby hml hret hlk hZ hown hnm eT
  have N := Fr.nil n0
  refine own_entry (ef3 m y) ?_
  unfold f3
  refine own_st (T' := T) (F' := (mkF m 1 #[.val (.int y)] [(.int y)])) (fun _ kq => XS.iloadN X.here hx rfl (hb hby d3_0) rfl kq) ?_
  refine own_st (T' := T) (F' := (mkF m 4 #[.val (.int y)] [(.int (192 : Int32)), (.int y)])) (fun _ kq => XS.sipush X.here hx rfl (hb hby d3_1) kq) ?_
  refine own_st (T' := T) (F' := (mkF m 5 #[.val (.int y)] [(.int (y &&& (192 : Int32)))])) (fun _ kq => XS.iand X.here hx rfl (hb hby d3_4) rfl kq) ?_
  refine own_st (T' := T) (F' := (mkF m 8 #[.val (.int y)] [(.int (128 : Int32)), (.int (y &&& (192 : Int32)))])) (fun _ kq => XS.sipush X.here hx rfl (hb hby d3_5) kq) ?_
  by_cases hc8_1 : (y &&& (192 : Int32)) = (128 : Int32)
  ·
    rw [if_pos hc8_1]
    refine own_st (T' := T) (F' := (mkF m 11 #[.val (.int y)] [])) (fun _ kq => XS.icmpNo X.here hx rfl (hb hby d3_8) rfl (teq hc8_1).2 kq) ?_
    refine own_st (T' := T) (F' := (mkF m 12 #[.val (.int y)] [(.int (1 : Int32))])) (fun _ kq => XS.iconst X.here hx rfl (hb hby d3_11) kq) ?_
    refine own_st (T' := T) (F' := (mkF m 16 #[.val (.int y)] [(.int (1 : Int32))])) (fun _ kq => XS.goto X.here hx rfl (pc0 := 12) (pc' := 16) rfl (hb hby d3_12) (by decide) (by decide) kq) ?_
    exact own_retN X hx hlk hret (by simp) (hb hby d3_16) (by decide) (by decide) (own_PQi rfl N eT)
  ·
    rw [if_neg hc8_1]
    refine own_st (T' := T) (F' := (mkF m 15 #[.val (.int y)] [])) (fun _ kq => XS.icmpYes X.here hx rfl (pc0 := 8) (pc' := 15) rfl (hb hby d3_8) rfl (feq hc8_1).2 (by decide) (by decide) kq) ?_
    refine own_st (T' := T) (F' := (mkF m 16 #[.val (.int y)] [(.int (0 : Int32))])) (fun _ kq => XS.iconst X.here hx rfl (hb hby d3_15) kq) ?_
    exact own_retN X hx hlk hret (by simp) (hb hby d3_16) (by decide) (by decide) (own_PQi rfl N eT)
theorem d2_0 : decode method_4_code 0 = .ok (.iload_n 0, 1) := by decide +kernel
theorem d2_1 : decode method_4_code 1 = .ok (.sipush 128, 3) := by decide +kernel
theorem d2_7 : decode method_4_code 7 = .ok (.iconst 1, 1) := by decide +kernel
theorem d2_9 : decode method_4_code 9 = .ok (.iload_n 0, 1) := by decide +kernel
theorem d2_10 : decode method_4_code 10 = .ok (.sipush 224, 3) := by decide +kernel
theorem d2_13 : decode method_4_code 13 = .ok (.iand, 1) := by decide +kernel
theorem d2_14 : decode method_4_code 14 = .ok (.sipush 192, 3) := by decide +kernel
theorem d2_20 : decode method_4_code 20 = .ok (.iconst 2, 1) := by decide +kernel
theorem d2_21 : decode method_4_code 21 = .ok (.istore 5, 2) := by decide +kernel
theorem d2_23 : decode method_4_code 23 = .ok (.iload_n 0, 1) := by decide +kernel
theorem d2_24 : decode method_4_code 24 = .ok (.bipush 31, 2) := by decide +kernel
theorem d2_26 : decode method_4_code 26 = .ok (.iand, 1) := by decide +kernel
theorem d2_27 : decode method_4_code 27 = .ok (.istore 6, 2) := by decide +kernel
theorem d2_29 : decode method_4_code 29 = .ok (.goto 51, 3) := by decide +kernel
theorem d2_32 : decode method_4_code 32 = .ok (.iload_n 0, 1) := by decide +kernel
theorem d2_33 : decode method_4_code 33 = .ok (.sipush 240, 3) := by decide +kernel
theorem d2_36 : decode method_4_code 36 = .ok (.iand, 1) := by decide +kernel
theorem d2_37 : decode method_4_code 37 = .ok (.sipush 224, 3) := by decide +kernel
theorem d2_43 : decode method_4_code 43 = .ok (.iconst 3, 1) := by decide +kernel
theorem d2_44 : decode method_4_code 44 = .ok (.istore 5, 2) := by decide +kernel
theorem d2_46 : decode method_4_code 46 = .ok (.iload_n 0, 1) := by decide +kernel
theorem d2_47 : decode method_4_code 47 = .ok (.bipush 15, 2) := by decide +kernel
theorem d2_49 : decode method_4_code 49 = .ok (.iand, 1) := by decide +kernel
theorem d2_50 : decode method_4_code 50 = .ok (.istore 6, 2) := by decide +kernel
theorem d2_52 : decode method_4_code 52 = .ok (.goto 28, 3) := by decide +kernel
theorem d2_55 : decode method_4_code 55 = .ok (.iload_n 0, 1) := by decide +kernel
theorem d2_56 : decode method_4_code 56 = .ok (.sipush 248, 3) := by decide +kernel
theorem d2_59 : decode method_4_code 59 = .ok (.iand, 1) := by decide +kernel
theorem d2_60 : decode method_4_code 60 = .ok (.sipush 240, 3) := by decide +kernel
theorem d2_66 : decode method_4_code 66 = .ok (.iconst 4, 1) := by decide +kernel
theorem d2_67 : decode method_4_code 67 = .ok (.istore 5, 2) := by decide +kernel
theorem d2_69 : decode method_4_code 69 = .ok (.iload_n 0, 1) := by decide +kernel
theorem d2_70 : decode method_4_code 70 = .ok (.bipush 7, 2) := by decide +kernel
theorem d2_72 : decode method_4_code 72 = .ok (.iand, 1) := by decide +kernel
theorem d2_73 : decode method_4_code 73 = .ok (.istore 6, 2) := by decide +kernel
theorem d2_75 : decode method_4_code 75 = .ok (.goto 5, 3) := by decide +kernel
theorem d2_78 : decode method_4_code 78 = .ok (.iconst 0, 1) := by decide +kernel
theorem d2_80 : decode method_4_code 80 = .ok (.iload 4, 2) := by decide +kernel
theorem d2_82 : decode method_4_code 82 = .ok (.iload 5, 2) := by decide +kernel
theorem d2_87 : decode method_4_code 87 = .ok (.iconst 0, 1) := by decide +kernel
theorem d2_89 : decode method_4_code 89 = .ok (.iload_n 1, 1) := by decide +kernel
theorem pd0 : parseMethodDescriptor "(I)Z" = some ⟨[.int], some .boolean⟩ := by decide +kernel
theorem d2_90 : decode method_4_code 90 = .ok (.invokestatic 19, 3) := by decide +kernel
theorem d2_96 : decode method_4_code 96 = .ok (.iconst 0, 1) := by decide +kernel
theorem d2_98 : decode method_4_code 98 = .ok (.iload 6, 2) := by decide +kernel
theorem d2_100 : decode method_4_code 100 = .ok (.bipush 6, 2) := by decide +kernel
theorem d2_102 : decode method_4_code 102 = .ok (.ishl, 1) := by decide +kernel
theorem d2_103 : decode method_4_code 103 = .ok (.iload_n 1, 1) := by decide +kernel
theorem d2_104 : decode method_4_code 104 = .ok (.bipush 63, 2) := by decide +kernel
theorem d2_106 : decode method_4_code 106 = .ok (.iand, 1) := by decide +kernel
theorem d2_107 : decode method_4_code 107 = .ok (.ior, 1) := by decide +kernel
theorem d2_108 : decode method_4_code 108 = .ok (.istore 6, 2) := by decide +kernel
theorem d2_110 : decode method_4_code 110 = .ok (.iload 5, 2) := by decide +kernel
theorem d2_112 : decode method_4_code 112 = .ok (.iconst 3, 1) := by decide +kernel
theorem d2_116 : decode method_4_code 116 = .ok (.iload_n 2, 1) := by decide +kernel
theorem d2_117 : decode method_4_code 117 = .ok (.invokestatic 19, 3) := by decide +kernel
theorem d2_123 : decode method_4_code 123 = .ok (.iconst 0, 1) := by decide +kernel
theorem d2_125 : decode method_4_code 125 = .ok (.iload 6, 2) := by decide +kernel
theorem d2_127 : decode method_4_code 127 = .ok (.bipush 6, 2) := by decide +kernel
theorem d2_129 : decode method_4_code 129 = .ok (.ishl, 1) := by decide +kernel
theorem d2_130 : decode method_4_code 130 = .ok (.iload_n 2, 1) := by decide +kernel
theorem d2_131 : decode method_4_code 131 = .ok (.bipush 63, 2) := by decide +kernel
theorem d2_133 : decode method_4_code 133 = .ok (.iand, 1) := by decide +kernel
theorem d2_134 : decode method_4_code 134 = .ok (.ior, 1) := by decide +kernel
theorem d2_135 : decode method_4_code 135 = .ok (.istore 6, 2) := by decide +kernel
theorem d2_137 : decode method_4_code 137 = .ok (.iload 5, 2) := by decide +kernel
theorem d2_139 : decode method_4_code 139 = .ok (.iconst 4, 1) := by decide +kernel
theorem d2_143 : decode method_4_code 143 = .ok (.iload_n 3, 1) := by decide +kernel
theorem d2_144 : decode method_4_code 144 = .ok (.invokestatic 19, 3) := by decide +kernel
theorem d2_150 : decode method_4_code 150 = .ok (.iconst 0, 1) := by decide +kernel
theorem d2_152 : decode method_4_code 152 = .ok (.iload 6, 2) := by decide +kernel
theorem d2_154 : decode method_4_code 154 = .ok (.bipush 6, 2) := by decide +kernel
theorem d2_156 : decode method_4_code 156 = .ok (.ishl, 1) := by decide +kernel
theorem d2_157 : decode method_4_code 157 = .ok (.iload_n 3, 1) := by decide +kernel
theorem d2_158 : decode method_4_code 158 = .ok (.bipush 63, 2) := by decide +kernel
theorem d2_160 : decode method_4_code 160 = .ok (.iand, 1) := by decide +kernel
theorem d2_161 : decode method_4_code 161 = .ok (.ior, 1) := by decide +kernel
theorem d2_162 : decode method_4_code 162 = .ok (.istore 6, 2) := by decide +kernel
theorem d2_164 : decode method_4_code 164 = .ok (.iload 5, 2) := by decide +kernel
theorem d2_166 : decode method_4_code 166 = .ok (.iconst 2, 1) := by decide +kernel
theorem d2_170 : decode method_4_code 170 = .ok (.sipush 128, 3) := by decide +kernel
theorem d2_173 : decode method_4_code 173 = .ok (.goto 17, 3) := by decide +kernel
theorem d2_176 : decode method_4_code 176 = .ok (.iload 5, 2) := by decide +kernel
theorem d2_178 : decode method_4_code 178 = .ok (.iconst 3, 1) := by decide +kernel
theorem d2_182 : decode method_4_code 182 = .ok (.sipush 2048, 3) := by decide +kernel
theorem d2_185 : decode method_4_code 185 = .ok (.goto 5, 3) := by decide +kernel
theorem d2_188 : decode method_4_code 188 = .ok (.ldc 23, 2) := by decide +kernel
theorem d2_190 : decode method_4_code 190 = .ok (.istore 7, 2) := by decide +kernel
theorem d2_192 : decode method_4_code 192 = .ok (.iload 6, 2) := by decide +kernel
theorem d2_194 : decode method_4_code 194 = .ok (.iload 7, 2) := by decide +kernel
theorem d2_199 : decode method_4_code 199 = .ok (.iconst 0, 1) := by decide +kernel
theorem d2_201 : decode method_4_code 201 = .ok (.iload 6, 2) := by decide +kernel
theorem d2_203 : decode method_4_code 203 = .ok (.ldc 24, 2) := by decide +kernel
theorem d2_208 : decode method_4_code 208 = .ok (.iconst 0, 1) := by decide +kernel
theorem d2_210 : decode method_4_code 210 = .ok (.iload 6, 2) := by decide +kernel
theorem d2_212 : decode method_4_code 212 = .ok (.ldc 25, 2) := by decide +kernel
theorem d2_226 : decode method_4_code 226 = .ok (.iload 5, 2) := by decide +kernel
theorem d2_217 : decode method_4_code 217 = .ok (.iload 6, 2) := by decide +kernel
theorem d2_219 : decode method_4_code 219 = .ok (.ldc 26, 2) := by decide +kernel
theorem d2_224 : decode method_4_code 224 = .ok (.iconst 0, 1) := by decide +kernel
theorem d2_196 : decode method_4_code 196 = .ok (.if_icmp .ge 5, 3) := by decide +kernel
theorem d2_200 : decode method_4_code 200 = .ok (.ireturn, 1) := by decide +kernel
theorem d2_205 : decode method_4_code 205 = .ok (.if_icmp .le 5, 3) := by decide +kernel
theorem d2_209 : decode method_4_code 209 = .ok (.ireturn, 1) := by decide +kernel
theorem d2_214 : decode method_4_code 214 = .ok (.if_icmp .lt 12, 3) := by decide +kernel
theorem d2_228 : decode method_4_code 228 = .ok (.ireturn, 1) := by decide +kernel
theorem d2_221 : decode method_4_code 221 = .ok (.if_icmp .gt 5, 3) := by decide +kernel
theorem d2_225 : decode method_4_code 225 = .ok (.ireturn, 1) := by decide +kernel
theorem d2_167 : decode method_4_code 167 = .ok (.if_icmp .ne 9, 3) := by decide +kernel
theorem d2_179 : decode method_4_code 179 = .ok (.if_icmp .ne 9, 3) := by decide +kernel
theorem d2_140 : decode method_4_code 140 = .ok (.if_icmp .lt 24, 3) := by decide +kernel
theorem d2_147 : decode method_4_code 147 = .ok (.ifCond .ne 5, 3) := by decide +kernel
theorem d2_151 : decode method_4_code 151 = .ok (.ireturn, 1) := by decide +kernel
theorem d2_84 : decode method_4_code 84 = .ok (.if_icmp .ge 5, 3) := by decide +kernel
theorem d2_88 : decode method_4_code 88 = .ok (.ireturn, 1) := by decide +kernel
theorem d2_93 : decode method_4_code 93 = .ok (.ifCond .ne 5, 3) := by decide +kernel
theorem d2_97 : decode method_4_code 97 = .ok (.ireturn, 1) := by decide +kernel
theorem d2_113 : decode method_4_code 113 = .ok (.if_icmp .lt 24, 3) := by decide +kernel
theorem d2_120 : decode method_4_code 120 = .ok (.ifCond .ne 5, 3) := by decide +kernel
theorem d2_124 : decode method_4_code 124 = .ok (.ireturn, 1) := by decide +kernel
theorem ef2 (m : MethodId) (x0 : Int32) (x1 : Int32) (x2 : Int32) (x3 : Int32) (x4 : Int32) : entryFrame m #[(.int x0), (.int x1), (.int x2), (.int x3), (.int x4)] 8 = mkF m 0 #[.val (.int x0), .val (.int x1), .val (.int x2), .val (.int x3), .val (.int x4), .unset, .unset, .unset] [] := by first | (simp [entryFrame, mkF, argsToLocals, Value.category]; done) | rfl
theorem d2_4 : decode method_4_code 4 = .ok (.if_icmp .ge 5, 3) := by decide +kernel
theorem d2_8 : decode method_4_code 8 = .ok (.ireturn, 1) := by decide +kernel
theorem d2_17 : decode method_4_code 17 = .ok (.if_icmp .ne 15, 3) := by decide +kernel
theorem d2_40 : decode method_4_code 40 = .ok (.if_icmp .ne 15, 3) := by decide +kernel
theorem d2_63 : decode method_4_code 63 = .ok (.if_icmp .ne 15, 3) := by decide +kernel
theorem d2_79 : decode method_4_code 79 = .ok (.ireturn, 1) := by decide +kernel
def f2_190 (y80_5 : Int32) (y164_6 : Int32) (z190_0 : Int32) : Int32 := if y164_6 < z190_0 then ((0 : Int32)) else (if (1114111 : Int32) < y164_6 then ((0 : Int32)) else (if y164_6 < (55296 : Int32) then (y80_5) else (if (57343 : Int32) < y164_6 then (y80_5) else ((0 : Int32)))))
def f2_164 (y80_5 : Int32) (y164_6 : Int32) : Int32 := if y80_5 = (2 : Int32) then (f2_190 y80_5 y164_6 (128 : Int32)) else (if y80_5 = (3 : Int32) then (f2_190 y80_5 y164_6 (2048 : Int32)) else (f2_190 y80_5 y164_6 (65536 : Int32)))
def f2_137 (u3 : Int32) (y80_5 : Int32) (y137_6 : Int32) : Int32 := if y80_5 < (4 : Int32) then (f2_164 y80_5 y137_6) else (if (f3 u3) = (0 : Int32) then ((0 : Int32)) else (f2_164 y80_5 ((y137_6 <<< ((6 : Int32) &&& 31)) ||| (u3 &&& (63 : Int32)))))
def f2_80 (u1 : Int32) (u2 : Int32) (u3 : Int32) (av : Int32) (y80_5 : Int32) (y80_6 : Int32) : Int32 := if av < y80_5 then ((0 : Int32)) else (if (f3 u1) = (0 : Int32) then ((0 : Int32)) else (if y80_5 < (3 : Int32) then (f2_137 u3 y80_5 ((y80_6 <<< ((6 : Int32) &&& 31)) ||| (u1 &&& (63 : Int32)))) else (if (f3 u2) = (0 : Int32) then ((0 : Int32)) else (f2_137 u3 y80_5 ((((y80_6 <<< ((6 : Int32) &&& 31)) ||| (u1 &&& (63 : Int32))) <<< ((6 : Int32) &&& 31)) ||| (u2 &&& (63 : Int32)))))))
def f2 (u0 : Int32) (u1 : Int32) (u2 : Int32) (u3 : Int32) (av : Int32) : Int32 := if u0 < (128 : Int32) then ((1 : Int32)) else (if (u0 &&& (224 : Int32)) = (192 : Int32) then (f2_80 u1 u2 u3 av (2 : Int32) (u0 &&& (31 : Int32))) else (if (u0 &&& (240 : Int32)) = (224 : Int32) then (f2_80 u1 u2 u3 av (3 : Int32) (u0 &&& (15 : Int32))) else (if (u0 &&& (248 : Int32)) = (240 : Int32) then (f2_80 u1 u2 u3 av (4 : Int32) (u0 &&& (7 : Int32))) else ((0 : Int32)))))
set_option maxRecDepth 65536 in
set_option maxHeartbeats 40000000 in
theorem rm2 (l : Launch) (Z : State) (a0 : Array Value) (hw : ∀ d ∈ tables_1, d.before a0 Z = true) (ws : List Jvm.Cond) (u0 : Int32) (u1 : Int32) (u2 : Int32) (u3 : Int32) (av : Int32) (h0 : Heap) (n0 : Nat) :
    own_Met l Z (⟨"com/example/ogma/ogma/canon/Utf8SequenceLengthPinLaw", "expected", "(IIIII)I"⟩ : MethodName) method_4_code 8 (some .int) ws ({ frames := 1, cells := 0, slots := 0, locals := 12 } : Room) #[(.int u0), (.int u1), (.int u2), (.int u3), (.int av)] h0 (own_PQ (.int (f2 u0 u1 u2 u3 av)) h0 n0) := by
  refine own_body (plainFor_of_name pn0) ?_
  intro p e s m below meth c T X hx hby hml hret hlk hZ hown hnm eT
  have J190 : ∀ (y80_5 : Int32) (y164_6 : Int32) (z190_0 : Int32) (T : State) (locs : List Loc) (X : Stand p l e ({ frames := 1, cells := 0, slots := 0, locals := 12 } : Room) s m #[(.int u0), (.int u1), (.int u2), (.int u3), (.int av)] below meth c T locs 0 0) (eT : T.heap = h0) (N : Fr n0 locs), own_Ends p e below s 0 0 (own_PQ (.int (f2_190 y80_5 y164_6 z190_0)) h0 n0) T (mkF m 190 #[.val (.int u0), .val (.int u1), .val (.int u2), .val (.int u3), .val (.int av), .val (.int y80_5), .val (.int y164_6), .unset] [(.int z190_0)]) := by
    intro y80_5 y164_6 z190_0 T locs X eT N
    unfold f2_190
    refine own_st (T' := T) (F' := (mkF m 192 #[.val (.int u0), .val (.int u1), .val (.int u2), .val (.int u3), .val (.int av), .val (.int y80_5), .val (.int y164_6), .val (.int z190_0)] [])) (fun _ kq => XS.istore X.here hx rfl (hb hby d2_190) rfl (l' := #[.val (.int u0), .val (.int u1), .val (.int u2), .val (.int u3), .val (.int av), .val (.int y80_5), .val (.int y164_6), .val (.int z190_0)]) rfl kq) ?_
    refine own_st (T' := T) (F' := (mkF m 194 #[.val (.int u0), .val (.int u1), .val (.int u2), .val (.int u3), .val (.int av), .val (.int y80_5), .val (.int y164_6), .val (.int z190_0)] [(.int y164_6)])) (fun _ kq => XS.iload X.here hx rfl (hb hby d2_192) rfl kq) ?_
    refine own_st (T' := T) (F' := (mkF m 196 #[.val (.int u0), .val (.int u1), .val (.int u2), .val (.int u3), .val (.int av), .val (.int y80_5), .val (.int y164_6), .val (.int z190_0)] [(.int z190_0), (.int y164_6)])) (fun _ kq => XS.iload X.here hx rfl (hb hby d2_194) rfl kq) ?_
    by_cases hc196_5 : y164_6 < z190_0
    ·
      rw [if_pos hc196_5]
      refine own_st (T' := T) (F' := (mkF m 199 #[.val (.int u0), .val (.int u1), .val (.int u2), .val (.int u3), .val (.int av), .val (.int y80_5), .val (.int y164_6), .val (.int z190_0)] [])) (fun _ kq => XS.icmpNo X.here hx rfl (hb hby d2_196) rfl (tlt hc196_5).2.1 kq) ?_
      refine own_st (T' := T) (F' := (mkF m 200 #[.val (.int u0), .val (.int u1), .val (.int u2), .val (.int u3), .val (.int av), .val (.int y80_5), .val (.int y164_6), .val (.int z190_0)] [(.int (0 : Int32))])) (fun _ kq => XS.iconst X.here hx rfl (hb hby d2_199) kq) ?_
      exact own_retI X hx hlk hret (hb hby d2_200) (by decide) (by decide) (own_PQi rfl N eT)
    ·
      rw [if_neg hc196_5]
      refine own_st (T' := T) (F' := (mkF m 201 #[.val (.int u0), .val (.int u1), .val (.int u2), .val (.int u3), .val (.int av), .val (.int y80_5), .val (.int y164_6), .val (.int z190_0)] [])) (fun _ kq => XS.icmpYes X.here hx rfl (pc0 := 196) (pc' := 201) rfl (hb hby d2_196) rfl (flt hc196_5).2.1 (by decide) (by decide) kq) ?_
      refine own_st (T' := T) (F' := (mkF m 203 #[.val (.int u0), .val (.int u1), .val (.int u2), .val (.int u3), .val (.int av), .val (.int y80_5), .val (.int y164_6), .val (.int z190_0)] [(.int y164_6)])) (fun _ kq => XS.iload X.here hx rfl (hb hby d2_201) rfl kq) ?_
      refine own_st (T' := T) (F' := (mkF m 205 #[.val (.int u0), .val (.int u1), .val (.int u2), .val (.int u3), .val (.int av), .val (.int y80_5), .val (.int y164_6), .val (.int z190_0)] [(.int (1114111 : Int32)), (.int y164_6)])) (fun _ kq => X.ldcInt hx hown (mvT hZ (hw _ (List.mem_of_getElem? (i := 12) rfl))) (g := (mkF m 203 #[.val (.int u0), .val (.int u1), .val (.int u2), .val (.int u3), .val (.int av), .val (.int y80_5), .val (.int y164_6), .val (.int z190_0)] [(.int y164_6)])) rfl (hb hby d2_203) _ kq) ?_
      by_cases hc205_6 : (1114111 : Int32) < y164_6
      ·
        rw [if_pos hc205_6]
        refine own_st (T' := T) (F' := (mkF m 208 #[.val (.int u0), .val (.int u1), .val (.int u2), .val (.int u3), .val (.int av), .val (.int y80_5), .val (.int y164_6), .val (.int z190_0)] [])) (fun _ kq => XS.icmpNo X.here hx rfl (hb hby d2_205) rfl (tlt hc205_6).2.2.2 kq) ?_
        refine own_st (T' := T) (F' := (mkF m 209 #[.val (.int u0), .val (.int u1), .val (.int u2), .val (.int u3), .val (.int av), .val (.int y80_5), .val (.int y164_6), .val (.int z190_0)] [(.int (0 : Int32))])) (fun _ kq => XS.iconst X.here hx rfl (hb hby d2_208) kq) ?_
        exact own_retI X hx hlk hret (hb hby d2_209) (by decide) (by decide) (own_PQi rfl N eT)
      ·
        rw [if_neg hc205_6]
        refine own_st (T' := T) (F' := (mkF m 210 #[.val (.int u0), .val (.int u1), .val (.int u2), .val (.int u3), .val (.int av), .val (.int y80_5), .val (.int y164_6), .val (.int z190_0)] [])) (fun _ kq => XS.icmpYes X.here hx rfl (pc0 := 205) (pc' := 210) rfl (hb hby d2_205) rfl (flt hc205_6).2.2.2 (by decide) (by decide) kq) ?_
        refine own_st (T' := T) (F' := (mkF m 212 #[.val (.int u0), .val (.int u1), .val (.int u2), .val (.int u3), .val (.int av), .val (.int y80_5), .val (.int y164_6), .val (.int z190_0)] [(.int y164_6)])) (fun _ kq => XS.iload X.here hx rfl (hb hby d2_210) rfl kq) ?_
        refine own_st (T' := T) (F' := (mkF m 214 #[.val (.int u0), .val (.int u1), .val (.int u2), .val (.int u3), .val (.int av), .val (.int y80_5), .val (.int y164_6), .val (.int z190_0)] [(.int (55296 : Int32)), (.int y164_6)])) (fun _ kq => X.ldcInt hx hown (mvT hZ (hw _ (List.mem_of_getElem? (i := 13) rfl))) (g := (mkF m 212 #[.val (.int u0), .val (.int u1), .val (.int u2), .val (.int u3), .val (.int av), .val (.int y80_5), .val (.int y164_6), .val (.int z190_0)] [(.int y164_6)])) rfl (hb hby d2_212) _ kq) ?_
        by_cases hc214_7 : y164_6 < (55296 : Int32)
        ·
          rw [if_pos hc214_7]
          refine own_st (T' := T) (F' := (mkF m 226 #[.val (.int u0), .val (.int u1), .val (.int u2), .val (.int u3), .val (.int av), .val (.int y80_5), .val (.int y164_6), .val (.int z190_0)] [])) (fun _ kq => XS.icmpYes X.here hx rfl (pc0 := 214) (pc' := 226) rfl (hb hby d2_214) rfl (tlt hc214_7).1 (by decide) (by decide) kq) ?_
          refine own_st (T' := T) (F' := (mkF m 228 #[.val (.int u0), .val (.int u1), .val (.int u2), .val (.int u3), .val (.int av), .val (.int y80_5), .val (.int y164_6), .val (.int z190_0)] [(.int y80_5)])) (fun _ kq => XS.iload X.here hx rfl (hb hby d2_226) rfl kq) ?_
          exact own_retI X hx hlk hret (hb hby d2_228) (by decide) (by decide) (own_PQi rfl N eT)
        ·
          rw [if_neg hc214_7]
          refine own_st (T' := T) (F' := (mkF m 217 #[.val (.int u0), .val (.int u1), .val (.int u2), .val (.int u3), .val (.int av), .val (.int y80_5), .val (.int y164_6), .val (.int z190_0)] [])) (fun _ kq => XS.icmpNo X.here hx rfl (hb hby d2_214) rfl (flt hc214_7).1 kq) ?_
          refine own_st (T' := T) (F' := (mkF m 219 #[.val (.int u0), .val (.int u1), .val (.int u2), .val (.int u3), .val (.int av), .val (.int y80_5), .val (.int y164_6), .val (.int z190_0)] [(.int y164_6)])) (fun _ kq => XS.iload X.here hx rfl (hb hby d2_217) rfl kq) ?_
          refine own_st (T' := T) (F' := (mkF m 221 #[.val (.int u0), .val (.int u1), .val (.int u2), .val (.int u3), .val (.int av), .val (.int y80_5), .val (.int y164_6), .val (.int z190_0)] [(.int (57343 : Int32)), (.int y164_6)])) (fun _ kq => X.ldcInt hx hown (mvT hZ (hw _ (List.mem_of_getElem? (i := 15) rfl))) (g := (mkF m 219 #[.val (.int u0), .val (.int u1), .val (.int u2), .val (.int u3), .val (.int av), .val (.int y80_5), .val (.int y164_6), .val (.int z190_0)] [(.int y164_6)])) rfl (hb hby d2_219) _ kq) ?_
          by_cases hc221_8 : (57343 : Int32) < y164_6
          ·
            rw [if_pos hc221_8]
            refine own_st (T' := T) (F' := (mkF m 226 #[.val (.int u0), .val (.int u1), .val (.int u2), .val (.int u3), .val (.int av), .val (.int y80_5), .val (.int y164_6), .val (.int z190_0)] [])) (fun _ kq => XS.icmpYes X.here hx rfl (pc0 := 221) (pc' := 226) rfl (hb hby d2_221) rfl (tlt hc221_8).2.2.1 (by decide) (by decide) kq) ?_
            refine own_st (T' := T) (F' := (mkF m 228 #[.val (.int u0), .val (.int u1), .val (.int u2), .val (.int u3), .val (.int av), .val (.int y80_5), .val (.int y164_6), .val (.int z190_0)] [(.int y80_5)])) (fun _ kq => XS.iload X.here hx rfl (hb hby d2_226) rfl kq) ?_
            exact own_retI X hx hlk hret (hb hby d2_228) (by decide) (by decide) (own_PQi rfl N eT)
          ·
            rw [if_neg hc221_8]
            refine own_st (T' := T) (F' := (mkF m 224 #[.val (.int u0), .val (.int u1), .val (.int u2), .val (.int u3), .val (.int av), .val (.int y80_5), .val (.int y164_6), .val (.int z190_0)] [])) (fun _ kq => XS.icmpNo X.here hx rfl (hb hby d2_221) rfl (flt hc221_8).2.2.1 kq) ?_
            refine own_st (T' := T) (F' := (mkF m 225 #[.val (.int u0), .val (.int u1), .val (.int u2), .val (.int u3), .val (.int av), .val (.int y80_5), .val (.int y164_6), .val (.int z190_0)] [(.int (0 : Int32))])) (fun _ kq => XS.iconst X.here hx rfl (hb hby d2_224) kq) ?_
            exact own_retI X hx hlk hret (hb hby d2_225) (by decide) (by decide) (own_PQi rfl N eT)
  have J164 : ∀ (y80_5 : Int32) (y164_6 : Int32) (T : State) (locs : List Loc) (X : Stand p l e ({ frames := 1, cells := 0, slots := 0, locals := 12 } : Room) s m #[(.int u0), (.int u1), (.int u2), (.int u3), (.int av)] below meth c T locs 0 0) (eT : T.heap = h0) (N : Fr n0 locs), own_Ends p e below s 0 0 (own_PQ (.int (f2_164 y80_5 y164_6)) h0 n0) T (mkF m 164 #[.val (.int u0), .val (.int u1), .val (.int u2), .val (.int u3), .val (.int av), .val (.int y80_5), .val (.int y164_6), .unset] []) := by
    intro y80_5 y164_6 T locs X eT N
    unfold f2_164
    refine own_st (T' := T) (F' := (mkF m 166 #[.val (.int u0), .val (.int u1), .val (.int u2), .val (.int u3), .val (.int av), .val (.int y80_5), .val (.int y164_6), .unset] [(.int y80_5)])) (fun _ kq => XS.iload X.here hx rfl (hb hby d2_164) rfl kq) ?_
    refine own_st (T' := T) (F' := (mkF m 167 #[.val (.int u0), .val (.int u1), .val (.int u2), .val (.int u3), .val (.int av), .val (.int y80_5), .val (.int y164_6), .unset] [(.int (2 : Int32)), (.int y80_5)])) (fun _ kq => XS.iconst X.here hx rfl (hb hby d2_166) kq) ?_
    by_cases hc167_9 : y80_5 = (2 : Int32)
    ·
      rw [if_pos hc167_9]
      refine own_st (T' := T) (F' := (mkF m 170 #[.val (.int u0), .val (.int u1), .val (.int u2), .val (.int u3), .val (.int av), .val (.int y80_5), .val (.int y164_6), .unset] [])) (fun _ kq => XS.icmpNo X.here hx rfl (hb hby d2_167) rfl (teq hc167_9).2 kq) ?_
      refine own_st (T' := T) (F' := (mkF m 173 #[.val (.int u0), .val (.int u1), .val (.int u2), .val (.int u3), .val (.int av), .val (.int y80_5), .val (.int y164_6), .unset] [(.int (128 : Int32))])) (fun _ kq => XS.sipush X.here hx rfl (hb hby d2_170) kq) ?_
      refine own_st (T' := T) (F' := (mkF m 190 #[.val (.int u0), .val (.int u1), .val (.int u2), .val (.int u3), .val (.int av), .val (.int y80_5), .val (.int y164_6), .unset] [(.int (128 : Int32))])) (fun _ kq => XS.goto X.here hx rfl (pc0 := 173) (pc' := 190) rfl (hb hby d2_173) (by decide) (by decide) kq) ?_
      exact J190 y80_5 y164_6 (128 : Int32) T _ X eT N
    ·
      rw [if_neg hc167_9]
      refine own_st (T' := T) (F' := (mkF m 176 #[.val (.int u0), .val (.int u1), .val (.int u2), .val (.int u3), .val (.int av), .val (.int y80_5), .val (.int y164_6), .unset] [])) (fun _ kq => XS.icmpYes X.here hx rfl (pc0 := 167) (pc' := 176) rfl (hb hby d2_167) rfl (feq hc167_9).2 (by decide) (by decide) kq) ?_
      refine own_st (T' := T) (F' := (mkF m 178 #[.val (.int u0), .val (.int u1), .val (.int u2), .val (.int u3), .val (.int av), .val (.int y80_5), .val (.int y164_6), .unset] [(.int y80_5)])) (fun _ kq => XS.iload X.here hx rfl (hb hby d2_176) rfl kq) ?_
      refine own_st (T' := T) (F' := (mkF m 179 #[.val (.int u0), .val (.int u1), .val (.int u2), .val (.int u3), .val (.int av), .val (.int y80_5), .val (.int y164_6), .unset] [(.int (3 : Int32)), (.int y80_5)])) (fun _ kq => XS.iconst X.here hx rfl (hb hby d2_178) kq) ?_
      by_cases hc179_10 : y80_5 = (3 : Int32)
      ·
        rw [if_pos hc179_10]
        refine own_st (T' := T) (F' := (mkF m 182 #[.val (.int u0), .val (.int u1), .val (.int u2), .val (.int u3), .val (.int av), .val (.int y80_5), .val (.int y164_6), .unset] [])) (fun _ kq => XS.icmpNo X.here hx rfl (hb hby d2_179) rfl (teq hc179_10).2 kq) ?_
        refine own_st (T' := T) (F' := (mkF m 185 #[.val (.int u0), .val (.int u1), .val (.int u2), .val (.int u3), .val (.int av), .val (.int y80_5), .val (.int y164_6), .unset] [(.int (2048 : Int32))])) (fun _ kq => XS.sipush X.here hx rfl (hb hby d2_182) kq) ?_
        refine own_st (T' := T) (F' := (mkF m 190 #[.val (.int u0), .val (.int u1), .val (.int u2), .val (.int u3), .val (.int av), .val (.int y80_5), .val (.int y164_6), .unset] [(.int (2048 : Int32))])) (fun _ kq => XS.goto X.here hx rfl (pc0 := 185) (pc' := 190) rfl (hb hby d2_185) (by decide) (by decide) kq) ?_
        exact J190 y80_5 y164_6 (2048 : Int32) T _ X eT N
      ·
        rw [if_neg hc179_10]
        refine own_st (T' := T) (F' := (mkF m 188 #[.val (.int u0), .val (.int u1), .val (.int u2), .val (.int u3), .val (.int av), .val (.int y80_5), .val (.int y164_6), .unset] [])) (fun _ kq => XS.icmpYes X.here hx rfl (pc0 := 179) (pc' := 188) rfl (hb hby d2_179) rfl (feq hc179_10).2 (by decide) (by decide) kq) ?_
        refine own_st (T' := T) (F' := (mkF m 190 #[.val (.int u0), .val (.int u1), .val (.int u2), .val (.int u3), .val (.int av), .val (.int y80_5), .val (.int y164_6), .unset] [(.int (65536 : Int32))])) (fun _ kq => X.ldcInt hx hown (mvT hZ (hw _ (List.mem_of_getElem? (i := 14) rfl))) (g := (mkF m 188 #[.val (.int u0), .val (.int u1), .val (.int u2), .val (.int u3), .val (.int av), .val (.int y80_5), .val (.int y164_6), .unset] [])) rfl (hb hby d2_188) _ kq) ?_
        exact J190 y80_5 y164_6 (65536 : Int32) T _ X eT N
  have J137 : ∀ (y80_5 : Int32) (y137_6 : Int32) (T : State) (locs : List Loc) (X : Stand p l e ({ frames := 1, cells := 0, slots := 0, locals := 12 } : Room) s m #[(.int u0), (.int u1), (.int u2), (.int u3), (.int av)] below meth c T locs 0 0) (eT : T.heap = h0) (N : Fr n0 locs), own_Ends p e below s 0 0 (own_PQ (.int (f2_137 u3 y80_5 y137_6)) h0 n0) T (mkF m 137 #[.val (.int u0), .val (.int u1), .val (.int u2), .val (.int u3), .val (.int av), .val (.int y80_5), .val (.int y137_6), .unset] []) := by
    intro y80_5 y137_6 T locs X eT N
    unfold f2_137
    refine own_st (T' := T) (F' := (mkF m 139 #[.val (.int u0), .val (.int u1), .val (.int u2), .val (.int u3), .val (.int av), .val (.int y80_5), .val (.int y137_6), .unset] [(.int y80_5)])) (fun _ kq => XS.iload X.here hx rfl (hb hby d2_137) rfl kq) ?_
    refine own_st (T' := T) (F' := (mkF m 140 #[.val (.int u0), .val (.int u1), .val (.int u2), .val (.int u3), .val (.int av), .val (.int y80_5), .val (.int y137_6), .unset] [(.int (4 : Int32)), (.int y80_5)])) (fun _ kq => XS.iconst X.here hx rfl (hb hby d2_139) kq) ?_
    by_cases hc140_11 : y80_5 < (4 : Int32)
    ·
      rw [if_pos hc140_11]
      refine own_st (T' := T) (F' := (mkF m 164 #[.val (.int u0), .val (.int u1), .val (.int u2), .val (.int u3), .val (.int av), .val (.int y80_5), .val (.int y137_6), .unset] [])) (fun _ kq => XS.icmpYes X.here hx rfl (pc0 := 140) (pc' := 164) rfl (hb hby d2_140) rfl (tlt hc140_11).1 (by decide) (by decide) kq) ?_
      exact J164 y80_5 y137_6 T _ X eT N
    ·
      rw [if_neg hc140_11]
      refine own_st (T' := T) (F' := (mkF m 143 #[.val (.int u0), .val (.int u1), .val (.int u2), .val (.int u3), .val (.int av), .val (.int y80_5), .val (.int y137_6), .unset] [])) (fun _ kq => XS.icmpNo X.here hx rfl (hb hby d2_140) rfl (flt hc140_11).1 kq) ?_
      refine own_st (T' := T) (F' := (mkF m 144 #[.val (.int u0), .val (.int u1), .val (.int u2), .val (.int u3), .val (.int av), .val (.int y80_5), .val (.int y137_6), .unset] [(.int u3)])) (fun _ kq => XS.iloadN X.here hx rfl (hb hby d2_143) rfl kq) ?_
      obtain ⟨T12, locs12, X12, e12, N12, st12⟩ := own_callP X hx hZ 0 hown (hw _ (List.mem_of_getElem? (i := 9) rfl)) (hw _ (List.mem_of_getElem? (i := 10) rfl)) (hw _ (List.mem_of_getElem? (i := 7) rfl)) (hw _ (List.mem_of_getElem? (i := 11) rfl)) (by decide) (rm3 l Z a0 hw [] u3 h0 n0) (by decide) (by decide) rfl rfl eT N (by decide) (by decide) (g := (mkF m 144 #[.val (.int u0), .val (.int u1), .val (.int u2), .val (.int u3), .val (.int av), .val (.int y80_5), .val (.int y137_6), .unset] [(.int u3)])) rfl (by rw [hml]; rfl) (argsL := [(.int u3)]) (rest := []) (lenOf pd0 rfl) rfl rfl (by show 2 * 0 + _ ≤ _; exact Nat.le_of_eq rfl) (hb hby d2_144)
      refine own_st (T' := T12) (F' := (mkF m 147 #[.val (.int u0), .val (.int u1), .val (.int u2), .val (.int u3), .val (.int av), .val (.int y80_5), .val (.int y137_6), .unset] [(.int (f3 u3))])) (st12) ?_
      by_cases hc147_13 : (f3 u3) = (0 : Int32)
      ·
        rw [if_pos hc147_13]
        refine own_st (T' := T12) (F' := (mkF m 150 #[.val (.int u0), .val (.int u1), .val (.int u2), .val (.int u3), .val (.int av), .val (.int y80_5), .val (.int y137_6), .unset] [])) (fun _ kq => XS.ifNo X12.here hx rfl (hb hby d2_147) rfl ((if0 _ _).trans (teq hc147_13).2) kq) ?_
        refine own_st (T' := T12) (F' := (mkF m 151 #[.val (.int u0), .val (.int u1), .val (.int u2), .val (.int u3), .val (.int av), .val (.int y80_5), .val (.int y137_6), .unset] [(.int (0 : Int32))])) (fun _ kq => XS.iconst X12.here hx rfl (hb hby d2_150) kq) ?_
        exact own_retI X12 hx hlk hret (hb hby d2_151) (by decide) (by decide) (own_PQi rfl N12 e12)
      ·
        rw [if_neg hc147_13]
        refine own_st (T' := T12) (F' := (mkF m 152 #[.val (.int u0), .val (.int u1), .val (.int u2), .val (.int u3), .val (.int av), .val (.int y80_5), .val (.int y137_6), .unset] [])) (fun _ kq => XS.ifYes X12.here hx rfl (pc0 := 147) (pc' := 152) rfl (hb hby d2_147) rfl ((if0 _ _).trans (feq hc147_13).2) (by decide) (by decide) kq) ?_
        refine own_st (T' := T12) (F' := (mkF m 154 #[.val (.int u0), .val (.int u1), .val (.int u2), .val (.int u3), .val (.int av), .val (.int y80_5), .val (.int y137_6), .unset] [(.int y137_6)])) (fun _ kq => XS.iload X12.here hx rfl (hb hby d2_152) rfl kq) ?_
        refine own_st (T' := T12) (F' := (mkF m 156 #[.val (.int u0), .val (.int u1), .val (.int u2), .val (.int u3), .val (.int av), .val (.int y80_5), .val (.int y137_6), .unset] [(.int (6 : Int32)), (.int y137_6)])) (fun _ kq => XS.bipush X12.here hx rfl (hb hby d2_154) kq) ?_
        refine own_st (T' := T12) (F' := (mkF m 157 #[.val (.int u0), .val (.int u1), .val (.int u2), .val (.int u3), .val (.int av), .val (.int y80_5), .val (.int y137_6), .unset] [(.int (y137_6 <<< ((6 : Int32) &&& 31)))])) (fun _ kq => XS.ishl X12.here hx rfl (hb hby d2_156) rfl kq) ?_
        refine own_st (T' := T12) (F' := (mkF m 158 #[.val (.int u0), .val (.int u1), .val (.int u2), .val (.int u3), .val (.int av), .val (.int y80_5), .val (.int y137_6), .unset] [(.int u3), (.int (y137_6 <<< ((6 : Int32) &&& 31)))])) (fun _ kq => XS.iloadN X12.here hx rfl (hb hby d2_157) rfl kq) ?_
        refine own_st (T' := T12) (F' := (mkF m 160 #[.val (.int u0), .val (.int u1), .val (.int u2), .val (.int u3), .val (.int av), .val (.int y80_5), .val (.int y137_6), .unset] [(.int (63 : Int32)), (.int u3), (.int (y137_6 <<< ((6 : Int32) &&& 31)))])) (fun _ kq => XS.bipush X12.here hx rfl (hb hby d2_158) kq) ?_
        refine own_st (T' := T12) (F' := (mkF m 161 #[.val (.int u0), .val (.int u1), .val (.int u2), .val (.int u3), .val (.int av), .val (.int y80_5), .val (.int y137_6), .unset] [(.int (u3 &&& (63 : Int32))), (.int (y137_6 <<< ((6 : Int32) &&& 31)))])) (fun _ kq => XS.iand X12.here hx rfl (hb hby d2_160) rfl kq) ?_
        refine own_st (T' := T12) (F' := (mkF m 162 #[.val (.int u0), .val (.int u1), .val (.int u2), .val (.int u3), .val (.int av), .val (.int y80_5), .val (.int y137_6), .unset] [(.int ((y137_6 <<< ((6 : Int32) &&& 31)) ||| (u3 &&& (63 : Int32))))])) (fun _ kq => XS.ior X12.here hx rfl (hb hby d2_161) rfl kq) ?_
        refine own_st (T' := T12) (F' := (mkF m 164 #[.val (.int u0), .val (.int u1), .val (.int u2), .val (.int u3), .val (.int av), .val (.int y80_5), .val (.int ((y137_6 <<< ((6 : Int32) &&& 31)) ||| (u3 &&& (63 : Int32)))), .unset] [])) (fun _ kq => XS.istore X12.here hx rfl (hb hby d2_162) rfl (l' := #[.val (.int u0), .val (.int u1), .val (.int u2), .val (.int u3), .val (.int av), .val (.int y80_5), .val (.int ((y137_6 <<< ((6 : Int32) &&& 31)) ||| (u3 &&& (63 : Int32)))), .unset]) rfl kq) ?_
        exact J164 y80_5 ((y137_6 <<< ((6 : Int32) &&& 31)) ||| (u3 &&& (63 : Int32))) T12 _ X12 e12 N12
  have J80 : ∀ (y80_5 : Int32) (y80_6 : Int32) (T : State) (locs : List Loc) (X : Stand p l e ({ frames := 1, cells := 0, slots := 0, locals := 12 } : Room) s m #[(.int u0), (.int u1), (.int u2), (.int u3), (.int av)] below meth c T locs 0 0) (eT : T.heap = h0) (N : Fr n0 locs), own_Ends p e below s 0 0 (own_PQ (.int (f2_80 u1 u2 u3 av y80_5 y80_6)) h0 n0) T (mkF m 80 #[.val (.int u0), .val (.int u1), .val (.int u2), .val (.int u3), .val (.int av), .val (.int y80_5), .val (.int y80_6), .unset] []) := by
    intro y80_5 y80_6 T locs X eT N
    unfold f2_80
    refine own_st (T' := T) (F' := (mkF m 82 #[.val (.int u0), .val (.int u1), .val (.int u2), .val (.int u3), .val (.int av), .val (.int y80_5), .val (.int y80_6), .unset] [(.int av)])) (fun _ kq => XS.iload X.here hx rfl (hb hby d2_80) rfl kq) ?_
    refine own_st (T' := T) (F' := (mkF m 84 #[.val (.int u0), .val (.int u1), .val (.int u2), .val (.int u3), .val (.int av), .val (.int y80_5), .val (.int y80_6), .unset] [(.int y80_5), (.int av)])) (fun _ kq => XS.iload X.here hx rfl (hb hby d2_82) rfl kq) ?_
    by_cases hc84_14 : av < y80_5
    ·
      rw [if_pos hc84_14]
      refine own_st (T' := T) (F' := (mkF m 87 #[.val (.int u0), .val (.int u1), .val (.int u2), .val (.int u3), .val (.int av), .val (.int y80_5), .val (.int y80_6), .unset] [])) (fun _ kq => XS.icmpNo X.here hx rfl (hb hby d2_84) rfl (tlt hc84_14).2.1 kq) ?_
      refine own_st (T' := T) (F' := (mkF m 88 #[.val (.int u0), .val (.int u1), .val (.int u2), .val (.int u3), .val (.int av), .val (.int y80_5), .val (.int y80_6), .unset] [(.int (0 : Int32))])) (fun _ kq => XS.iconst X.here hx rfl (hb hby d2_87) kq) ?_
      exact own_retI X hx hlk hret (hb hby d2_88) (by decide) (by decide) (own_PQi rfl N eT)
    ·
      rw [if_neg hc84_14]
      refine own_st (T' := T) (F' := (mkF m 89 #[.val (.int u0), .val (.int u1), .val (.int u2), .val (.int u3), .val (.int av), .val (.int y80_5), .val (.int y80_6), .unset] [])) (fun _ kq => XS.icmpYes X.here hx rfl (pc0 := 84) (pc' := 89) rfl (hb hby d2_84) rfl (flt hc84_14).2.1 (by decide) (by decide) kq) ?_
      refine own_st (T' := T) (F' := (mkF m 90 #[.val (.int u0), .val (.int u1), .val (.int u2), .val (.int u3), .val (.int av), .val (.int y80_5), .val (.int y80_6), .unset] [(.int u1)])) (fun _ kq => XS.iloadN X.here hx rfl (hb hby d2_89) rfl kq) ?_
      obtain ⟨T15, locs15, X15, e15, N15, st15⟩ := own_callP X hx hZ 0 hown (hw _ (List.mem_of_getElem? (i := 9) rfl)) (hw _ (List.mem_of_getElem? (i := 10) rfl)) (hw _ (List.mem_of_getElem? (i := 7) rfl)) (hw _ (List.mem_of_getElem? (i := 11) rfl)) (by decide) (rm3 l Z a0 hw [] u1 h0 n0) (by decide) (by decide) rfl rfl eT N (by decide) (by decide) (g := (mkF m 90 #[.val (.int u0), .val (.int u1), .val (.int u2), .val (.int u3), .val (.int av), .val (.int y80_5), .val (.int y80_6), .unset] [(.int u1)])) rfl (by rw [hml]; rfl) (argsL := [(.int u1)]) (rest := []) (lenOf pd0 rfl) rfl rfl (by show 2 * 0 + _ ≤ _; exact Nat.le_of_eq rfl) (hb hby d2_90)
      refine own_st (T' := T15) (F' := (mkF m 93 #[.val (.int u0), .val (.int u1), .val (.int u2), .val (.int u3), .val (.int av), .val (.int y80_5), .val (.int y80_6), .unset] [(.int (f3 u1))])) (st15) ?_
      by_cases hc93_16 : (f3 u1) = (0 : Int32)
      ·
        rw [if_pos hc93_16]
        refine own_st (T' := T15) (F' := (mkF m 96 #[.val (.int u0), .val (.int u1), .val (.int u2), .val (.int u3), .val (.int av), .val (.int y80_5), .val (.int y80_6), .unset] [])) (fun _ kq => XS.ifNo X15.here hx rfl (hb hby d2_93) rfl ((if0 _ _).trans (teq hc93_16).2) kq) ?_
        refine own_st (T' := T15) (F' := (mkF m 97 #[.val (.int u0), .val (.int u1), .val (.int u2), .val (.int u3), .val (.int av), .val (.int y80_5), .val (.int y80_6), .unset] [(.int (0 : Int32))])) (fun _ kq => XS.iconst X15.here hx rfl (hb hby d2_96) kq) ?_
        exact own_retI X15 hx hlk hret (hb hby d2_97) (by decide) (by decide) (own_PQi rfl N15 e15)
      ·
        rw [if_neg hc93_16]
        refine own_st (T' := T15) (F' := (mkF m 98 #[.val (.int u0), .val (.int u1), .val (.int u2), .val (.int u3), .val (.int av), .val (.int y80_5), .val (.int y80_6), .unset] [])) (fun _ kq => XS.ifYes X15.here hx rfl (pc0 := 93) (pc' := 98) rfl (hb hby d2_93) rfl ((if0 _ _).trans (feq hc93_16).2) (by decide) (by decide) kq) ?_
        refine own_st (T' := T15) (F' := (mkF m 100 #[.val (.int u0), .val (.int u1), .val (.int u2), .val (.int u3), .val (.int av), .val (.int y80_5), .val (.int y80_6), .unset] [(.int y80_6)])) (fun _ kq => XS.iload X15.here hx rfl (hb hby d2_98) rfl kq) ?_
        refine own_st (T' := T15) (F' := (mkF m 102 #[.val (.int u0), .val (.int u1), .val (.int u2), .val (.int u3), .val (.int av), .val (.int y80_5), .val (.int y80_6), .unset] [(.int (6 : Int32)), (.int y80_6)])) (fun _ kq => XS.bipush X15.here hx rfl (hb hby d2_100) kq) ?_
        refine own_st (T' := T15) (F' := (mkF m 103 #[.val (.int u0), .val (.int u1), .val (.int u2), .val (.int u3), .val (.int av), .val (.int y80_5), .val (.int y80_6), .unset] [(.int (y80_6 <<< ((6 : Int32) &&& 31)))])) (fun _ kq => XS.ishl X15.here hx rfl (hb hby d2_102) rfl kq) ?_
        refine own_st (T' := T15) (F' := (mkF m 104 #[.val (.int u0), .val (.int u1), .val (.int u2), .val (.int u3), .val (.int av), .val (.int y80_5), .val (.int y80_6), .unset] [(.int u1), (.int (y80_6 <<< ((6 : Int32) &&& 31)))])) (fun _ kq => XS.iloadN X15.here hx rfl (hb hby d2_103) rfl kq) ?_
        refine own_st (T' := T15) (F' := (mkF m 106 #[.val (.int u0), .val (.int u1), .val (.int u2), .val (.int u3), .val (.int av), .val (.int y80_5), .val (.int y80_6), .unset] [(.int (63 : Int32)), (.int u1), (.int (y80_6 <<< ((6 : Int32) &&& 31)))])) (fun _ kq => XS.bipush X15.here hx rfl (hb hby d2_104) kq) ?_
        refine own_st (T' := T15) (F' := (mkF m 107 #[.val (.int u0), .val (.int u1), .val (.int u2), .val (.int u3), .val (.int av), .val (.int y80_5), .val (.int y80_6), .unset] [(.int (u1 &&& (63 : Int32))), (.int (y80_6 <<< ((6 : Int32) &&& 31)))])) (fun _ kq => XS.iand X15.here hx rfl (hb hby d2_106) rfl kq) ?_
        refine own_st (T' := T15) (F' := (mkF m 108 #[.val (.int u0), .val (.int u1), .val (.int u2), .val (.int u3), .val (.int av), .val (.int y80_5), .val (.int y80_6), .unset] [(.int ((y80_6 <<< ((6 : Int32) &&& 31)) ||| (u1 &&& (63 : Int32))))])) (fun _ kq => XS.ior X15.here hx rfl (hb hby d2_107) rfl kq) ?_
        refine own_st (T' := T15) (F' := (mkF m 110 #[.val (.int u0), .val (.int u1), .val (.int u2), .val (.int u3), .val (.int av), .val (.int y80_5), .val (.int ((y80_6 <<< ((6 : Int32) &&& 31)) ||| (u1 &&& (63 : Int32)))), .unset] [])) (fun _ kq => XS.istore X15.here hx rfl (hb hby d2_108) rfl (l' := #[.val (.int u0), .val (.int u1), .val (.int u2), .val (.int u3), .val (.int av), .val (.int y80_5), .val (.int ((y80_6 <<< ((6 : Int32) &&& 31)) ||| (u1 &&& (63 : Int32)))), .unset]) rfl kq) ?_
        refine own_st (T' := T15) (F' := (mkF m 112 #[.val (.int u0), .val (.int u1), .val (.int u2), .val (.int u3), .val (.int av), .val (.int y80_5), .val (.int ((y80_6 <<< ((6 : Int32) &&& 31)) ||| (u1 &&& (63 : Int32)))), .unset] [(.int y80_5)])) (fun _ kq => XS.iload X15.here hx rfl (hb hby d2_110) rfl kq) ?_
        refine own_st (T' := T15) (F' := (mkF m 113 #[.val (.int u0), .val (.int u1), .val (.int u2), .val (.int u3), .val (.int av), .val (.int y80_5), .val (.int ((y80_6 <<< ((6 : Int32) &&& 31)) ||| (u1 &&& (63 : Int32)))), .unset] [(.int (3 : Int32)), (.int y80_5)])) (fun _ kq => XS.iconst X15.here hx rfl (hb hby d2_112) kq) ?_
        by_cases hc113_17 : y80_5 < (3 : Int32)
        ·
          rw [if_pos hc113_17]
          refine own_st (T' := T15) (F' := (mkF m 137 #[.val (.int u0), .val (.int u1), .val (.int u2), .val (.int u3), .val (.int av), .val (.int y80_5), .val (.int ((y80_6 <<< ((6 : Int32) &&& 31)) ||| (u1 &&& (63 : Int32)))), .unset] [])) (fun _ kq => XS.icmpYes X15.here hx rfl (pc0 := 113) (pc' := 137) rfl (hb hby d2_113) rfl (tlt hc113_17).1 (by decide) (by decide) kq) ?_
          exact J137 y80_5 ((y80_6 <<< ((6 : Int32) &&& 31)) ||| (u1 &&& (63 : Int32))) T15 _ X15 e15 N15
        ·
          rw [if_neg hc113_17]
          refine own_st (T' := T15) (F' := (mkF m 116 #[.val (.int u0), .val (.int u1), .val (.int u2), .val (.int u3), .val (.int av), .val (.int y80_5), .val (.int ((y80_6 <<< ((6 : Int32) &&& 31)) ||| (u1 &&& (63 : Int32)))), .unset] [])) (fun _ kq => XS.icmpNo X15.here hx rfl (hb hby d2_113) rfl (flt hc113_17).1 kq) ?_
          refine own_st (T' := T15) (F' := (mkF m 117 #[.val (.int u0), .val (.int u1), .val (.int u2), .val (.int u3), .val (.int av), .val (.int y80_5), .val (.int ((y80_6 <<< ((6 : Int32) &&& 31)) ||| (u1 &&& (63 : Int32)))), .unset] [(.int u2)])) (fun _ kq => XS.iloadN X15.here hx rfl (hb hby d2_116) rfl kq) ?_
          obtain ⟨T18, locs18, X18, e18, N18, st18⟩ := own_callP X15 hx hZ 0 hown (hw _ (List.mem_of_getElem? (i := 9) rfl)) (hw _ (List.mem_of_getElem? (i := 10) rfl)) (hw _ (List.mem_of_getElem? (i := 7) rfl)) (hw _ (List.mem_of_getElem? (i := 11) rfl)) (by decide) (rm3 l Z a0 hw [] u2 h0 n0) (by decide) (by decide) rfl rfl e15 N15 (by decide) (by decide) (g := (mkF m 117 #[.val (.int u0), .val (.int u1), .val (.int u2), .val (.int u3), .val (.int av), .val (.int y80_5), .val (.int ((y80_6 <<< ((6 : Int32) &&& 31)) ||| (u1 &&& (63 : Int32)))), .unset] [(.int u2)])) rfl (by rw [hml]; rfl) (argsL := [(.int u2)]) (rest := []) (lenOf pd0 rfl) rfl rfl (by show 2 * 0 + _ ≤ _; exact Nat.le_of_eq rfl) (hb hby d2_117)
          refine own_st (T' := T18) (F' := (mkF m 120 #[.val (.int u0), .val (.int u1), .val (.int u2), .val (.int u3), .val (.int av), .val (.int y80_5), .val (.int ((y80_6 <<< ((6 : Int32) &&& 31)) ||| (u1 &&& (63 : Int32)))), .unset] [(.int (f3 u2))])) (st18) ?_
          by_cases hc120_19 : (f3 u2) = (0 : Int32)
          ·
            rw [if_pos hc120_19]
            refine own_st (T' := T18) (F' := (mkF m 123 #[.val (.int u0), .val (.int u1), .val (.int u2), .val (.int u3), .val (.int av), .val (.int y80_5), .val (.int ((y80_6 <<< ((6 : Int32) &&& 31)) ||| (u1 &&& (63 : Int32)))), .unset] [])) (fun _ kq => XS.ifNo X18.here hx rfl (hb hby d2_120) rfl ((if0 _ _).trans (teq hc120_19).2) kq) ?_
            refine own_st (T' := T18) (F' := (mkF m 124 #[.val (.int u0), .val (.int u1), .val (.int u2), .val (.int u3), .val (.int av), .val (.int y80_5), .val (.int ((y80_6 <<< ((6 : Int32) &&& 31)) ||| (u1 &&& (63 : Int32)))), .unset] [(.int (0 : Int32))])) (fun _ kq => XS.iconst X18.here hx rfl (hb hby d2_123) kq) ?_
            exact own_retI X18 hx hlk hret (hb hby d2_124) (by decide) (by decide) (own_PQi rfl N18 e18)
          ·
            rw [if_neg hc120_19]
            refine own_st (T' := T18) (F' := (mkF m 125 #[.val (.int u0), .val (.int u1), .val (.int u2), .val (.int u3), .val (.int av), .val (.int y80_5), .val (.int ((y80_6 <<< ((6 : Int32) &&& 31)) ||| (u1 &&& (63 : Int32)))), .unset] [])) (fun _ kq => XS.ifYes X18.here hx rfl (pc0 := 120) (pc' := 125) rfl (hb hby d2_120) rfl ((if0 _ _).trans (feq hc120_19).2) (by decide) (by decide) kq) ?_
            refine own_st (T' := T18) (F' := (mkF m 127 #[.val (.int u0), .val (.int u1), .val (.int u2), .val (.int u3), .val (.int av), .val (.int y80_5), .val (.int ((y80_6 <<< ((6 : Int32) &&& 31)) ||| (u1 &&& (63 : Int32)))), .unset] [(.int ((y80_6 <<< ((6 : Int32) &&& 31)) ||| (u1 &&& (63 : Int32))))])) (fun _ kq => XS.iload X18.here hx rfl (hb hby d2_125) rfl kq) ?_
            refine own_st (T' := T18) (F' := (mkF m 129 #[.val (.int u0), .val (.int u1), .val (.int u2), .val (.int u3), .val (.int av), .val (.int y80_5), .val (.int ((y80_6 <<< ((6 : Int32) &&& 31)) ||| (u1 &&& (63 : Int32)))), .unset] [(.int (6 : Int32)), (.int ((y80_6 <<< ((6 : Int32) &&& 31)) ||| (u1 &&& (63 : Int32))))])) (fun _ kq => XS.bipush X18.here hx rfl (hb hby d2_127) kq) ?_
            refine own_st (T' := T18) (F' := (mkF m 130 #[.val (.int u0), .val (.int u1), .val (.int u2), .val (.int u3), .val (.int av), .val (.int y80_5), .val (.int ((y80_6 <<< ((6 : Int32) &&& 31)) ||| (u1 &&& (63 : Int32)))), .unset] [(.int (((y80_6 <<< ((6 : Int32) &&& 31)) ||| (u1 &&& (63 : Int32))) <<< ((6 : Int32) &&& 31)))])) (fun _ kq => XS.ishl X18.here hx rfl (hb hby d2_129) rfl kq) ?_
            refine own_st (T' := T18) (F' := (mkF m 131 #[.val (.int u0), .val (.int u1), .val (.int u2), .val (.int u3), .val (.int av), .val (.int y80_5), .val (.int ((y80_6 <<< ((6 : Int32) &&& 31)) ||| (u1 &&& (63 : Int32)))), .unset] [(.int u2), (.int (((y80_6 <<< ((6 : Int32) &&& 31)) ||| (u1 &&& (63 : Int32))) <<< ((6 : Int32) &&& 31)))])) (fun _ kq => XS.iloadN X18.here hx rfl (hb hby d2_130) rfl kq) ?_
            refine own_st (T' := T18) (F' := (mkF m 133 #[.val (.int u0), .val (.int u1), .val (.int u2), .val (.int u3), .val (.int av), .val (.int y80_5), .val (.int ((y80_6 <<< ((6 : Int32) &&& 31)) ||| (u1 &&& (63 : Int32)))), .unset] [(.int (63 : Int32)), (.int u2), (.int (((y80_6 <<< ((6 : Int32) &&& 31)) ||| (u1 &&& (63 : Int32))) <<< ((6 : Int32) &&& 31)))])) (fun _ kq => XS.bipush X18.here hx rfl (hb hby d2_131) kq) ?_
            refine own_st (T' := T18) (F' := (mkF m 134 #[.val (.int u0), .val (.int u1), .val (.int u2), .val (.int u3), .val (.int av), .val (.int y80_5), .val (.int ((y80_6 <<< ((6 : Int32) &&& 31)) ||| (u1 &&& (63 : Int32)))), .unset] [(.int (u2 &&& (63 : Int32))), (.int (((y80_6 <<< ((6 : Int32) &&& 31)) ||| (u1 &&& (63 : Int32))) <<< ((6 : Int32) &&& 31)))])) (fun _ kq => XS.iand X18.here hx rfl (hb hby d2_133) rfl kq) ?_
            refine own_st (T' := T18) (F' := (mkF m 135 #[.val (.int u0), .val (.int u1), .val (.int u2), .val (.int u3), .val (.int av), .val (.int y80_5), .val (.int ((y80_6 <<< ((6 : Int32) &&& 31)) ||| (u1 &&& (63 : Int32)))), .unset] [(.int ((((y80_6 <<< ((6 : Int32) &&& 31)) ||| (u1 &&& (63 : Int32))) <<< ((6 : Int32) &&& 31)) ||| (u2 &&& (63 : Int32))))])) (fun _ kq => XS.ior X18.here hx rfl (hb hby d2_134) rfl kq) ?_
            refine own_st (T' := T18) (F' := (mkF m 137 #[.val (.int u0), .val (.int u1), .val (.int u2), .val (.int u3), .val (.int av), .val (.int y80_5), .val (.int ((((y80_6 <<< ((6 : Int32) &&& 31)) ||| (u1 &&& (63 : Int32))) <<< ((6 : Int32) &&& 31)) ||| (u2 &&& (63 : Int32)))), .unset] [])) (fun _ kq => XS.istore X18.here hx rfl (hb hby d2_135) rfl (l' := #[.val (.int u0), .val (.int u1), .val (.int u2), .val (.int u3), .val (.int av), .val (.int y80_5), .val (.int ((((y80_6 <<< ((6 : Int32) &&& 31)) ||| (u1 &&& (63 : Int32))) <<< ((6 : Int32) &&& 31)) ||| (u2 &&& (63 : Int32)))), .unset]) rfl kq) ?_
            exact J137 y80_5 ((((y80_6 <<< ((6 : Int32) &&& 31)) ||| (u1 &&& (63 : Int32))) <<< ((6 : Int32) &&& 31)) ||| (u2 &&& (63 : Int32))) T18 _ X18 e18 N18
  have N := Fr.nil n0
  refine own_entry (ef2 m u0 u1 u2 u3 av) ?_
  unfold f2
  refine own_st (T' := T) (F' := (mkF m 1 #[.val (.int u0), .val (.int u1), .val (.int u2), .val (.int u3), .val (.int av), .unset, .unset, .unset] [(.int u0)])) (fun _ kq => XS.iloadN X.here hx rfl (hb hby d2_0) rfl kq) ?_
  refine own_st (T' := T) (F' := (mkF m 4 #[.val (.int u0), .val (.int u1), .val (.int u2), .val (.int u3), .val (.int av), .unset, .unset, .unset] [(.int (128 : Int32)), (.int u0)])) (fun _ kq => XS.sipush X.here hx rfl (hb hby d2_1) kq) ?_
  by_cases hc4_20 : u0 < (128 : Int32)
  ·
    rw [if_pos hc4_20]
    refine own_st (T' := T) (F' := (mkF m 7 #[.val (.int u0), .val (.int u1), .val (.int u2), .val (.int u3), .val (.int av), .unset, .unset, .unset] [])) (fun _ kq => XS.icmpNo X.here hx rfl (hb hby d2_4) rfl (tlt hc4_20).2.1 kq) ?_
    refine own_st (T' := T) (F' := (mkF m 8 #[.val (.int u0), .val (.int u1), .val (.int u2), .val (.int u3), .val (.int av), .unset, .unset, .unset] [(.int (1 : Int32))])) (fun _ kq => XS.iconst X.here hx rfl (hb hby d2_7) kq) ?_
    exact own_retI X hx hlk hret (hb hby d2_8) (by decide) (by decide) (own_PQi rfl N eT)
  ·
    rw [if_neg hc4_20]
    refine own_st (T' := T) (F' := (mkF m 9 #[.val (.int u0), .val (.int u1), .val (.int u2), .val (.int u3), .val (.int av), .unset, .unset, .unset] [])) (fun _ kq => XS.icmpYes X.here hx rfl (pc0 := 4) (pc' := 9) rfl (hb hby d2_4) rfl (flt hc4_20).2.1 (by decide) (by decide) kq) ?_
    refine own_st (T' := T) (F' := (mkF m 10 #[.val (.int u0), .val (.int u1), .val (.int u2), .val (.int u3), .val (.int av), .unset, .unset, .unset] [(.int u0)])) (fun _ kq => XS.iloadN X.here hx rfl (hb hby d2_9) rfl kq) ?_
    refine own_st (T' := T) (F' := (mkF m 13 #[.val (.int u0), .val (.int u1), .val (.int u2), .val (.int u3), .val (.int av), .unset, .unset, .unset] [(.int (224 : Int32)), (.int u0)])) (fun _ kq => XS.sipush X.here hx rfl (hb hby d2_10) kq) ?_
    refine own_st (T' := T) (F' := (mkF m 14 #[.val (.int u0), .val (.int u1), .val (.int u2), .val (.int u3), .val (.int av), .unset, .unset, .unset] [(.int (u0 &&& (224 : Int32)))])) (fun _ kq => XS.iand X.here hx rfl (hb hby d2_13) rfl kq) ?_
    refine own_st (T' := T) (F' := (mkF m 17 #[.val (.int u0), .val (.int u1), .val (.int u2), .val (.int u3), .val (.int av), .unset, .unset, .unset] [(.int (192 : Int32)), (.int (u0 &&& (224 : Int32)))])) (fun _ kq => XS.sipush X.here hx rfl (hb hby d2_14) kq) ?_
    by_cases hc17_21 : (u0 &&& (224 : Int32)) = (192 : Int32)
    ·
      rw [if_pos hc17_21]
      refine own_st (T' := T) (F' := (mkF m 20 #[.val (.int u0), .val (.int u1), .val (.int u2), .val (.int u3), .val (.int av), .unset, .unset, .unset] [])) (fun _ kq => XS.icmpNo X.here hx rfl (hb hby d2_17) rfl (teq hc17_21).2 kq) ?_
      refine own_st (T' := T) (F' := (mkF m 21 #[.val (.int u0), .val (.int u1), .val (.int u2), .val (.int u3), .val (.int av), .unset, .unset, .unset] [(.int (2 : Int32))])) (fun _ kq => XS.iconst X.here hx rfl (hb hby d2_20) kq) ?_
      refine own_st (T' := T) (F' := (mkF m 23 #[.val (.int u0), .val (.int u1), .val (.int u2), .val (.int u3), .val (.int av), .val (.int (2 : Int32)), .unset, .unset] [])) (fun _ kq => XS.istore X.here hx rfl (hb hby d2_21) rfl (l' := #[.val (.int u0), .val (.int u1), .val (.int u2), .val (.int u3), .val (.int av), .val (.int (2 : Int32)), .unset, .unset]) rfl kq) ?_
      refine own_st (T' := T) (F' := (mkF m 24 #[.val (.int u0), .val (.int u1), .val (.int u2), .val (.int u3), .val (.int av), .val (.int (2 : Int32)), .unset, .unset] [(.int u0)])) (fun _ kq => XS.iloadN X.here hx rfl (hb hby d2_23) rfl kq) ?_
      refine own_st (T' := T) (F' := (mkF m 26 #[.val (.int u0), .val (.int u1), .val (.int u2), .val (.int u3), .val (.int av), .val (.int (2 : Int32)), .unset, .unset] [(.int (31 : Int32)), (.int u0)])) (fun _ kq => XS.bipush X.here hx rfl (hb hby d2_24) kq) ?_
      refine own_st (T' := T) (F' := (mkF m 27 #[.val (.int u0), .val (.int u1), .val (.int u2), .val (.int u3), .val (.int av), .val (.int (2 : Int32)), .unset, .unset] [(.int (u0 &&& (31 : Int32)))])) (fun _ kq => XS.iand X.here hx rfl (hb hby d2_26) rfl kq) ?_
      refine own_st (T' := T) (F' := (mkF m 29 #[.val (.int u0), .val (.int u1), .val (.int u2), .val (.int u3), .val (.int av), .val (.int (2 : Int32)), .val (.int (u0 &&& (31 : Int32))), .unset] [])) (fun _ kq => XS.istore X.here hx rfl (hb hby d2_27) rfl (l' := #[.val (.int u0), .val (.int u1), .val (.int u2), .val (.int u3), .val (.int av), .val (.int (2 : Int32)), .val (.int (u0 &&& (31 : Int32))), .unset]) rfl kq) ?_
      refine own_st (T' := T) (F' := (mkF m 80 #[.val (.int u0), .val (.int u1), .val (.int u2), .val (.int u3), .val (.int av), .val (.int (2 : Int32)), .val (.int (u0 &&& (31 : Int32))), .unset] [])) (fun _ kq => XS.goto X.here hx rfl (pc0 := 29) (pc' := 80) rfl (hb hby d2_29) (by decide) (by decide) kq) ?_
      exact J80 (2 : Int32) (u0 &&& (31 : Int32)) T _ X eT N
    ·
      rw [if_neg hc17_21]
      refine own_st (T' := T) (F' := (mkF m 32 #[.val (.int u0), .val (.int u1), .val (.int u2), .val (.int u3), .val (.int av), .unset, .unset, .unset] [])) (fun _ kq => XS.icmpYes X.here hx rfl (pc0 := 17) (pc' := 32) rfl (hb hby d2_17) rfl (feq hc17_21).2 (by decide) (by decide) kq) ?_
      refine own_st (T' := T) (F' := (mkF m 33 #[.val (.int u0), .val (.int u1), .val (.int u2), .val (.int u3), .val (.int av), .unset, .unset, .unset] [(.int u0)])) (fun _ kq => XS.iloadN X.here hx rfl (hb hby d2_32) rfl kq) ?_
      refine own_st (T' := T) (F' := (mkF m 36 #[.val (.int u0), .val (.int u1), .val (.int u2), .val (.int u3), .val (.int av), .unset, .unset, .unset] [(.int (240 : Int32)), (.int u0)])) (fun _ kq => XS.sipush X.here hx rfl (hb hby d2_33) kq) ?_
      refine own_st (T' := T) (F' := (mkF m 37 #[.val (.int u0), .val (.int u1), .val (.int u2), .val (.int u3), .val (.int av), .unset, .unset, .unset] [(.int (u0 &&& (240 : Int32)))])) (fun _ kq => XS.iand X.here hx rfl (hb hby d2_36) rfl kq) ?_
      refine own_st (T' := T) (F' := (mkF m 40 #[.val (.int u0), .val (.int u1), .val (.int u2), .val (.int u3), .val (.int av), .unset, .unset, .unset] [(.int (224 : Int32)), (.int (u0 &&& (240 : Int32)))])) (fun _ kq => XS.sipush X.here hx rfl (hb hby d2_37) kq) ?_
      by_cases hc40_22 : (u0 &&& (240 : Int32)) = (224 : Int32)
      ·
        rw [if_pos hc40_22]
        refine own_st (T' := T) (F' := (mkF m 43 #[.val (.int u0), .val (.int u1), .val (.int u2), .val (.int u3), .val (.int av), .unset, .unset, .unset] [])) (fun _ kq => XS.icmpNo X.here hx rfl (hb hby d2_40) rfl (teq hc40_22).2 kq) ?_
        refine own_st (T' := T) (F' := (mkF m 44 #[.val (.int u0), .val (.int u1), .val (.int u2), .val (.int u3), .val (.int av), .unset, .unset, .unset] [(.int (3 : Int32))])) (fun _ kq => XS.iconst X.here hx rfl (hb hby d2_43) kq) ?_
        refine own_st (T' := T) (F' := (mkF m 46 #[.val (.int u0), .val (.int u1), .val (.int u2), .val (.int u3), .val (.int av), .val (.int (3 : Int32)), .unset, .unset] [])) (fun _ kq => XS.istore X.here hx rfl (hb hby d2_44) rfl (l' := #[.val (.int u0), .val (.int u1), .val (.int u2), .val (.int u3), .val (.int av), .val (.int (3 : Int32)), .unset, .unset]) rfl kq) ?_
        refine own_st (T' := T) (F' := (mkF m 47 #[.val (.int u0), .val (.int u1), .val (.int u2), .val (.int u3), .val (.int av), .val (.int (3 : Int32)), .unset, .unset] [(.int u0)])) (fun _ kq => XS.iloadN X.here hx rfl (hb hby d2_46) rfl kq) ?_
        refine own_st (T' := T) (F' := (mkF m 49 #[.val (.int u0), .val (.int u1), .val (.int u2), .val (.int u3), .val (.int av), .val (.int (3 : Int32)), .unset, .unset] [(.int (15 : Int32)), (.int u0)])) (fun _ kq => XS.bipush X.here hx rfl (hb hby d2_47) kq) ?_
        refine own_st (T' := T) (F' := (mkF m 50 #[.val (.int u0), .val (.int u1), .val (.int u2), .val (.int u3), .val (.int av), .val (.int (3 : Int32)), .unset, .unset] [(.int (u0 &&& (15 : Int32)))])) (fun _ kq => XS.iand X.here hx rfl (hb hby d2_49) rfl kq) ?_
        refine own_st (T' := T) (F' := (mkF m 52 #[.val (.int u0), .val (.int u1), .val (.int u2), .val (.int u3), .val (.int av), .val (.int (3 : Int32)), .val (.int (u0 &&& (15 : Int32))), .unset] [])) (fun _ kq => XS.istore X.here hx rfl (hb hby d2_50) rfl (l' := #[.val (.int u0), .val (.int u1), .val (.int u2), .val (.int u3), .val (.int av), .val (.int (3 : Int32)), .val (.int (u0 &&& (15 : Int32))), .unset]) rfl kq) ?_
        refine own_st (T' := T) (F' := (mkF m 80 #[.val (.int u0), .val (.int u1), .val (.int u2), .val (.int u3), .val (.int av), .val (.int (3 : Int32)), .val (.int (u0 &&& (15 : Int32))), .unset] [])) (fun _ kq => XS.goto X.here hx rfl (pc0 := 52) (pc' := 80) rfl (hb hby d2_52) (by decide) (by decide) kq) ?_
        exact J80 (3 : Int32) (u0 &&& (15 : Int32)) T _ X eT N
      ·
        rw [if_neg hc40_22]
        refine own_st (T' := T) (F' := (mkF m 55 #[.val (.int u0), .val (.int u1), .val (.int u2), .val (.int u3), .val (.int av), .unset, .unset, .unset] [])) (fun _ kq => XS.icmpYes X.here hx rfl (pc0 := 40) (pc' := 55) rfl (hb hby d2_40) rfl (feq hc40_22).2 (by decide) (by decide) kq) ?_
        refine own_st (T' := T) (F' := (mkF m 56 #[.val (.int u0), .val (.int u1), .val (.int u2), .val (.int u3), .val (.int av), .unset, .unset, .unset] [(.int u0)])) (fun _ kq => XS.iloadN X.here hx rfl (hb hby d2_55) rfl kq) ?_
        refine own_st (T' := T) (F' := (mkF m 59 #[.val (.int u0), .val (.int u1), .val (.int u2), .val (.int u3), .val (.int av), .unset, .unset, .unset] [(.int (248 : Int32)), (.int u0)])) (fun _ kq => XS.sipush X.here hx rfl (hb hby d2_56) kq) ?_
        refine own_st (T' := T) (F' := (mkF m 60 #[.val (.int u0), .val (.int u1), .val (.int u2), .val (.int u3), .val (.int av), .unset, .unset, .unset] [(.int (u0 &&& (248 : Int32)))])) (fun _ kq => XS.iand X.here hx rfl (hb hby d2_59) rfl kq) ?_
        refine own_st (T' := T) (F' := (mkF m 63 #[.val (.int u0), .val (.int u1), .val (.int u2), .val (.int u3), .val (.int av), .unset, .unset, .unset] [(.int (240 : Int32)), (.int (u0 &&& (248 : Int32)))])) (fun _ kq => XS.sipush X.here hx rfl (hb hby d2_60) kq) ?_
        by_cases hc63_23 : (u0 &&& (248 : Int32)) = (240 : Int32)
        ·
          rw [if_pos hc63_23]
          refine own_st (T' := T) (F' := (mkF m 66 #[.val (.int u0), .val (.int u1), .val (.int u2), .val (.int u3), .val (.int av), .unset, .unset, .unset] [])) (fun _ kq => XS.icmpNo X.here hx rfl (hb hby d2_63) rfl (teq hc63_23).2 kq) ?_
          refine own_st (T' := T) (F' := (mkF m 67 #[.val (.int u0), .val (.int u1), .val (.int u2), .val (.int u3), .val (.int av), .unset, .unset, .unset] [(.int (4 : Int32))])) (fun _ kq => XS.iconst X.here hx rfl (hb hby d2_66) kq) ?_
          refine own_st (T' := T) (F' := (mkF m 69 #[.val (.int u0), .val (.int u1), .val (.int u2), .val (.int u3), .val (.int av), .val (.int (4 : Int32)), .unset, .unset] [])) (fun _ kq => XS.istore X.here hx rfl (hb hby d2_67) rfl (l' := #[.val (.int u0), .val (.int u1), .val (.int u2), .val (.int u3), .val (.int av), .val (.int (4 : Int32)), .unset, .unset]) rfl kq) ?_
          refine own_st (T' := T) (F' := (mkF m 70 #[.val (.int u0), .val (.int u1), .val (.int u2), .val (.int u3), .val (.int av), .val (.int (4 : Int32)), .unset, .unset] [(.int u0)])) (fun _ kq => XS.iloadN X.here hx rfl (hb hby d2_69) rfl kq) ?_
          refine own_st (T' := T) (F' := (mkF m 72 #[.val (.int u0), .val (.int u1), .val (.int u2), .val (.int u3), .val (.int av), .val (.int (4 : Int32)), .unset, .unset] [(.int (7 : Int32)), (.int u0)])) (fun _ kq => XS.bipush X.here hx rfl (hb hby d2_70) kq) ?_
          refine own_st (T' := T) (F' := (mkF m 73 #[.val (.int u0), .val (.int u1), .val (.int u2), .val (.int u3), .val (.int av), .val (.int (4 : Int32)), .unset, .unset] [(.int (u0 &&& (7 : Int32)))])) (fun _ kq => XS.iand X.here hx rfl (hb hby d2_72) rfl kq) ?_
          refine own_st (T' := T) (F' := (mkF m 75 #[.val (.int u0), .val (.int u1), .val (.int u2), .val (.int u3), .val (.int av), .val (.int (4 : Int32)), .val (.int (u0 &&& (7 : Int32))), .unset] [])) (fun _ kq => XS.istore X.here hx rfl (hb hby d2_73) rfl (l' := #[.val (.int u0), .val (.int u1), .val (.int u2), .val (.int u3), .val (.int av), .val (.int (4 : Int32)), .val (.int (u0 &&& (7 : Int32))), .unset]) rfl kq) ?_
          refine own_st (T' := T) (F' := (mkF m 80 #[.val (.int u0), .val (.int u1), .val (.int u2), .val (.int u3), .val (.int av), .val (.int (4 : Int32)), .val (.int (u0 &&& (7 : Int32))), .unset] [])) (fun _ kq => XS.goto X.here hx rfl (pc0 := 75) (pc' := 80) rfl (hb hby d2_75) (by decide) (by decide) kq) ?_
          exact J80 (4 : Int32) (u0 &&& (7 : Int32)) T _ X eT N
        ·
          rw [if_neg hc63_23]
          refine own_st (T' := T) (F' := (mkF m 78 #[.val (.int u0), .val (.int u1), .val (.int u2), .val (.int u3), .val (.int av), .unset, .unset, .unset] [])) (fun _ kq => XS.icmpYes X.here hx rfl (pc0 := 63) (pc' := 78) rfl (hb hby d2_63) rfl (feq hc63_23).2 (by decide) (by decide) kq) ?_
          refine own_st (T' := T) (F' := (mkF m 79 #[.val (.int u0), .val (.int u1), .val (.int u2), .val (.int u3), .val (.int av), .unset, .unset, .unset] [(.int (0 : Int32))])) (fun _ kq => XS.iconst X.here hx rfl (hb hby d2_78) kq) ?_
          exact own_retI X hx hlk hret (hb hby d2_79) (by decide) (by decide) (own_PQi rfl N eT)
theorem d1_0 : decode prog_73_method_7_code 0 = .ok (.aload_n 0, 1) := by decide +kernel
theorem d1_1 : decode prog_73_method_7_code 1 = .ok (.iload_n 1, 1) := by decide +kernel
theorem d1_2 : decode prog_73_method_7_code 2 = .ok (.baload, 1) := by decide +kernel
theorem d1_3 : decode prog_73_method_7_code 3 = .ok (.sipush 255, 3) := by decide +kernel
theorem d1_6 : decode prog_73_method_7_code 6 = .ok (.iand, 1) := by decide +kernel
theorem d1_7 : decode prog_73_method_7_code 7 = .ok (.istore_n 2, 1) := by decide +kernel
theorem d1_8 : decode prog_73_method_7_code 8 = .ok (.iload_n 2, 1) := by decide +kernel
theorem d1_9 : decode prog_73_method_7_code 9 = .ok (.sipush 128, 3) := by decide +kernel
theorem d1_15 : decode prog_73_method_7_code 15 = .ok (.iconst 1, 1) := by decide +kernel
theorem d1_17 : decode prog_73_method_7_code 17 = .ok (.sipush 128, 3) := by decide +kernel
theorem d1_20 : decode prog_73_method_7_code 20 = .ok (.istore 4, 2) := by decide +kernel
theorem d1_22 : decode prog_73_method_7_code 22 = .ok (.sipush 191, 3) := by decide +kernel
theorem d1_25 : decode prog_73_method_7_code 25 = .ok (.istore 5, 2) := by decide +kernel
theorem d1_27 : decode prog_73_method_7_code 27 = .ok (.iload_n 2, 1) := by decide +kernel
theorem d1_28 : decode prog_73_method_7_code 28 = .ok (.sipush 194, 3) := by decide +kernel
theorem d1_34 : decode prog_73_method_7_code 34 = .ok (.iload_n 2, 1) := by decide +kernel
theorem d1_35 : decode prog_73_method_7_code 35 = .ok (.sipush 223, 3) := by decide +kernel
theorem d1_41 : decode prog_73_method_7_code 41 = .ok (.iconst 2, 1) := by decide +kernel
theorem d1_42 : decode prog_73_method_7_code 42 = .ok (.istore_n 3, 1) := by decide +kernel
theorem d1_43 : decode prog_73_method_7_code 43 = .ok (.goto 97, 3) := by decide +kernel
theorem d1_46 : decode prog_73_method_7_code 46 = .ok (.iload_n 2, 1) := by decide +kernel
theorem d1_47 : decode prog_73_method_7_code 47 = .ok (.sipush 224, 3) := by decide +kernel
theorem d1_53 : decode prog_73_method_7_code 53 = .ok (.iload_n 2, 1) := by decide +kernel
theorem d1_54 : decode prog_73_method_7_code 54 = .ok (.sipush 239, 3) := by decide +kernel
theorem d1_60 : decode prog_73_method_7_code 60 = .ok (.iconst 3, 1) := by decide +kernel
theorem d1_61 : decode prog_73_method_7_code 61 = .ok (.istore_n 3, 1) := by decide +kernel
theorem d1_62 : decode prog_73_method_7_code 62 = .ok (.iload_n 2, 1) := by decide +kernel
theorem d1_63 : decode prog_73_method_7_code 63 = .ok (.sipush 224, 3) := by decide +kernel
theorem d1_69 : decode prog_73_method_7_code 69 = .ok (.sipush 160, 3) := by decide +kernel
theorem d1_72 : decode prog_73_method_7_code 72 = .ok (.istore 4, 2) := by decide +kernel
theorem d1_74 : decode prog_73_method_7_code 74 = .ok (.goto 66, 3) := by decide +kernel
theorem d1_77 : decode prog_73_method_7_code 77 = .ok (.iload_n 2, 1) := by decide +kernel
theorem d1_78 : decode prog_73_method_7_code 78 = .ok (.sipush 237, 3) := by decide +kernel
theorem d1_84 : decode prog_73_method_7_code 84 = .ok (.sipush 159, 3) := by decide +kernel
theorem d1_87 : decode prog_73_method_7_code 87 = .ok (.istore 5, 2) := by decide +kernel
theorem d1_89 : decode prog_73_method_7_code 89 = .ok (.goto 51, 3) := by decide +kernel
theorem d1_92 : decode prog_73_method_7_code 92 = .ok (.iload_n 2, 1) := by decide +kernel
theorem d1_93 : decode prog_73_method_7_code 93 = .ok (.sipush 240, 3) := by decide +kernel
theorem d1_138 : decode prog_73_method_7_code 138 = .ok (.iconst 0, 1) := by decide +kernel
theorem d1_99 : decode prog_73_method_7_code 99 = .ok (.iload_n 2, 1) := by decide +kernel
theorem d1_100 : decode prog_73_method_7_code 100 = .ok (.sipush 244, 3) := by decide +kernel
theorem d1_106 : decode prog_73_method_7_code 106 = .ok (.iconst 4, 1) := by decide +kernel
theorem d1_107 : decode prog_73_method_7_code 107 = .ok (.istore_n 3, 1) := by decide +kernel
theorem d1_108 : decode prog_73_method_7_code 108 = .ok (.iload_n 2, 1) := by decide +kernel
theorem d1_109 : decode prog_73_method_7_code 109 = .ok (.sipush 240, 3) := by decide +kernel
theorem d1_115 : decode prog_73_method_7_code 115 = .ok (.sipush 144, 3) := by decide +kernel
theorem d1_118 : decode prog_73_method_7_code 118 = .ok (.istore 4, 2) := by decide +kernel
theorem d1_120 : decode prog_73_method_7_code 120 = .ok (.goto 20, 3) := by decide +kernel
theorem d1_123 : decode prog_73_method_7_code 123 = .ok (.iload_n 2, 1) := by decide +kernel
theorem d1_124 : decode prog_73_method_7_code 124 = .ok (.sipush 244, 3) := by decide +kernel
theorem d1_130 : decode prog_73_method_7_code 130 = .ok (.sipush 143, 3) := by decide +kernel
theorem d1_133 : decode prog_73_method_7_code 133 = .ok (.istore 5, 2) := by decide +kernel
theorem d1_135 : decode prog_73_method_7_code 135 = .ok (.goto 5, 3) := by decide +kernel
theorem d1_140 : decode prog_73_method_7_code 140 = .ok (.aload_n 0, 1) := by decide +kernel
theorem d1_141 : decode prog_73_method_7_code 141 = .ok (.arraylength, 1) := by decide +kernel
theorem d1_142 : decode prog_73_method_7_code 142 = .ok (.iload_n 1, 1) := by decide +kernel
theorem d1_143 : decode prog_73_method_7_code 143 = .ok (.isub, 1) := by decide +kernel
theorem d1_144 : decode prog_73_method_7_code 144 = .ok (.iload_n 3, 1) := by decide +kernel
theorem d1_148 : decode prog_73_method_7_code 148 = .ok (.iconst 0, 1) := by decide +kernel
theorem d1_145 : decode prog_73_method_7_code 145 = .ok (.if_icmp .ge 5, 3) := by decide +kernel
theorem d1_149 : decode prog_73_method_7_code 149 = .ok (.ireturn, 1) := by decide +kernel
theorem d1_96 : decode prog_73_method_7_code 96 = .ok (.if_icmp .lt 42, 3) := by decide +kernel
theorem d1_139 : decode prog_73_method_7_code 139 = .ok (.ireturn, 1) := by decide +kernel
theorem d1_103 : decode prog_73_method_7_code 103 = .ok (.if_icmp .gt 35, 3) := by decide +kernel
theorem d1_112 : decode prog_73_method_7_code 112 = .ok (.if_icmp .ne 11, 3) := by decide +kernel
theorem d1_127 : decode prog_73_method_7_code 127 = .ok (.if_icmp .ne 13, 3) := by decide +kernel
theorem d1_50 : decode prog_73_method_7_code 50 = .ok (.if_icmp .lt 42, 3) := by decide +kernel
theorem d1_57 : decode prog_73_method_7_code 57 = .ok (.if_icmp .gt 35, 3) := by decide +kernel
theorem d1_66 : decode prog_73_method_7_code 66 = .ok (.if_icmp .ne 11, 3) := by decide +kernel
theorem d1_81 : decode prog_73_method_7_code 81 = .ok (.if_icmp .ne 59, 3) := by decide +kernel
theorem ef1 (m : MethodId) (x0 : Addr) (x1 : Int32) : entryFrame m #[(.ref x0), (.int x1)] 8 = mkF m 0 #[.val (.ref x0), .val (.int x1), .unset, .unset, .unset, .unset, .unset, .unset] [] := by first | (simp [entryFrame, mkF, argsToLocals, Value.category]; done) | rfl
theorem d1_12 : decode prog_73_method_7_code 12 = .ok (.if_icmp .ge 5, 3) := by decide +kernel
theorem d1_16 : decode prog_73_method_7_code 16 = .ok (.ireturn, 1) := by decide +kernel
theorem d1_31 : decode prog_73_method_7_code 31 = .ok (.if_icmp .lt 15, 3) := by decide +kernel
theorem d1_38 : decode prog_73_method_7_code 38 = .ok (.if_icmp .gt 8, 3) := by decide +kernel
theorem pn1 : plainName "com/example/ogma/ogma/canon/Utf8" = true := by first | (simp [plainName, overriddenIn]; done) | decide +kernel
def sl1_140k4 (y140k4_4 : Int32) (y140k4_5 : Int32) : Int32 := (0 : Int32)
def sl1_140k3 (y140k3_4 : Int32) (y140k3_5 : Int32) : Int32 := (0 : Int32)
def sl1_140k2  : Int32 := (0 : Int32)
def sl1_92 (x0 : Int32) : Int32 := if (x0 &&& (255 : Int32)) < (240 : Int32) then ((0 : Int32)) else (if (244 : Int32) < (x0 &&& (255 : Int32)) then ((0 : Int32)) else (if (x0 &&& (255 : Int32)) = (240 : Int32) then (sl1_140k4 (144 : Int32) (191 : Int32)) else (if (x0 &&& (255 : Int32)) = (244 : Int32) then (sl1_140k4 (128 : Int32) (143 : Int32)) else (sl1_140k4 (128 : Int32) (191 : Int32)))))
def sl1_46 (x0 : Int32) : Int32 := if (x0 &&& (255 : Int32)) < (224 : Int32) then (sl1_92 x0) else (if (239 : Int32) < (x0 &&& (255 : Int32)) then (sl1_92 x0) else (if (x0 &&& (255 : Int32)) = (224 : Int32) then (sl1_140k3 (160 : Int32) (191 : Int32)) else (if (x0 &&& (255 : Int32)) = (237 : Int32) then (sl1_140k3 (128 : Int32) (159 : Int32)) else (sl1_140k3 (128 : Int32) (191 : Int32)))))
def sl1 (x0 : Int32) : Int32 := if (x0 &&& (255 : Int32)) < (128 : Int32) then ((1 : Int32)) else (if (x0 &&& (255 : Int32)) < (194 : Int32) then (sl1_46 x0) else (if (223 : Int32) < (x0 &&& (255 : Int32)) then (sl1_46 x0) else (sl1_140k2 )))
set_option maxRecDepth 65536 in
set_option maxHeartbeats 40000000 in
theorem rm1_0_1 (l : Launch) (Z : State) (a0 : Array Value) (hw : ∀ d ∈ tables_1, d.before a0 Z = true) (ws : List Jvm.Cond) (a : Addr) (x0 : Int32) (h0 : Heap) (n0 : Nat) (V : own_AI Z h0 a .byte (1 : Int32) [x0]) :
    own_Met l Z (⟨"com/example/ogma/ogma/canon/Utf8", "sequenceLength", "([BI)I"⟩ : MethodName) prog_73_method_7_code 8 (some .int) ws ({ frames := 0, cells := 0, slots := 0, locals := 0 } : Room) #[(.ref a), (.int (0 : Int32))] h0 (own_PQ (.int (sl1 x0)) h0 n0) := by
  refine own_body (plainFor_of_name pn1) ?_
  intro p e s m below meth c T X hx hby hml hret hlk hZ hown hnm eT
  have J140k4 : ∀ (y140k4_4 : Int32) (y140k4_5 : Int32) (T : State) (locs : List Loc) (X : Stand p l e ({ frames := 0, cells := 0, slots := 0, locals := 0 } : Room) s m #[(.ref a), (.int (0 : Int32))] below meth c T locs 0 0) (eT : T.heap = h0) (N : Fr n0 locs), own_Ends p e below s 0 0 (own_PQ (.int (sl1_140k4 y140k4_4 y140k4_5)) h0 n0) T (mkF m 140 #[.val (.ref a), .val (.int (0 : Int32)), .val (.int (x0 &&& (255 : Int32))), .val (.int (4 : Int32)), .val (.int y140k4_4), .val (.int y140k4_5), .unset, .unset] []) := by
    intro y140k4_4 y140k4_5 T locs X eT N
    unfold sl1_140k4
    refine own_st (T' := T) (F' := (mkF m 141 #[.val (.ref a), .val (.int (0 : Int32)), .val (.int (x0 &&& (255 : Int32))), .val (.int (4 : Int32)), .val (.int y140k4_4), .val (.int y140k4_5), .unset, .unset] [(.ref a)])) (fun _ kq => XS.aloadN X.here hx rfl (hb hby d1_140) rfl rfl kq) ?_
    refine own_st (T' := T) (F' := (mkF m 142 #[.val (.ref a), .val (.int (0 : Int32)), .val (.int (x0 &&& (255 : Int32))), .val (.int (4 : Int32)), .val (.int y140k4_4), .val (.int y140k4_5), .unset, .unset] [(.int (1 : Int32))])) (own_lenI X hx hZ eT V (g := (mkF m 141 #[.val (.ref a), .val (.int (0 : Int32)), .val (.int (x0 &&& (255 : Int32))), .val (.int (4 : Int32)), .val (.int y140k4_4), .val (.int y140k4_5), .unset, .unset] [(.ref a)])) rfl rfl (hb hby d1_141)) ?_
    refine own_st (T' := T) (F' := (mkF m 143 #[.val (.ref a), .val (.int (0 : Int32)), .val (.int (x0 &&& (255 : Int32))), .val (.int (4 : Int32)), .val (.int y140k4_4), .val (.int y140k4_5), .unset, .unset] [(.int (0 : Int32)), (.int (1 : Int32))])) (fun _ kq => XS.iloadN X.here hx rfl (hb hby d1_142) rfl kq) ?_
    refine own_st (T' := T) (F' := (mkF m 144 #[.val (.ref a), .val (.int (0 : Int32)), .val (.int (x0 &&& (255 : Int32))), .val (.int (4 : Int32)), .val (.int y140k4_4), .val (.int y140k4_5), .unset, .unset] [(.int (1 : Int32))])) (fun _ kq => XS.isub X.here hx rfl (hb hby d1_143) rfl kq) ?_
    refine own_st (T' := T) (F' := (mkF m 145 #[.val (.ref a), .val (.int (0 : Int32)), .val (.int (x0 &&& (255 : Int32))), .val (.int (4 : Int32)), .val (.int y140k4_4), .val (.int y140k4_5), .unset, .unset] [(.int (4 : Int32)), (.int (1 : Int32))])) (fun _ kq => XS.iloadN X.here hx rfl (hb hby d1_144) rfl kq) ?_
    refine own_st (T' := T) (F' := (mkF m 148 #[.val (.ref a), .val (.int (0 : Int32)), .val (.int (x0 &&& (255 : Int32))), .val (.int (4 : Int32)), .val (.int y140k4_4), .val (.int y140k4_5), .unset, .unset] [])) (fun _ kq => XS.icmpNo X.here hx rfl (hb hby d1_145) rfl (tlt (by decide : (1 : Int32) < (4 : Int32))).2.1 kq) ?_
    refine own_st (T' := T) (F' := (mkF m 149 #[.val (.ref a), .val (.int (0 : Int32)), .val (.int (x0 &&& (255 : Int32))), .val (.int (4 : Int32)), .val (.int y140k4_4), .val (.int y140k4_5), .unset, .unset] [(.int (0 : Int32))])) (fun _ kq => XS.iconst X.here hx rfl (hb hby d1_148) kq) ?_
    exact own_retI X hx hlk hret (hb hby d1_149) (by decide) (by decide) (own_PQi rfl N eT)
  have J140k3 : ∀ (y140k3_4 : Int32) (y140k3_5 : Int32) (T : State) (locs : List Loc) (X : Stand p l e ({ frames := 0, cells := 0, slots := 0, locals := 0 } : Room) s m #[(.ref a), (.int (0 : Int32))] below meth c T locs 0 0) (eT : T.heap = h0) (N : Fr n0 locs), own_Ends p e below s 0 0 (own_PQ (.int (sl1_140k3 y140k3_4 y140k3_5)) h0 n0) T (mkF m 140 #[.val (.ref a), .val (.int (0 : Int32)), .val (.int (x0 &&& (255 : Int32))), .val (.int (3 : Int32)), .val (.int y140k3_4), .val (.int y140k3_5), .unset, .unset] []) := by
    intro y140k3_4 y140k3_5 T locs X eT N
    unfold sl1_140k3
    refine own_st (T' := T) (F' := (mkF m 141 #[.val (.ref a), .val (.int (0 : Int32)), .val (.int (x0 &&& (255 : Int32))), .val (.int (3 : Int32)), .val (.int y140k3_4), .val (.int y140k3_5), .unset, .unset] [(.ref a)])) (fun _ kq => XS.aloadN X.here hx rfl (hb hby d1_140) rfl rfl kq) ?_
    refine own_st (T' := T) (F' := (mkF m 142 #[.val (.ref a), .val (.int (0 : Int32)), .val (.int (x0 &&& (255 : Int32))), .val (.int (3 : Int32)), .val (.int y140k3_4), .val (.int y140k3_5), .unset, .unset] [(.int (1 : Int32))])) (own_lenI X hx hZ eT V (g := (mkF m 141 #[.val (.ref a), .val (.int (0 : Int32)), .val (.int (x0 &&& (255 : Int32))), .val (.int (3 : Int32)), .val (.int y140k3_4), .val (.int y140k3_5), .unset, .unset] [(.ref a)])) rfl rfl (hb hby d1_141)) ?_
    refine own_st (T' := T) (F' := (mkF m 143 #[.val (.ref a), .val (.int (0 : Int32)), .val (.int (x0 &&& (255 : Int32))), .val (.int (3 : Int32)), .val (.int y140k3_4), .val (.int y140k3_5), .unset, .unset] [(.int (0 : Int32)), (.int (1 : Int32))])) (fun _ kq => XS.iloadN X.here hx rfl (hb hby d1_142) rfl kq) ?_
    refine own_st (T' := T) (F' := (mkF m 144 #[.val (.ref a), .val (.int (0 : Int32)), .val (.int (x0 &&& (255 : Int32))), .val (.int (3 : Int32)), .val (.int y140k3_4), .val (.int y140k3_5), .unset, .unset] [(.int (1 : Int32))])) (fun _ kq => XS.isub X.here hx rfl (hb hby d1_143) rfl kq) ?_
    refine own_st (T' := T) (F' := (mkF m 145 #[.val (.ref a), .val (.int (0 : Int32)), .val (.int (x0 &&& (255 : Int32))), .val (.int (3 : Int32)), .val (.int y140k3_4), .val (.int y140k3_5), .unset, .unset] [(.int (3 : Int32)), (.int (1 : Int32))])) (fun _ kq => XS.iloadN X.here hx rfl (hb hby d1_144) rfl kq) ?_
    refine own_st (T' := T) (F' := (mkF m 148 #[.val (.ref a), .val (.int (0 : Int32)), .val (.int (x0 &&& (255 : Int32))), .val (.int (3 : Int32)), .val (.int y140k3_4), .val (.int y140k3_5), .unset, .unset] [])) (fun _ kq => XS.icmpNo X.here hx rfl (hb hby d1_145) rfl (tlt (by decide : (1 : Int32) < (3 : Int32))).2.1 kq) ?_
    refine own_st (T' := T) (F' := (mkF m 149 #[.val (.ref a), .val (.int (0 : Int32)), .val (.int (x0 &&& (255 : Int32))), .val (.int (3 : Int32)), .val (.int y140k3_4), .val (.int y140k3_5), .unset, .unset] [(.int (0 : Int32))])) (fun _ kq => XS.iconst X.here hx rfl (hb hby d1_148) kq) ?_
    exact own_retI X hx hlk hret (hb hby d1_149) (by decide) (by decide) (own_PQi rfl N eT)
  have J140k2 : ∀ (T : State) (locs : List Loc) (X : Stand p l e ({ frames := 0, cells := 0, slots := 0, locals := 0 } : Room) s m #[(.ref a), (.int (0 : Int32))] below meth c T locs 0 0) (eT : T.heap = h0) (N : Fr n0 locs), own_Ends p e below s 0 0 (own_PQ (.int (sl1_140k2 )) h0 n0) T (mkF m 140 #[.val (.ref a), .val (.int (0 : Int32)), .val (.int (x0 &&& (255 : Int32))), .val (.int (2 : Int32)), .val (.int (128 : Int32)), .val (.int (191 : Int32)), .unset, .unset] []) := by
    intro T locs X eT N
    unfold sl1_140k2
    refine own_st (T' := T) (F' := (mkF m 141 #[.val (.ref a), .val (.int (0 : Int32)), .val (.int (x0 &&& (255 : Int32))), .val (.int (2 : Int32)), .val (.int (128 : Int32)), .val (.int (191 : Int32)), .unset, .unset] [(.ref a)])) (fun _ kq => XS.aloadN X.here hx rfl (hb hby d1_140) rfl rfl kq) ?_
    refine own_st (T' := T) (F' := (mkF m 142 #[.val (.ref a), .val (.int (0 : Int32)), .val (.int (x0 &&& (255 : Int32))), .val (.int (2 : Int32)), .val (.int (128 : Int32)), .val (.int (191 : Int32)), .unset, .unset] [(.int (1 : Int32))])) (own_lenI X hx hZ eT V (g := (mkF m 141 #[.val (.ref a), .val (.int (0 : Int32)), .val (.int (x0 &&& (255 : Int32))), .val (.int (2 : Int32)), .val (.int (128 : Int32)), .val (.int (191 : Int32)), .unset, .unset] [(.ref a)])) rfl rfl (hb hby d1_141)) ?_
    refine own_st (T' := T) (F' := (mkF m 143 #[.val (.ref a), .val (.int (0 : Int32)), .val (.int (x0 &&& (255 : Int32))), .val (.int (2 : Int32)), .val (.int (128 : Int32)), .val (.int (191 : Int32)), .unset, .unset] [(.int (0 : Int32)), (.int (1 : Int32))])) (fun _ kq => XS.iloadN X.here hx rfl (hb hby d1_142) rfl kq) ?_
    refine own_st (T' := T) (F' := (mkF m 144 #[.val (.ref a), .val (.int (0 : Int32)), .val (.int (x0 &&& (255 : Int32))), .val (.int (2 : Int32)), .val (.int (128 : Int32)), .val (.int (191 : Int32)), .unset, .unset] [(.int (1 : Int32))])) (fun _ kq => XS.isub X.here hx rfl (hb hby d1_143) rfl kq) ?_
    refine own_st (T' := T) (F' := (mkF m 145 #[.val (.ref a), .val (.int (0 : Int32)), .val (.int (x0 &&& (255 : Int32))), .val (.int (2 : Int32)), .val (.int (128 : Int32)), .val (.int (191 : Int32)), .unset, .unset] [(.int (2 : Int32)), (.int (1 : Int32))])) (fun _ kq => XS.iloadN X.here hx rfl (hb hby d1_144) rfl kq) ?_
    refine own_st (T' := T) (F' := (mkF m 148 #[.val (.ref a), .val (.int (0 : Int32)), .val (.int (x0 &&& (255 : Int32))), .val (.int (2 : Int32)), .val (.int (128 : Int32)), .val (.int (191 : Int32)), .unset, .unset] [])) (fun _ kq => XS.icmpNo X.here hx rfl (hb hby d1_145) rfl (tlt (by decide : (1 : Int32) < (2 : Int32))).2.1 kq) ?_
    refine own_st (T' := T) (F' := (mkF m 149 #[.val (.ref a), .val (.int (0 : Int32)), .val (.int (x0 &&& (255 : Int32))), .val (.int (2 : Int32)), .val (.int (128 : Int32)), .val (.int (191 : Int32)), .unset, .unset] [(.int (0 : Int32))])) (fun _ kq => XS.iconst X.here hx rfl (hb hby d1_148) kq) ?_
    exact own_retI X hx hlk hret (hb hby d1_149) (by decide) (by decide) (own_PQi rfl N eT)
  have J92 : ∀ (T : State) (locs : List Loc) (X : Stand p l e ({ frames := 0, cells := 0, slots := 0, locals := 0 } : Room) s m #[(.ref a), (.int (0 : Int32))] below meth c T locs 0 0) (eT : T.heap = h0) (N : Fr n0 locs), own_Ends p e below s 0 0 (own_PQ (.int (sl1_92 x0)) h0 n0) T (mkF m 92 #[.val (.ref a), .val (.int (0 : Int32)), .val (.int (x0 &&& (255 : Int32))), .unset, .val (.int (128 : Int32)), .val (.int (191 : Int32)), .unset, .unset] []) := by
    intro T locs X eT N
    unfold sl1_92
    refine own_st (T' := T) (F' := (mkF m 93 #[.val (.ref a), .val (.int (0 : Int32)), .val (.int (x0 &&& (255 : Int32))), .unset, .val (.int (128 : Int32)), .val (.int (191 : Int32)), .unset, .unset] [(.int (x0 &&& (255 : Int32)))])) (fun _ kq => XS.iloadN X.here hx rfl (hb hby d1_92) rfl kq) ?_
    refine own_st (T' := T) (F' := (mkF m 96 #[.val (.ref a), .val (.int (0 : Int32)), .val (.int (x0 &&& (255 : Int32))), .unset, .val (.int (128 : Int32)), .val (.int (191 : Int32)), .unset, .unset] [(.int (240 : Int32)), (.int (x0 &&& (255 : Int32)))])) (fun _ kq => XS.sipush X.here hx rfl (hb hby d1_93) kq) ?_
    by_cases hc96_24 : (x0 &&& (255 : Int32)) < (240 : Int32)
    ·
      rw [if_pos hc96_24]
      refine own_st (T' := T) (F' := (mkF m 138 #[.val (.ref a), .val (.int (0 : Int32)), .val (.int (x0 &&& (255 : Int32))), .unset, .val (.int (128 : Int32)), .val (.int (191 : Int32)), .unset, .unset] [])) (fun _ kq => XS.icmpYes X.here hx rfl (pc0 := 96) (pc' := 138) rfl (hb hby d1_96) rfl (tlt hc96_24).1 (by decide) (by decide) kq) ?_
      refine own_st (T' := T) (F' := (mkF m 139 #[.val (.ref a), .val (.int (0 : Int32)), .val (.int (x0 &&& (255 : Int32))), .unset, .val (.int (128 : Int32)), .val (.int (191 : Int32)), .unset, .unset] [(.int (0 : Int32))])) (fun _ kq => XS.iconst X.here hx rfl (hb hby d1_138) kq) ?_
      exact own_retI X hx hlk hret (hb hby d1_139) (by decide) (by decide) (own_PQi rfl N eT)
    ·
      rw [if_neg hc96_24]
      refine own_st (T' := T) (F' := (mkF m 99 #[.val (.ref a), .val (.int (0 : Int32)), .val (.int (x0 &&& (255 : Int32))), .unset, .val (.int (128 : Int32)), .val (.int (191 : Int32)), .unset, .unset] [])) (fun _ kq => XS.icmpNo X.here hx rfl (hb hby d1_96) rfl (flt hc96_24).1 kq) ?_
      refine own_st (T' := T) (F' := (mkF m 100 #[.val (.ref a), .val (.int (0 : Int32)), .val (.int (x0 &&& (255 : Int32))), .unset, .val (.int (128 : Int32)), .val (.int (191 : Int32)), .unset, .unset] [(.int (x0 &&& (255 : Int32)))])) (fun _ kq => XS.iloadN X.here hx rfl (hb hby d1_99) rfl kq) ?_
      refine own_st (T' := T) (F' := (mkF m 103 #[.val (.ref a), .val (.int (0 : Int32)), .val (.int (x0 &&& (255 : Int32))), .unset, .val (.int (128 : Int32)), .val (.int (191 : Int32)), .unset, .unset] [(.int (244 : Int32)), (.int (x0 &&& (255 : Int32)))])) (fun _ kq => XS.sipush X.here hx rfl (hb hby d1_100) kq) ?_
      by_cases hc103_25 : (244 : Int32) < (x0 &&& (255 : Int32))
      ·
        rw [if_pos hc103_25]
        refine own_st (T' := T) (F' := (mkF m 138 #[.val (.ref a), .val (.int (0 : Int32)), .val (.int (x0 &&& (255 : Int32))), .unset, .val (.int (128 : Int32)), .val (.int (191 : Int32)), .unset, .unset] [])) (fun _ kq => XS.icmpYes X.here hx rfl (pc0 := 103) (pc' := 138) rfl (hb hby d1_103) rfl (tlt hc103_25).2.2.1 (by decide) (by decide) kq) ?_
        refine own_st (T' := T) (F' := (mkF m 139 #[.val (.ref a), .val (.int (0 : Int32)), .val (.int (x0 &&& (255 : Int32))), .unset, .val (.int (128 : Int32)), .val (.int (191 : Int32)), .unset, .unset] [(.int (0 : Int32))])) (fun _ kq => XS.iconst X.here hx rfl (hb hby d1_138) kq) ?_
        exact own_retI X hx hlk hret (hb hby d1_139) (by decide) (by decide) (own_PQi rfl N eT)
      ·
        rw [if_neg hc103_25]
        refine own_st (T' := T) (F' := (mkF m 106 #[.val (.ref a), .val (.int (0 : Int32)), .val (.int (x0 &&& (255 : Int32))), .unset, .val (.int (128 : Int32)), .val (.int (191 : Int32)), .unset, .unset] [])) (fun _ kq => XS.icmpNo X.here hx rfl (hb hby d1_103) rfl (flt hc103_25).2.2.1 kq) ?_
        refine own_st (T' := T) (F' := (mkF m 107 #[.val (.ref a), .val (.int (0 : Int32)), .val (.int (x0 &&& (255 : Int32))), .unset, .val (.int (128 : Int32)), .val (.int (191 : Int32)), .unset, .unset] [(.int (4 : Int32))])) (fun _ kq => XS.iconst X.here hx rfl (hb hby d1_106) kq) ?_
        refine own_st (T' := T) (F' := (mkF m 108 #[.val (.ref a), .val (.int (0 : Int32)), .val (.int (x0 &&& (255 : Int32))), .val (.int (4 : Int32)), .val (.int (128 : Int32)), .val (.int (191 : Int32)), .unset, .unset] [])) (fun _ kq => XS.istoreN X.here hx rfl (hb hby d1_107) rfl (l' := #[.val (.ref a), .val (.int (0 : Int32)), .val (.int (x0 &&& (255 : Int32))), .val (.int (4 : Int32)), .val (.int (128 : Int32)), .val (.int (191 : Int32)), .unset, .unset]) rfl kq) ?_
        refine own_st (T' := T) (F' := (mkF m 109 #[.val (.ref a), .val (.int (0 : Int32)), .val (.int (x0 &&& (255 : Int32))), .val (.int (4 : Int32)), .val (.int (128 : Int32)), .val (.int (191 : Int32)), .unset, .unset] [(.int (x0 &&& (255 : Int32)))])) (fun _ kq => XS.iloadN X.here hx rfl (hb hby d1_108) rfl kq) ?_
        refine own_st (T' := T) (F' := (mkF m 112 #[.val (.ref a), .val (.int (0 : Int32)), .val (.int (x0 &&& (255 : Int32))), .val (.int (4 : Int32)), .val (.int (128 : Int32)), .val (.int (191 : Int32)), .unset, .unset] [(.int (240 : Int32)), (.int (x0 &&& (255 : Int32)))])) (fun _ kq => XS.sipush X.here hx rfl (hb hby d1_109) kq) ?_
        by_cases hc112_26 : (x0 &&& (255 : Int32)) = (240 : Int32)
        ·
          rw [if_pos hc112_26]
          refine own_st (T' := T) (F' := (mkF m 115 #[.val (.ref a), .val (.int (0 : Int32)), .val (.int (x0 &&& (255 : Int32))), .val (.int (4 : Int32)), .val (.int (128 : Int32)), .val (.int (191 : Int32)), .unset, .unset] [])) (fun _ kq => XS.icmpNo X.here hx rfl (hb hby d1_112) rfl (teq hc112_26).2 kq) ?_
          refine own_st (T' := T) (F' := (mkF m 118 #[.val (.ref a), .val (.int (0 : Int32)), .val (.int (x0 &&& (255 : Int32))), .val (.int (4 : Int32)), .val (.int (128 : Int32)), .val (.int (191 : Int32)), .unset, .unset] [(.int (144 : Int32))])) (fun _ kq => XS.sipush X.here hx rfl (hb hby d1_115) kq) ?_
          refine own_st (T' := T) (F' := (mkF m 120 #[.val (.ref a), .val (.int (0 : Int32)), .val (.int (x0 &&& (255 : Int32))), .val (.int (4 : Int32)), .val (.int (144 : Int32)), .val (.int (191 : Int32)), .unset, .unset] [])) (fun _ kq => XS.istore X.here hx rfl (hb hby d1_118) rfl (l' := #[.val (.ref a), .val (.int (0 : Int32)), .val (.int (x0 &&& (255 : Int32))), .val (.int (4 : Int32)), .val (.int (144 : Int32)), .val (.int (191 : Int32)), .unset, .unset]) rfl kq) ?_
          refine own_st (T' := T) (F' := (mkF m 140 #[.val (.ref a), .val (.int (0 : Int32)), .val (.int (x0 &&& (255 : Int32))), .val (.int (4 : Int32)), .val (.int (144 : Int32)), .val (.int (191 : Int32)), .unset, .unset] [])) (fun _ kq => XS.goto X.here hx rfl (pc0 := 120) (pc' := 140) rfl (hb hby d1_120) (by decide) (by decide) kq) ?_
          exact J140k4 (144 : Int32) (191 : Int32) T _ X eT N
        ·
          rw [if_neg hc112_26]
          refine own_st (T' := T) (F' := (mkF m 123 #[.val (.ref a), .val (.int (0 : Int32)), .val (.int (x0 &&& (255 : Int32))), .val (.int (4 : Int32)), .val (.int (128 : Int32)), .val (.int (191 : Int32)), .unset, .unset] [])) (fun _ kq => XS.icmpYes X.here hx rfl (pc0 := 112) (pc' := 123) rfl (hb hby d1_112) rfl (feq hc112_26).2 (by decide) (by decide) kq) ?_
          refine own_st (T' := T) (F' := (mkF m 124 #[.val (.ref a), .val (.int (0 : Int32)), .val (.int (x0 &&& (255 : Int32))), .val (.int (4 : Int32)), .val (.int (128 : Int32)), .val (.int (191 : Int32)), .unset, .unset] [(.int (x0 &&& (255 : Int32)))])) (fun _ kq => XS.iloadN X.here hx rfl (hb hby d1_123) rfl kq) ?_
          refine own_st (T' := T) (F' := (mkF m 127 #[.val (.ref a), .val (.int (0 : Int32)), .val (.int (x0 &&& (255 : Int32))), .val (.int (4 : Int32)), .val (.int (128 : Int32)), .val (.int (191 : Int32)), .unset, .unset] [(.int (244 : Int32)), (.int (x0 &&& (255 : Int32)))])) (fun _ kq => XS.sipush X.here hx rfl (hb hby d1_124) kq) ?_
          by_cases hc127_27 : (x0 &&& (255 : Int32)) = (244 : Int32)
          ·
            rw [if_pos hc127_27]
            refine own_st (T' := T) (F' := (mkF m 130 #[.val (.ref a), .val (.int (0 : Int32)), .val (.int (x0 &&& (255 : Int32))), .val (.int (4 : Int32)), .val (.int (128 : Int32)), .val (.int (191 : Int32)), .unset, .unset] [])) (fun _ kq => XS.icmpNo X.here hx rfl (hb hby d1_127) rfl (teq hc127_27).2 kq) ?_
            refine own_st (T' := T) (F' := (mkF m 133 #[.val (.ref a), .val (.int (0 : Int32)), .val (.int (x0 &&& (255 : Int32))), .val (.int (4 : Int32)), .val (.int (128 : Int32)), .val (.int (191 : Int32)), .unset, .unset] [(.int (143 : Int32))])) (fun _ kq => XS.sipush X.here hx rfl (hb hby d1_130) kq) ?_
            refine own_st (T' := T) (F' := (mkF m 135 #[.val (.ref a), .val (.int (0 : Int32)), .val (.int (x0 &&& (255 : Int32))), .val (.int (4 : Int32)), .val (.int (128 : Int32)), .val (.int (143 : Int32)), .unset, .unset] [])) (fun _ kq => XS.istore X.here hx rfl (hb hby d1_133) rfl (l' := #[.val (.ref a), .val (.int (0 : Int32)), .val (.int (x0 &&& (255 : Int32))), .val (.int (4 : Int32)), .val (.int (128 : Int32)), .val (.int (143 : Int32)), .unset, .unset]) rfl kq) ?_
            refine own_st (T' := T) (F' := (mkF m 140 #[.val (.ref a), .val (.int (0 : Int32)), .val (.int (x0 &&& (255 : Int32))), .val (.int (4 : Int32)), .val (.int (128 : Int32)), .val (.int (143 : Int32)), .unset, .unset] [])) (fun _ kq => XS.goto X.here hx rfl (pc0 := 135) (pc' := 140) rfl (hb hby d1_135) (by decide) (by decide) kq) ?_
            exact J140k4 (128 : Int32) (143 : Int32) T _ X eT N
          ·
            rw [if_neg hc127_27]
            refine own_st (T' := T) (F' := (mkF m 140 #[.val (.ref a), .val (.int (0 : Int32)), .val (.int (x0 &&& (255 : Int32))), .val (.int (4 : Int32)), .val (.int (128 : Int32)), .val (.int (191 : Int32)), .unset, .unset] [])) (fun _ kq => XS.icmpYes X.here hx rfl (pc0 := 127) (pc' := 140) rfl (hb hby d1_127) rfl (feq hc127_27).2 (by decide) (by decide) kq) ?_
            exact J140k4 (128 : Int32) (191 : Int32) T _ X eT N
  have J46 : ∀ (T : State) (locs : List Loc) (X : Stand p l e ({ frames := 0, cells := 0, slots := 0, locals := 0 } : Room) s m #[(.ref a), (.int (0 : Int32))] below meth c T locs 0 0) (eT : T.heap = h0) (N : Fr n0 locs), own_Ends p e below s 0 0 (own_PQ (.int (sl1_46 x0)) h0 n0) T (mkF m 46 #[.val (.ref a), .val (.int (0 : Int32)), .val (.int (x0 &&& (255 : Int32))), .unset, .val (.int (128 : Int32)), .val (.int (191 : Int32)), .unset, .unset] []) := by
    intro T locs X eT N
    unfold sl1_46
    refine own_st (T' := T) (F' := (mkF m 47 #[.val (.ref a), .val (.int (0 : Int32)), .val (.int (x0 &&& (255 : Int32))), .unset, .val (.int (128 : Int32)), .val (.int (191 : Int32)), .unset, .unset] [(.int (x0 &&& (255 : Int32)))])) (fun _ kq => XS.iloadN X.here hx rfl (hb hby d1_46) rfl kq) ?_
    refine own_st (T' := T) (F' := (mkF m 50 #[.val (.ref a), .val (.int (0 : Int32)), .val (.int (x0 &&& (255 : Int32))), .unset, .val (.int (128 : Int32)), .val (.int (191 : Int32)), .unset, .unset] [(.int (224 : Int32)), (.int (x0 &&& (255 : Int32)))])) (fun _ kq => XS.sipush X.here hx rfl (hb hby d1_47) kq) ?_
    by_cases hc50_28 : (x0 &&& (255 : Int32)) < (224 : Int32)
    ·
      rw [if_pos hc50_28]
      refine own_st (T' := T) (F' := (mkF m 92 #[.val (.ref a), .val (.int (0 : Int32)), .val (.int (x0 &&& (255 : Int32))), .unset, .val (.int (128 : Int32)), .val (.int (191 : Int32)), .unset, .unset] [])) (fun _ kq => XS.icmpYes X.here hx rfl (pc0 := 50) (pc' := 92) rfl (hb hby d1_50) rfl (tlt hc50_28).1 (by decide) (by decide) kq) ?_
      exact J92  T _ X eT N
    ·
      rw [if_neg hc50_28]
      refine own_st (T' := T) (F' := (mkF m 53 #[.val (.ref a), .val (.int (0 : Int32)), .val (.int (x0 &&& (255 : Int32))), .unset, .val (.int (128 : Int32)), .val (.int (191 : Int32)), .unset, .unset] [])) (fun _ kq => XS.icmpNo X.here hx rfl (hb hby d1_50) rfl (flt hc50_28).1 kq) ?_
      refine own_st (T' := T) (F' := (mkF m 54 #[.val (.ref a), .val (.int (0 : Int32)), .val (.int (x0 &&& (255 : Int32))), .unset, .val (.int (128 : Int32)), .val (.int (191 : Int32)), .unset, .unset] [(.int (x0 &&& (255 : Int32)))])) (fun _ kq => XS.iloadN X.here hx rfl (hb hby d1_53) rfl kq) ?_
      refine own_st (T' := T) (F' := (mkF m 57 #[.val (.ref a), .val (.int (0 : Int32)), .val (.int (x0 &&& (255 : Int32))), .unset, .val (.int (128 : Int32)), .val (.int (191 : Int32)), .unset, .unset] [(.int (239 : Int32)), (.int (x0 &&& (255 : Int32)))])) (fun _ kq => XS.sipush X.here hx rfl (hb hby d1_54) kq) ?_
      by_cases hc57_29 : (239 : Int32) < (x0 &&& (255 : Int32))
      ·
        rw [if_pos hc57_29]
        refine own_st (T' := T) (F' := (mkF m 92 #[.val (.ref a), .val (.int (0 : Int32)), .val (.int (x0 &&& (255 : Int32))), .unset, .val (.int (128 : Int32)), .val (.int (191 : Int32)), .unset, .unset] [])) (fun _ kq => XS.icmpYes X.here hx rfl (pc0 := 57) (pc' := 92) rfl (hb hby d1_57) rfl (tlt hc57_29).2.2.1 (by decide) (by decide) kq) ?_
        exact J92  T _ X eT N
      ·
        rw [if_neg hc57_29]
        refine own_st (T' := T) (F' := (mkF m 60 #[.val (.ref a), .val (.int (0 : Int32)), .val (.int (x0 &&& (255 : Int32))), .unset, .val (.int (128 : Int32)), .val (.int (191 : Int32)), .unset, .unset] [])) (fun _ kq => XS.icmpNo X.here hx rfl (hb hby d1_57) rfl (flt hc57_29).2.2.1 kq) ?_
        refine own_st (T' := T) (F' := (mkF m 61 #[.val (.ref a), .val (.int (0 : Int32)), .val (.int (x0 &&& (255 : Int32))), .unset, .val (.int (128 : Int32)), .val (.int (191 : Int32)), .unset, .unset] [(.int (3 : Int32))])) (fun _ kq => XS.iconst X.here hx rfl (hb hby d1_60) kq) ?_
        refine own_st (T' := T) (F' := (mkF m 62 #[.val (.ref a), .val (.int (0 : Int32)), .val (.int (x0 &&& (255 : Int32))), .val (.int (3 : Int32)), .val (.int (128 : Int32)), .val (.int (191 : Int32)), .unset, .unset] [])) (fun _ kq => XS.istoreN X.here hx rfl (hb hby d1_61) rfl (l' := #[.val (.ref a), .val (.int (0 : Int32)), .val (.int (x0 &&& (255 : Int32))), .val (.int (3 : Int32)), .val (.int (128 : Int32)), .val (.int (191 : Int32)), .unset, .unset]) rfl kq) ?_
        refine own_st (T' := T) (F' := (mkF m 63 #[.val (.ref a), .val (.int (0 : Int32)), .val (.int (x0 &&& (255 : Int32))), .val (.int (3 : Int32)), .val (.int (128 : Int32)), .val (.int (191 : Int32)), .unset, .unset] [(.int (x0 &&& (255 : Int32)))])) (fun _ kq => XS.iloadN X.here hx rfl (hb hby d1_62) rfl kq) ?_
        refine own_st (T' := T) (F' := (mkF m 66 #[.val (.ref a), .val (.int (0 : Int32)), .val (.int (x0 &&& (255 : Int32))), .val (.int (3 : Int32)), .val (.int (128 : Int32)), .val (.int (191 : Int32)), .unset, .unset] [(.int (224 : Int32)), (.int (x0 &&& (255 : Int32)))])) (fun _ kq => XS.sipush X.here hx rfl (hb hby d1_63) kq) ?_
        by_cases hc66_30 : (x0 &&& (255 : Int32)) = (224 : Int32)
        ·
          rw [if_pos hc66_30]
          refine own_st (T' := T) (F' := (mkF m 69 #[.val (.ref a), .val (.int (0 : Int32)), .val (.int (x0 &&& (255 : Int32))), .val (.int (3 : Int32)), .val (.int (128 : Int32)), .val (.int (191 : Int32)), .unset, .unset] [])) (fun _ kq => XS.icmpNo X.here hx rfl (hb hby d1_66) rfl (teq hc66_30).2 kq) ?_
          refine own_st (T' := T) (F' := (mkF m 72 #[.val (.ref a), .val (.int (0 : Int32)), .val (.int (x0 &&& (255 : Int32))), .val (.int (3 : Int32)), .val (.int (128 : Int32)), .val (.int (191 : Int32)), .unset, .unset] [(.int (160 : Int32))])) (fun _ kq => XS.sipush X.here hx rfl (hb hby d1_69) kq) ?_
          refine own_st (T' := T) (F' := (mkF m 74 #[.val (.ref a), .val (.int (0 : Int32)), .val (.int (x0 &&& (255 : Int32))), .val (.int (3 : Int32)), .val (.int (160 : Int32)), .val (.int (191 : Int32)), .unset, .unset] [])) (fun _ kq => XS.istore X.here hx rfl (hb hby d1_72) rfl (l' := #[.val (.ref a), .val (.int (0 : Int32)), .val (.int (x0 &&& (255 : Int32))), .val (.int (3 : Int32)), .val (.int (160 : Int32)), .val (.int (191 : Int32)), .unset, .unset]) rfl kq) ?_
          refine own_st (T' := T) (F' := (mkF m 140 #[.val (.ref a), .val (.int (0 : Int32)), .val (.int (x0 &&& (255 : Int32))), .val (.int (3 : Int32)), .val (.int (160 : Int32)), .val (.int (191 : Int32)), .unset, .unset] [])) (fun _ kq => XS.goto X.here hx rfl (pc0 := 74) (pc' := 140) rfl (hb hby d1_74) (by decide) (by decide) kq) ?_
          exact J140k3 (160 : Int32) (191 : Int32) T _ X eT N
        ·
          rw [if_neg hc66_30]
          refine own_st (T' := T) (F' := (mkF m 77 #[.val (.ref a), .val (.int (0 : Int32)), .val (.int (x0 &&& (255 : Int32))), .val (.int (3 : Int32)), .val (.int (128 : Int32)), .val (.int (191 : Int32)), .unset, .unset] [])) (fun _ kq => XS.icmpYes X.here hx rfl (pc0 := 66) (pc' := 77) rfl (hb hby d1_66) rfl (feq hc66_30).2 (by decide) (by decide) kq) ?_
          refine own_st (T' := T) (F' := (mkF m 78 #[.val (.ref a), .val (.int (0 : Int32)), .val (.int (x0 &&& (255 : Int32))), .val (.int (3 : Int32)), .val (.int (128 : Int32)), .val (.int (191 : Int32)), .unset, .unset] [(.int (x0 &&& (255 : Int32)))])) (fun _ kq => XS.iloadN X.here hx rfl (hb hby d1_77) rfl kq) ?_
          refine own_st (T' := T) (F' := (mkF m 81 #[.val (.ref a), .val (.int (0 : Int32)), .val (.int (x0 &&& (255 : Int32))), .val (.int (3 : Int32)), .val (.int (128 : Int32)), .val (.int (191 : Int32)), .unset, .unset] [(.int (237 : Int32)), (.int (x0 &&& (255 : Int32)))])) (fun _ kq => XS.sipush X.here hx rfl (hb hby d1_78) kq) ?_
          by_cases hc81_31 : (x0 &&& (255 : Int32)) = (237 : Int32)
          ·
            rw [if_pos hc81_31]
            refine own_st (T' := T) (F' := (mkF m 84 #[.val (.ref a), .val (.int (0 : Int32)), .val (.int (x0 &&& (255 : Int32))), .val (.int (3 : Int32)), .val (.int (128 : Int32)), .val (.int (191 : Int32)), .unset, .unset] [])) (fun _ kq => XS.icmpNo X.here hx rfl (hb hby d1_81) rfl (teq hc81_31).2 kq) ?_
            refine own_st (T' := T) (F' := (mkF m 87 #[.val (.ref a), .val (.int (0 : Int32)), .val (.int (x0 &&& (255 : Int32))), .val (.int (3 : Int32)), .val (.int (128 : Int32)), .val (.int (191 : Int32)), .unset, .unset] [(.int (159 : Int32))])) (fun _ kq => XS.sipush X.here hx rfl (hb hby d1_84) kq) ?_
            refine own_st (T' := T) (F' := (mkF m 89 #[.val (.ref a), .val (.int (0 : Int32)), .val (.int (x0 &&& (255 : Int32))), .val (.int (3 : Int32)), .val (.int (128 : Int32)), .val (.int (159 : Int32)), .unset, .unset] [])) (fun _ kq => XS.istore X.here hx rfl (hb hby d1_87) rfl (l' := #[.val (.ref a), .val (.int (0 : Int32)), .val (.int (x0 &&& (255 : Int32))), .val (.int (3 : Int32)), .val (.int (128 : Int32)), .val (.int (159 : Int32)), .unset, .unset]) rfl kq) ?_
            refine own_st (T' := T) (F' := (mkF m 140 #[.val (.ref a), .val (.int (0 : Int32)), .val (.int (x0 &&& (255 : Int32))), .val (.int (3 : Int32)), .val (.int (128 : Int32)), .val (.int (159 : Int32)), .unset, .unset] [])) (fun _ kq => XS.goto X.here hx rfl (pc0 := 89) (pc' := 140) rfl (hb hby d1_89) (by decide) (by decide) kq) ?_
            exact J140k3 (128 : Int32) (159 : Int32) T _ X eT N
          ·
            rw [if_neg hc81_31]
            refine own_st (T' := T) (F' := (mkF m 140 #[.val (.ref a), .val (.int (0 : Int32)), .val (.int (x0 &&& (255 : Int32))), .val (.int (3 : Int32)), .val (.int (128 : Int32)), .val (.int (191 : Int32)), .unset, .unset] [])) (fun _ kq => XS.icmpYes X.here hx rfl (pc0 := 81) (pc' := 140) rfl (hb hby d1_81) rfl (feq hc81_31).2 (by decide) (by decide) kq) ?_
            exact J140k3 (128 : Int32) (191 : Int32) T _ X eT N
  have N := Fr.nil n0
  refine own_entry (ef1 m a (0 : Int32)) ?_
  unfold sl1
  refine own_st (T' := T) (F' := (mkF m 1 #[.val (.ref a), .val (.int (0 : Int32)), .unset, .unset, .unset, .unset, .unset, .unset] [(.ref a)])) (fun _ kq => XS.aloadN X.here hx rfl (hb hby d1_0) rfl rfl kq) ?_
  refine own_st (T' := T) (F' := (mkF m 2 #[.val (.ref a), .val (.int (0 : Int32)), .unset, .unset, .unset, .unset, .unset, .unset] [(.int (0 : Int32)), (.ref a)])) (fun _ kq => XS.iloadN X.here hx rfl (hb hby d1_1) rfl kq) ?_
  refine own_st (T' := T) (F' := (mkF m 3 #[.val (.ref a), .val (.int (0 : Int32)), .unset, .unset, .unset, .unset, .unset, .unset] [(.int x0)])) (own_baload X hx hZ eT V (g := (mkF m 2 #[.val (.ref a), .val (.int (0 : Int32)), .unset, .unset, .unset, .unset, .unset, .unset] [(.int (0 : Int32)), (.ref a)])) rfl rfl (hb hby d1_2) (by decide) (Nat.le_of_ble_eq_true rfl) (w := x0) rfl) ?_
  refine own_st (T' := T) (F' := (mkF m 6 #[.val (.ref a), .val (.int (0 : Int32)), .unset, .unset, .unset, .unset, .unset, .unset] [(.int (255 : Int32)), (.int x0)])) (fun _ kq => XS.sipush X.here hx rfl (hb hby d1_3) kq) ?_
  refine own_st (T' := T) (F' := (mkF m 7 #[.val (.ref a), .val (.int (0 : Int32)), .unset, .unset, .unset, .unset, .unset, .unset] [(.int (x0 &&& (255 : Int32)))])) (fun _ kq => XS.iand X.here hx rfl (hb hby d1_6) rfl kq) ?_
  refine own_st (T' := T) (F' := (mkF m 8 #[.val (.ref a), .val (.int (0 : Int32)), .val (.int (x0 &&& (255 : Int32))), .unset, .unset, .unset, .unset, .unset] [])) (fun _ kq => XS.istoreN X.here hx rfl (hb hby d1_7) rfl (l' := #[.val (.ref a), .val (.int (0 : Int32)), .val (.int (x0 &&& (255 : Int32))), .unset, .unset, .unset, .unset, .unset]) rfl kq) ?_
  refine own_st (T' := T) (F' := (mkF m 9 #[.val (.ref a), .val (.int (0 : Int32)), .val (.int (x0 &&& (255 : Int32))), .unset, .unset, .unset, .unset, .unset] [(.int (x0 &&& (255 : Int32)))])) (fun _ kq => XS.iloadN X.here hx rfl (hb hby d1_8) rfl kq) ?_
  refine own_st (T' := T) (F' := (mkF m 12 #[.val (.ref a), .val (.int (0 : Int32)), .val (.int (x0 &&& (255 : Int32))), .unset, .unset, .unset, .unset, .unset] [(.int (128 : Int32)), (.int (x0 &&& (255 : Int32)))])) (fun _ kq => XS.sipush X.here hx rfl (hb hby d1_9) kq) ?_
  by_cases hc12_32 : (x0 &&& (255 : Int32)) < (128 : Int32)
  ·
    rw [if_pos hc12_32]
    refine own_st (T' := T) (F' := (mkF m 15 #[.val (.ref a), .val (.int (0 : Int32)), .val (.int (x0 &&& (255 : Int32))), .unset, .unset, .unset, .unset, .unset] [])) (fun _ kq => XS.icmpNo X.here hx rfl (hb hby d1_12) rfl (tlt hc12_32).2.1 kq) ?_
    refine own_st (T' := T) (F' := (mkF m 16 #[.val (.ref a), .val (.int (0 : Int32)), .val (.int (x0 &&& (255 : Int32))), .unset, .unset, .unset, .unset, .unset] [(.int (1 : Int32))])) (fun _ kq => XS.iconst X.here hx rfl (hb hby d1_15) kq) ?_
    exact own_retI X hx hlk hret (hb hby d1_16) (by decide) (by decide) (own_PQi rfl N eT)
  ·
    rw [if_neg hc12_32]
    refine own_st (T' := T) (F' := (mkF m 17 #[.val (.ref a), .val (.int (0 : Int32)), .val (.int (x0 &&& (255 : Int32))), .unset, .unset, .unset, .unset, .unset] [])) (fun _ kq => XS.icmpYes X.here hx rfl (pc0 := 12) (pc' := 17) rfl (hb hby d1_12) rfl (flt hc12_32).2.1 (by decide) (by decide) kq) ?_
    refine own_st (T' := T) (F' := (mkF m 20 #[.val (.ref a), .val (.int (0 : Int32)), .val (.int (x0 &&& (255 : Int32))), .unset, .unset, .unset, .unset, .unset] [(.int (128 : Int32))])) (fun _ kq => XS.sipush X.here hx rfl (hb hby d1_17) kq) ?_
    refine own_st (T' := T) (F' := (mkF m 22 #[.val (.ref a), .val (.int (0 : Int32)), .val (.int (x0 &&& (255 : Int32))), .unset, .val (.int (128 : Int32)), .unset, .unset, .unset] [])) (fun _ kq => XS.istore X.here hx rfl (hb hby d1_20) rfl (l' := #[.val (.ref a), .val (.int (0 : Int32)), .val (.int (x0 &&& (255 : Int32))), .unset, .val (.int (128 : Int32)), .unset, .unset, .unset]) rfl kq) ?_
    refine own_st (T' := T) (F' := (mkF m 25 #[.val (.ref a), .val (.int (0 : Int32)), .val (.int (x0 &&& (255 : Int32))), .unset, .val (.int (128 : Int32)), .unset, .unset, .unset] [(.int (191 : Int32))])) (fun _ kq => XS.sipush X.here hx rfl (hb hby d1_22) kq) ?_
    refine own_st (T' := T) (F' := (mkF m 27 #[.val (.ref a), .val (.int (0 : Int32)), .val (.int (x0 &&& (255 : Int32))), .unset, .val (.int (128 : Int32)), .val (.int (191 : Int32)), .unset, .unset] [])) (fun _ kq => XS.istore X.here hx rfl (hb hby d1_25) rfl (l' := #[.val (.ref a), .val (.int (0 : Int32)), .val (.int (x0 &&& (255 : Int32))), .unset, .val (.int (128 : Int32)), .val (.int (191 : Int32)), .unset, .unset]) rfl kq) ?_
    refine own_st (T' := T) (F' := (mkF m 28 #[.val (.ref a), .val (.int (0 : Int32)), .val (.int (x0 &&& (255 : Int32))), .unset, .val (.int (128 : Int32)), .val (.int (191 : Int32)), .unset, .unset] [(.int (x0 &&& (255 : Int32)))])) (fun _ kq => XS.iloadN X.here hx rfl (hb hby d1_27) rfl kq) ?_
    refine own_st (T' := T) (F' := (mkF m 31 #[.val (.ref a), .val (.int (0 : Int32)), .val (.int (x0 &&& (255 : Int32))), .unset, .val (.int (128 : Int32)), .val (.int (191 : Int32)), .unset, .unset] [(.int (194 : Int32)), (.int (x0 &&& (255 : Int32)))])) (fun _ kq => XS.sipush X.here hx rfl (hb hby d1_28) kq) ?_
    by_cases hc31_33 : (x0 &&& (255 : Int32)) < (194 : Int32)
    ·
      rw [if_pos hc31_33]
      refine own_st (T' := T) (F' := (mkF m 46 #[.val (.ref a), .val (.int (0 : Int32)), .val (.int (x0 &&& (255 : Int32))), .unset, .val (.int (128 : Int32)), .val (.int (191 : Int32)), .unset, .unset] [])) (fun _ kq => XS.icmpYes X.here hx rfl (pc0 := 31) (pc' := 46) rfl (hb hby d1_31) rfl (tlt hc31_33).1 (by decide) (by decide) kq) ?_
      exact J46  T _ X eT N
    ·
      rw [if_neg hc31_33]
      refine own_st (T' := T) (F' := (mkF m 34 #[.val (.ref a), .val (.int (0 : Int32)), .val (.int (x0 &&& (255 : Int32))), .unset, .val (.int (128 : Int32)), .val (.int (191 : Int32)), .unset, .unset] [])) (fun _ kq => XS.icmpNo X.here hx rfl (hb hby d1_31) rfl (flt hc31_33).1 kq) ?_
      refine own_st (T' := T) (F' := (mkF m 35 #[.val (.ref a), .val (.int (0 : Int32)), .val (.int (x0 &&& (255 : Int32))), .unset, .val (.int (128 : Int32)), .val (.int (191 : Int32)), .unset, .unset] [(.int (x0 &&& (255 : Int32)))])) (fun _ kq => XS.iloadN X.here hx rfl (hb hby d1_34) rfl kq) ?_
      refine own_st (T' := T) (F' := (mkF m 38 #[.val (.ref a), .val (.int (0 : Int32)), .val (.int (x0 &&& (255 : Int32))), .unset, .val (.int (128 : Int32)), .val (.int (191 : Int32)), .unset, .unset] [(.int (223 : Int32)), (.int (x0 &&& (255 : Int32)))])) (fun _ kq => XS.sipush X.here hx rfl (hb hby d1_35) kq) ?_
      by_cases hc38_34 : (223 : Int32) < (x0 &&& (255 : Int32))
      ·
        rw [if_pos hc38_34]
        refine own_st (T' := T) (F' := (mkF m 46 #[.val (.ref a), .val (.int (0 : Int32)), .val (.int (x0 &&& (255 : Int32))), .unset, .val (.int (128 : Int32)), .val (.int (191 : Int32)), .unset, .unset] [])) (fun _ kq => XS.icmpYes X.here hx rfl (pc0 := 38) (pc' := 46) rfl (hb hby d1_38) rfl (tlt hc38_34).2.2.1 (by decide) (by decide) kq) ?_
        exact J46  T _ X eT N
      ·
        rw [if_neg hc38_34]
        refine own_st (T' := T) (F' := (mkF m 41 #[.val (.ref a), .val (.int (0 : Int32)), .val (.int (x0 &&& (255 : Int32))), .unset, .val (.int (128 : Int32)), .val (.int (191 : Int32)), .unset, .unset] [])) (fun _ kq => XS.icmpNo X.here hx rfl (hb hby d1_38) rfl (flt hc38_34).2.2.1 kq) ?_
        refine own_st (T' := T) (F' := (mkF m 42 #[.val (.ref a), .val (.int (0 : Int32)), .val (.int (x0 &&& (255 : Int32))), .unset, .val (.int (128 : Int32)), .val (.int (191 : Int32)), .unset, .unset] [(.int (2 : Int32))])) (fun _ kq => XS.iconst X.here hx rfl (hb hby d1_41) kq) ?_
        refine own_st (T' := T) (F' := (mkF m 43 #[.val (.ref a), .val (.int (0 : Int32)), .val (.int (x0 &&& (255 : Int32))), .val (.int (2 : Int32)), .val (.int (128 : Int32)), .val (.int (191 : Int32)), .unset, .unset] [])) (fun _ kq => XS.istoreN X.here hx rfl (hb hby d1_42) rfl (l' := #[.val (.ref a), .val (.int (0 : Int32)), .val (.int (x0 &&& (255 : Int32))), .val (.int (2 : Int32)), .val (.int (128 : Int32)), .val (.int (191 : Int32)), .unset, .unset]) rfl kq) ?_
        refine own_st (T' := T) (F' := (mkF m 140 #[.val (.ref a), .val (.int (0 : Int32)), .val (.int (x0 &&& (255 : Int32))), .val (.int (2 : Int32)), .val (.int (128 : Int32)), .val (.int (191 : Int32)), .unset, .unset] [])) (fun _ kq => XS.goto X.here hx rfl (pc0 := 43) (pc' := 140) rfl (hb hby d1_43) (by decide) (by decide) kq) ?_
        exact J140k2  T _ X eT N
theorem d1_150 : decode prog_73_method_7_code 150 = .ok (.aload_n 0, 1) := by decide +kernel
theorem d1_151 : decode prog_73_method_7_code 151 = .ok (.iload_n 1, 1) := by decide +kernel
theorem d1_152 : decode prog_73_method_7_code 152 = .ok (.iconst 1, 1) := by decide +kernel
theorem d1_153 : decode prog_73_method_7_code 153 = .ok (.iadd, 1) := by decide +kernel
theorem d1_154 : decode prog_73_method_7_code 154 = .ok (.baload, 1) := by decide +kernel
theorem d1_155 : decode prog_73_method_7_code 155 = .ok (.sipush 255, 3) := by decide +kernel
theorem d1_158 : decode prog_73_method_7_code 158 = .ok (.iand, 1) := by decide +kernel
theorem d1_159 : decode prog_73_method_7_code 159 = .ok (.istore 6, 2) := by decide +kernel
theorem d1_161 : decode prog_73_method_7_code 161 = .ok (.iload 6, 2) := by decide +kernel
theorem d1_163 : decode prog_73_method_7_code 163 = .ok (.iload 4, 2) := by decide +kernel
theorem d1_175 : decode prog_73_method_7_code 175 = .ok (.iconst 0, 1) := by decide +kernel
theorem d1_168 : decode prog_73_method_7_code 168 = .ok (.iload 6, 2) := by decide +kernel
theorem d1_170 : decode prog_73_method_7_code 170 = .ok (.iload 5, 2) := by decide +kernel
theorem d1_177 : decode prog_73_method_7_code 177 = .ok (.iconst 2, 1) := by decide +kernel
theorem d1_178 : decode prog_73_method_7_code 178 = .ok (.istore 7, 2) := by decide +kernel
theorem d1_180 : decode prog_73_method_7_code 180 = .ok (.iload 7, 2) := by decide +kernel
theorem d1_182 : decode prog_73_method_7_code 182 = .ok (.iload_n 3, 1) := by decide +kernel
theorem d1_210 : decode prog_73_method_7_code 210 = .ok (.iload_n 3, 1) := by decide +kernel
theorem d1_165 : decode prog_73_method_7_code 165 = .ok (.if_icmp .lt 10, 3) := by decide +kernel
theorem d1_176 : decode prog_73_method_7_code 176 = .ok (.ireturn, 1) := by decide +kernel
theorem d1_172 : decode prog_73_method_7_code 172 = .ok (.if_icmp .le 5, 3) := by decide +kernel
theorem d1_183 : decode prog_73_method_7_code 183 = .ok (.if_icmp .ge 27, 3) := by decide +kernel
theorem d1_211 : decode prog_73_method_7_code 211 = .ok (.ireturn, 1) := by decide +kernel
def sl2_140k4 (y140k4_4 : Int32) (y140k4_5 : Int32) : Int32 := (0 : Int32)
def sl2_140k3 (y140k3_4 : Int32) (y140k3_5 : Int32) : Int32 := (0 : Int32)
def sl2_140k2 (x1 : Int32) : Int32 := if (x1 &&& (255 : Int32)) < (128 : Int32) then ((0 : Int32)) else (if (191 : Int32) < (x1 &&& (255 : Int32)) then ((0 : Int32)) else ((2 : Int32)))
def sl2_92 (x0 : Int32) : Int32 := if (x0 &&& (255 : Int32)) < (240 : Int32) then ((0 : Int32)) else (if (244 : Int32) < (x0 &&& (255 : Int32)) then ((0 : Int32)) else (if (x0 &&& (255 : Int32)) = (240 : Int32) then (sl2_140k4 (144 : Int32) (191 : Int32)) else (if (x0 &&& (255 : Int32)) = (244 : Int32) then (sl2_140k4 (128 : Int32) (143 : Int32)) else (sl2_140k4 (128 : Int32) (191 : Int32)))))
def sl2_46 (x0 : Int32) : Int32 := if (x0 &&& (255 : Int32)) < (224 : Int32) then (sl2_92 x0) else (if (239 : Int32) < (x0 &&& (255 : Int32)) then (sl2_92 x0) else (if (x0 &&& (255 : Int32)) = (224 : Int32) then (sl2_140k3 (160 : Int32) (191 : Int32)) else (if (x0 &&& (255 : Int32)) = (237 : Int32) then (sl2_140k3 (128 : Int32) (159 : Int32)) else (sl2_140k3 (128 : Int32) (191 : Int32)))))
def sl2 (x0 : Int32) (x1 : Int32) : Int32 := if (x0 &&& (255 : Int32)) < (128 : Int32) then ((1 : Int32)) else (if (x0 &&& (255 : Int32)) < (194 : Int32) then (sl2_46 x0) else (if (223 : Int32) < (x0 &&& (255 : Int32)) then (sl2_46 x0) else (sl2_140k2 x1)))
set_option maxRecDepth 65536 in
set_option maxHeartbeats 40000000 in
theorem rm1_0_2 (l : Launch) (Z : State) (a0 : Array Value) (hw : ∀ d ∈ tables_1, d.before a0 Z = true) (ws : List Jvm.Cond) (a : Addr) (x0 : Int32) (x1 : Int32) (h0 : Heap) (n0 : Nat) (V : own_AI Z h0 a .byte (2 : Int32) [x0, x1]) :
    own_Met l Z (⟨"com/example/ogma/ogma/canon/Utf8", "sequenceLength", "([BI)I"⟩ : MethodName) prog_73_method_7_code 8 (some .int) ws ({ frames := 0, cells := 0, slots := 0, locals := 0 } : Room) #[(.ref a), (.int (0 : Int32))] h0 (own_PQ (.int (sl2 x0 x1)) h0 n0) := by
  refine own_body (plainFor_of_name pn1) ?_
  intro p e s m below meth c T X hx hby hml hret hlk hZ hown hnm eT
  have J140k4 : ∀ (y140k4_4 : Int32) (y140k4_5 : Int32) (T : State) (locs : List Loc) (X : Stand p l e ({ frames := 0, cells := 0, slots := 0, locals := 0 } : Room) s m #[(.ref a), (.int (0 : Int32))] below meth c T locs 0 0) (eT : T.heap = h0) (N : Fr n0 locs), own_Ends p e below s 0 0 (own_PQ (.int (sl2_140k4 y140k4_4 y140k4_5)) h0 n0) T (mkF m 140 #[.val (.ref a), .val (.int (0 : Int32)), .val (.int (x0 &&& (255 : Int32))), .val (.int (4 : Int32)), .val (.int y140k4_4), .val (.int y140k4_5), .unset, .unset] []) := by
    intro y140k4_4 y140k4_5 T locs X eT N
    unfold sl2_140k4
    refine own_st (T' := T) (F' := (mkF m 141 #[.val (.ref a), .val (.int (0 : Int32)), .val (.int (x0 &&& (255 : Int32))), .val (.int (4 : Int32)), .val (.int y140k4_4), .val (.int y140k4_5), .unset, .unset] [(.ref a)])) (fun _ kq => XS.aloadN X.here hx rfl (hb hby d1_140) rfl rfl kq) ?_
    refine own_st (T' := T) (F' := (mkF m 142 #[.val (.ref a), .val (.int (0 : Int32)), .val (.int (x0 &&& (255 : Int32))), .val (.int (4 : Int32)), .val (.int y140k4_4), .val (.int y140k4_5), .unset, .unset] [(.int (2 : Int32))])) (own_lenI X hx hZ eT V (g := (mkF m 141 #[.val (.ref a), .val (.int (0 : Int32)), .val (.int (x0 &&& (255 : Int32))), .val (.int (4 : Int32)), .val (.int y140k4_4), .val (.int y140k4_5), .unset, .unset] [(.ref a)])) rfl rfl (hb hby d1_141)) ?_
    refine own_st (T' := T) (F' := (mkF m 143 #[.val (.ref a), .val (.int (0 : Int32)), .val (.int (x0 &&& (255 : Int32))), .val (.int (4 : Int32)), .val (.int y140k4_4), .val (.int y140k4_5), .unset, .unset] [(.int (0 : Int32)), (.int (2 : Int32))])) (fun _ kq => XS.iloadN X.here hx rfl (hb hby d1_142) rfl kq) ?_
    refine own_st (T' := T) (F' := (mkF m 144 #[.val (.ref a), .val (.int (0 : Int32)), .val (.int (x0 &&& (255 : Int32))), .val (.int (4 : Int32)), .val (.int y140k4_4), .val (.int y140k4_5), .unset, .unset] [(.int (2 : Int32))])) (fun _ kq => XS.isub X.here hx rfl (hb hby d1_143) rfl kq) ?_
    refine own_st (T' := T) (F' := (mkF m 145 #[.val (.ref a), .val (.int (0 : Int32)), .val (.int (x0 &&& (255 : Int32))), .val (.int (4 : Int32)), .val (.int y140k4_4), .val (.int y140k4_5), .unset, .unset] [(.int (4 : Int32)), (.int (2 : Int32))])) (fun _ kq => XS.iloadN X.here hx rfl (hb hby d1_144) rfl kq) ?_
    refine own_st (T' := T) (F' := (mkF m 148 #[.val (.ref a), .val (.int (0 : Int32)), .val (.int (x0 &&& (255 : Int32))), .val (.int (4 : Int32)), .val (.int y140k4_4), .val (.int y140k4_5), .unset, .unset] [])) (fun _ kq => XS.icmpNo X.here hx rfl (hb hby d1_145) rfl (tlt (by decide : (2 : Int32) < (4 : Int32))).2.1 kq) ?_
    refine own_st (T' := T) (F' := (mkF m 149 #[.val (.ref a), .val (.int (0 : Int32)), .val (.int (x0 &&& (255 : Int32))), .val (.int (4 : Int32)), .val (.int y140k4_4), .val (.int y140k4_5), .unset, .unset] [(.int (0 : Int32))])) (fun _ kq => XS.iconst X.here hx rfl (hb hby d1_148) kq) ?_
    exact own_retI X hx hlk hret (hb hby d1_149) (by decide) (by decide) (own_PQi rfl N eT)
  have J140k3 : ∀ (y140k3_4 : Int32) (y140k3_5 : Int32) (T : State) (locs : List Loc) (X : Stand p l e ({ frames := 0, cells := 0, slots := 0, locals := 0 } : Room) s m #[(.ref a), (.int (0 : Int32))] below meth c T locs 0 0) (eT : T.heap = h0) (N : Fr n0 locs), own_Ends p e below s 0 0 (own_PQ (.int (sl2_140k3 y140k3_4 y140k3_5)) h0 n0) T (mkF m 140 #[.val (.ref a), .val (.int (0 : Int32)), .val (.int (x0 &&& (255 : Int32))), .val (.int (3 : Int32)), .val (.int y140k3_4), .val (.int y140k3_5), .unset, .unset] []) := by
    intro y140k3_4 y140k3_5 T locs X eT N
    unfold sl2_140k3
    refine own_st (T' := T) (F' := (mkF m 141 #[.val (.ref a), .val (.int (0 : Int32)), .val (.int (x0 &&& (255 : Int32))), .val (.int (3 : Int32)), .val (.int y140k3_4), .val (.int y140k3_5), .unset, .unset] [(.ref a)])) (fun _ kq => XS.aloadN X.here hx rfl (hb hby d1_140) rfl rfl kq) ?_
    refine own_st (T' := T) (F' := (mkF m 142 #[.val (.ref a), .val (.int (0 : Int32)), .val (.int (x0 &&& (255 : Int32))), .val (.int (3 : Int32)), .val (.int y140k3_4), .val (.int y140k3_5), .unset, .unset] [(.int (2 : Int32))])) (own_lenI X hx hZ eT V (g := (mkF m 141 #[.val (.ref a), .val (.int (0 : Int32)), .val (.int (x0 &&& (255 : Int32))), .val (.int (3 : Int32)), .val (.int y140k3_4), .val (.int y140k3_5), .unset, .unset] [(.ref a)])) rfl rfl (hb hby d1_141)) ?_
    refine own_st (T' := T) (F' := (mkF m 143 #[.val (.ref a), .val (.int (0 : Int32)), .val (.int (x0 &&& (255 : Int32))), .val (.int (3 : Int32)), .val (.int y140k3_4), .val (.int y140k3_5), .unset, .unset] [(.int (0 : Int32)), (.int (2 : Int32))])) (fun _ kq => XS.iloadN X.here hx rfl (hb hby d1_142) rfl kq) ?_
    refine own_st (T' := T) (F' := (mkF m 144 #[.val (.ref a), .val (.int (0 : Int32)), .val (.int (x0 &&& (255 : Int32))), .val (.int (3 : Int32)), .val (.int y140k3_4), .val (.int y140k3_5), .unset, .unset] [(.int (2 : Int32))])) (fun _ kq => XS.isub X.here hx rfl (hb hby d1_143) rfl kq) ?_
    refine own_st (T' := T) (F' := (mkF m 145 #[.val (.ref a), .val (.int (0 : Int32)), .val (.int (x0 &&& (255 : Int32))), .val (.int (3 : Int32)), .val (.int y140k3_4), .val (.int y140k3_5), .unset, .unset] [(.int (3 : Int32)), (.int (2 : Int32))])) (fun _ kq => XS.iloadN X.here hx rfl (hb hby d1_144) rfl kq) ?_
    refine own_st (T' := T) (F' := (mkF m 148 #[.val (.ref a), .val (.int (0 : Int32)), .val (.int (x0 &&& (255 : Int32))), .val (.int (3 : Int32)), .val (.int y140k3_4), .val (.int y140k3_5), .unset, .unset] [])) (fun _ kq => XS.icmpNo X.here hx rfl (hb hby d1_145) rfl (tlt (by decide : (2 : Int32) < (3 : Int32))).2.1 kq) ?_
    refine own_st (T' := T) (F' := (mkF m 149 #[.val (.ref a), .val (.int (0 : Int32)), .val (.int (x0 &&& (255 : Int32))), .val (.int (3 : Int32)), .val (.int y140k3_4), .val (.int y140k3_5), .unset, .unset] [(.int (0 : Int32))])) (fun _ kq => XS.iconst X.here hx rfl (hb hby d1_148) kq) ?_
    exact own_retI X hx hlk hret (hb hby d1_149) (by decide) (by decide) (own_PQi rfl N eT)
  have J140k2 : ∀ (T : State) (locs : List Loc) (X : Stand p l e ({ frames := 0, cells := 0, slots := 0, locals := 0 } : Room) s m #[(.ref a), (.int (0 : Int32))] below meth c T locs 0 0) (eT : T.heap = h0) (N : Fr n0 locs), own_Ends p e below s 0 0 (own_PQ (.int (sl2_140k2 x1)) h0 n0) T (mkF m 140 #[.val (.ref a), .val (.int (0 : Int32)), .val (.int (x0 &&& (255 : Int32))), .val (.int (2 : Int32)), .val (.int (128 : Int32)), .val (.int (191 : Int32)), .unset, .unset] []) := by
    intro T locs X eT N
    unfold sl2_140k2
    refine own_st (T' := T) (F' := (mkF m 141 #[.val (.ref a), .val (.int (0 : Int32)), .val (.int (x0 &&& (255 : Int32))), .val (.int (2 : Int32)), .val (.int (128 : Int32)), .val (.int (191 : Int32)), .unset, .unset] [(.ref a)])) (fun _ kq => XS.aloadN X.here hx rfl (hb hby d1_140) rfl rfl kq) ?_
    refine own_st (T' := T) (F' := (mkF m 142 #[.val (.ref a), .val (.int (0 : Int32)), .val (.int (x0 &&& (255 : Int32))), .val (.int (2 : Int32)), .val (.int (128 : Int32)), .val (.int (191 : Int32)), .unset, .unset] [(.int (2 : Int32))])) (own_lenI X hx hZ eT V (g := (mkF m 141 #[.val (.ref a), .val (.int (0 : Int32)), .val (.int (x0 &&& (255 : Int32))), .val (.int (2 : Int32)), .val (.int (128 : Int32)), .val (.int (191 : Int32)), .unset, .unset] [(.ref a)])) rfl rfl (hb hby d1_141)) ?_
    refine own_st (T' := T) (F' := (mkF m 143 #[.val (.ref a), .val (.int (0 : Int32)), .val (.int (x0 &&& (255 : Int32))), .val (.int (2 : Int32)), .val (.int (128 : Int32)), .val (.int (191 : Int32)), .unset, .unset] [(.int (0 : Int32)), (.int (2 : Int32))])) (fun _ kq => XS.iloadN X.here hx rfl (hb hby d1_142) rfl kq) ?_
    refine own_st (T' := T) (F' := (mkF m 144 #[.val (.ref a), .val (.int (0 : Int32)), .val (.int (x0 &&& (255 : Int32))), .val (.int (2 : Int32)), .val (.int (128 : Int32)), .val (.int (191 : Int32)), .unset, .unset] [(.int (2 : Int32))])) (fun _ kq => XS.isub X.here hx rfl (hb hby d1_143) rfl kq) ?_
    refine own_st (T' := T) (F' := (mkF m 145 #[.val (.ref a), .val (.int (0 : Int32)), .val (.int (x0 &&& (255 : Int32))), .val (.int (2 : Int32)), .val (.int (128 : Int32)), .val (.int (191 : Int32)), .unset, .unset] [(.int (2 : Int32)), (.int (2 : Int32))])) (fun _ kq => XS.iloadN X.here hx rfl (hb hby d1_144) rfl kq) ?_
    refine own_st (T' := T) (F' := (mkF m 150 #[.val (.ref a), .val (.int (0 : Int32)), .val (.int (x0 &&& (255 : Int32))), .val (.int (2 : Int32)), .val (.int (128 : Int32)), .val (.int (191 : Int32)), .unset, .unset] [])) (fun _ kq => XS.icmpYes X.here hx rfl (pc0 := 145) (pc' := 150) rfl (hb hby d1_145) rfl (flt (by decide : ¬ ((2 : Int32) < (2 : Int32)))).2.1 (by decide) (by decide) kq) ?_
    refine own_st (T' := T) (F' := (mkF m 151 #[.val (.ref a), .val (.int (0 : Int32)), .val (.int (x0 &&& (255 : Int32))), .val (.int (2 : Int32)), .val (.int (128 : Int32)), .val (.int (191 : Int32)), .unset, .unset] [(.ref a)])) (fun _ kq => XS.aloadN X.here hx rfl (hb hby d1_150) rfl rfl kq) ?_
    refine own_st (T' := T) (F' := (mkF m 152 #[.val (.ref a), .val (.int (0 : Int32)), .val (.int (x0 &&& (255 : Int32))), .val (.int (2 : Int32)), .val (.int (128 : Int32)), .val (.int (191 : Int32)), .unset, .unset] [(.int (0 : Int32)), (.ref a)])) (fun _ kq => XS.iloadN X.here hx rfl (hb hby d1_151) rfl kq) ?_
    refine own_st (T' := T) (F' := (mkF m 153 #[.val (.ref a), .val (.int (0 : Int32)), .val (.int (x0 &&& (255 : Int32))), .val (.int (2 : Int32)), .val (.int (128 : Int32)), .val (.int (191 : Int32)), .unset, .unset] [(.int (1 : Int32)), (.int (0 : Int32)), (.ref a)])) (fun _ kq => XS.iconst X.here hx rfl (hb hby d1_152) kq) ?_
    refine own_st (T' := T) (F' := (mkF m 154 #[.val (.ref a), .val (.int (0 : Int32)), .val (.int (x0 &&& (255 : Int32))), .val (.int (2 : Int32)), .val (.int (128 : Int32)), .val (.int (191 : Int32)), .unset, .unset] [(.int (1 : Int32)), (.ref a)])) (fun _ kq => XS.iadd X.here hx rfl (hb hby d1_153) rfl kq) ?_
    refine own_st (T' := T) (F' := (mkF m 155 #[.val (.ref a), .val (.int (0 : Int32)), .val (.int (x0 &&& (255 : Int32))), .val (.int (2 : Int32)), .val (.int (128 : Int32)), .val (.int (191 : Int32)), .unset, .unset] [(.int x1)])) (own_baload X hx hZ eT V (g := (mkF m 154 #[.val (.ref a), .val (.int (0 : Int32)), .val (.int (x0 &&& (255 : Int32))), .val (.int (2 : Int32)), .val (.int (128 : Int32)), .val (.int (191 : Int32)), .unset, .unset] [(.int (1 : Int32)), (.ref a)])) rfl rfl (hb hby d1_154) (by decide) (Nat.le_of_ble_eq_true rfl) (w := x1) rfl) ?_
    refine own_st (T' := T) (F' := (mkF m 158 #[.val (.ref a), .val (.int (0 : Int32)), .val (.int (x0 &&& (255 : Int32))), .val (.int (2 : Int32)), .val (.int (128 : Int32)), .val (.int (191 : Int32)), .unset, .unset] [(.int (255 : Int32)), (.int x1)])) (fun _ kq => XS.sipush X.here hx rfl (hb hby d1_155) kq) ?_
    refine own_st (T' := T) (F' := (mkF m 159 #[.val (.ref a), .val (.int (0 : Int32)), .val (.int (x0 &&& (255 : Int32))), .val (.int (2 : Int32)), .val (.int (128 : Int32)), .val (.int (191 : Int32)), .unset, .unset] [(.int (x1 &&& (255 : Int32)))])) (fun _ kq => XS.iand X.here hx rfl (hb hby d1_158) rfl kq) ?_
    refine own_st (T' := T) (F' := (mkF m 161 #[.val (.ref a), .val (.int (0 : Int32)), .val (.int (x0 &&& (255 : Int32))), .val (.int (2 : Int32)), .val (.int (128 : Int32)), .val (.int (191 : Int32)), .val (.int (x1 &&& (255 : Int32))), .unset] [])) (fun _ kq => XS.istore X.here hx rfl (hb hby d1_159) rfl (l' := #[.val (.ref a), .val (.int (0 : Int32)), .val (.int (x0 &&& (255 : Int32))), .val (.int (2 : Int32)), .val (.int (128 : Int32)), .val (.int (191 : Int32)), .val (.int (x1 &&& (255 : Int32))), .unset]) rfl kq) ?_
    refine own_st (T' := T) (F' := (mkF m 163 #[.val (.ref a), .val (.int (0 : Int32)), .val (.int (x0 &&& (255 : Int32))), .val (.int (2 : Int32)), .val (.int (128 : Int32)), .val (.int (191 : Int32)), .val (.int (x1 &&& (255 : Int32))), .unset] [(.int (x1 &&& (255 : Int32)))])) (fun _ kq => XS.iload X.here hx rfl (hb hby d1_161) rfl kq) ?_
    refine own_st (T' := T) (F' := (mkF m 165 #[.val (.ref a), .val (.int (0 : Int32)), .val (.int (x0 &&& (255 : Int32))), .val (.int (2 : Int32)), .val (.int (128 : Int32)), .val (.int (191 : Int32)), .val (.int (x1 &&& (255 : Int32))), .unset] [(.int (128 : Int32)), (.int (x1 &&& (255 : Int32)))])) (fun _ kq => XS.iload X.here hx rfl (hb hby d1_163) rfl kq) ?_
    by_cases hc165_35 : (x1 &&& (255 : Int32)) < (128 : Int32)
    ·
      rw [if_pos hc165_35]
      refine own_st (T' := T) (F' := (mkF m 175 #[.val (.ref a), .val (.int (0 : Int32)), .val (.int (x0 &&& (255 : Int32))), .val (.int (2 : Int32)), .val (.int (128 : Int32)), .val (.int (191 : Int32)), .val (.int (x1 &&& (255 : Int32))), .unset] [])) (fun _ kq => XS.icmpYes X.here hx rfl (pc0 := 165) (pc' := 175) rfl (hb hby d1_165) rfl (tlt hc165_35).1 (by decide) (by decide) kq) ?_
      refine own_st (T' := T) (F' := (mkF m 176 #[.val (.ref a), .val (.int (0 : Int32)), .val (.int (x0 &&& (255 : Int32))), .val (.int (2 : Int32)), .val (.int (128 : Int32)), .val (.int (191 : Int32)), .val (.int (x1 &&& (255 : Int32))), .unset] [(.int (0 : Int32))])) (fun _ kq => XS.iconst X.here hx rfl (hb hby d1_175) kq) ?_
      exact own_retI X hx hlk hret (hb hby d1_176) (by decide) (by decide) (own_PQi rfl N eT)
    ·
      rw [if_neg hc165_35]
      refine own_st (T' := T) (F' := (mkF m 168 #[.val (.ref a), .val (.int (0 : Int32)), .val (.int (x0 &&& (255 : Int32))), .val (.int (2 : Int32)), .val (.int (128 : Int32)), .val (.int (191 : Int32)), .val (.int (x1 &&& (255 : Int32))), .unset] [])) (fun _ kq => XS.icmpNo X.here hx rfl (hb hby d1_165) rfl (flt hc165_35).1 kq) ?_
      refine own_st (T' := T) (F' := (mkF m 170 #[.val (.ref a), .val (.int (0 : Int32)), .val (.int (x0 &&& (255 : Int32))), .val (.int (2 : Int32)), .val (.int (128 : Int32)), .val (.int (191 : Int32)), .val (.int (x1 &&& (255 : Int32))), .unset] [(.int (x1 &&& (255 : Int32)))])) (fun _ kq => XS.iload X.here hx rfl (hb hby d1_168) rfl kq) ?_
      refine own_st (T' := T) (F' := (mkF m 172 #[.val (.ref a), .val (.int (0 : Int32)), .val (.int (x0 &&& (255 : Int32))), .val (.int (2 : Int32)), .val (.int (128 : Int32)), .val (.int (191 : Int32)), .val (.int (x1 &&& (255 : Int32))), .unset] [(.int (191 : Int32)), (.int (x1 &&& (255 : Int32)))])) (fun _ kq => XS.iload X.here hx rfl (hb hby d1_170) rfl kq) ?_
      by_cases hc172_36 : (191 : Int32) < (x1 &&& (255 : Int32))
      ·
        rw [if_pos hc172_36]
        refine own_st (T' := T) (F' := (mkF m 175 #[.val (.ref a), .val (.int (0 : Int32)), .val (.int (x0 &&& (255 : Int32))), .val (.int (2 : Int32)), .val (.int (128 : Int32)), .val (.int (191 : Int32)), .val (.int (x1 &&& (255 : Int32))), .unset] [])) (fun _ kq => XS.icmpNo X.here hx rfl (hb hby d1_172) rfl (tlt hc172_36).2.2.2 kq) ?_
        refine own_st (T' := T) (F' := (mkF m 176 #[.val (.ref a), .val (.int (0 : Int32)), .val (.int (x0 &&& (255 : Int32))), .val (.int (2 : Int32)), .val (.int (128 : Int32)), .val (.int (191 : Int32)), .val (.int (x1 &&& (255 : Int32))), .unset] [(.int (0 : Int32))])) (fun _ kq => XS.iconst X.here hx rfl (hb hby d1_175) kq) ?_
        exact own_retI X hx hlk hret (hb hby d1_176) (by decide) (by decide) (own_PQi rfl N eT)
      ·
        rw [if_neg hc172_36]
        refine own_st (T' := T) (F' := (mkF m 177 #[.val (.ref a), .val (.int (0 : Int32)), .val (.int (x0 &&& (255 : Int32))), .val (.int (2 : Int32)), .val (.int (128 : Int32)), .val (.int (191 : Int32)), .val (.int (x1 &&& (255 : Int32))), .unset] [])) (fun _ kq => XS.icmpYes X.here hx rfl (pc0 := 172) (pc' := 177) rfl (hb hby d1_172) rfl (flt hc172_36).2.2.2 (by decide) (by decide) kq) ?_
        refine own_st (T' := T) (F' := (mkF m 178 #[.val (.ref a), .val (.int (0 : Int32)), .val (.int (x0 &&& (255 : Int32))), .val (.int (2 : Int32)), .val (.int (128 : Int32)), .val (.int (191 : Int32)), .val (.int (x1 &&& (255 : Int32))), .unset] [(.int (2 : Int32))])) (fun _ kq => XS.iconst X.here hx rfl (hb hby d1_177) kq) ?_
        refine own_st (T' := T) (F' := (mkF m 180 #[.val (.ref a), .val (.int (0 : Int32)), .val (.int (x0 &&& (255 : Int32))), .val (.int (2 : Int32)), .val (.int (128 : Int32)), .val (.int (191 : Int32)), .val (.int (x1 &&& (255 : Int32))), .val (.int (2 : Int32))] [])) (fun _ kq => XS.istore X.here hx rfl (hb hby d1_178) rfl (l' := #[.val (.ref a), .val (.int (0 : Int32)), .val (.int (x0 &&& (255 : Int32))), .val (.int (2 : Int32)), .val (.int (128 : Int32)), .val (.int (191 : Int32)), .val (.int (x1 &&& (255 : Int32))), .val (.int (2 : Int32))]) rfl kq) ?_
        refine own_st (T' := T) (F' := (mkF m 182 #[.val (.ref a), .val (.int (0 : Int32)), .val (.int (x0 &&& (255 : Int32))), .val (.int (2 : Int32)), .val (.int (128 : Int32)), .val (.int (191 : Int32)), .val (.int (x1 &&& (255 : Int32))), .val (.int (2 : Int32))] [(.int (2 : Int32))])) (fun _ kq => XS.iload X.here hx rfl (hb hby d1_180) rfl kq) ?_
        refine own_st (T' := T) (F' := (mkF m 183 #[.val (.ref a), .val (.int (0 : Int32)), .val (.int (x0 &&& (255 : Int32))), .val (.int (2 : Int32)), .val (.int (128 : Int32)), .val (.int (191 : Int32)), .val (.int (x1 &&& (255 : Int32))), .val (.int (2 : Int32))] [(.int (2 : Int32)), (.int (2 : Int32))])) (fun _ kq => XS.iloadN X.here hx rfl (hb hby d1_182) rfl kq) ?_
        refine own_st (T' := T) (F' := (mkF m 210 #[.val (.ref a), .val (.int (0 : Int32)), .val (.int (x0 &&& (255 : Int32))), .val (.int (2 : Int32)), .val (.int (128 : Int32)), .val (.int (191 : Int32)), .val (.int (x1 &&& (255 : Int32))), .val (.int (2 : Int32))] [])) (fun _ kq => XS.icmpYes X.here hx rfl (pc0 := 183) (pc' := 210) rfl (hb hby d1_183) rfl (flt (by decide : ¬ ((2 : Int32) < (2 : Int32)))).2.1 (by decide) (by decide) kq) ?_
        refine own_st (T' := T) (F' := (mkF m 211 #[.val (.ref a), .val (.int (0 : Int32)), .val (.int (x0 &&& (255 : Int32))), .val (.int (2 : Int32)), .val (.int (128 : Int32)), .val (.int (191 : Int32)), .val (.int (x1 &&& (255 : Int32))), .val (.int (2 : Int32))] [(.int (2 : Int32))])) (fun _ kq => XS.iloadN X.here hx rfl (hb hby d1_210) rfl kq) ?_
        exact own_retI X hx hlk hret (hb hby d1_211) (by decide) (by decide) (own_PQi rfl N eT)
  have J92 : ∀ (T : State) (locs : List Loc) (X : Stand p l e ({ frames := 0, cells := 0, slots := 0, locals := 0 } : Room) s m #[(.ref a), (.int (0 : Int32))] below meth c T locs 0 0) (eT : T.heap = h0) (N : Fr n0 locs), own_Ends p e below s 0 0 (own_PQ (.int (sl2_92 x0)) h0 n0) T (mkF m 92 #[.val (.ref a), .val (.int (0 : Int32)), .val (.int (x0 &&& (255 : Int32))), .unset, .val (.int (128 : Int32)), .val (.int (191 : Int32)), .unset, .unset] []) := by
    intro T locs X eT N
    unfold sl2_92
    refine own_st (T' := T) (F' := (mkF m 93 #[.val (.ref a), .val (.int (0 : Int32)), .val (.int (x0 &&& (255 : Int32))), .unset, .val (.int (128 : Int32)), .val (.int (191 : Int32)), .unset, .unset] [(.int (x0 &&& (255 : Int32)))])) (fun _ kq => XS.iloadN X.here hx rfl (hb hby d1_92) rfl kq) ?_
    refine own_st (T' := T) (F' := (mkF m 96 #[.val (.ref a), .val (.int (0 : Int32)), .val (.int (x0 &&& (255 : Int32))), .unset, .val (.int (128 : Int32)), .val (.int (191 : Int32)), .unset, .unset] [(.int (240 : Int32)), (.int (x0 &&& (255 : Int32)))])) (fun _ kq => XS.sipush X.here hx rfl (hb hby d1_93) kq) ?_
    by_cases hc96_37 : (x0 &&& (255 : Int32)) < (240 : Int32)
    ·
      rw [if_pos hc96_37]
      refine own_st (T' := T) (F' := (mkF m 138 #[.val (.ref a), .val (.int (0 : Int32)), .val (.int (x0 &&& (255 : Int32))), .unset, .val (.int (128 : Int32)), .val (.int (191 : Int32)), .unset, .unset] [])) (fun _ kq => XS.icmpYes X.here hx rfl (pc0 := 96) (pc' := 138) rfl (hb hby d1_96) rfl (tlt hc96_37).1 (by decide) (by decide) kq) ?_
      refine own_st (T' := T) (F' := (mkF m 139 #[.val (.ref a), .val (.int (0 : Int32)), .val (.int (x0 &&& (255 : Int32))), .unset, .val (.int (128 : Int32)), .val (.int (191 : Int32)), .unset, .unset] [(.int (0 : Int32))])) (fun _ kq => XS.iconst X.here hx rfl (hb hby d1_138) kq) ?_
      exact own_retI X hx hlk hret (hb hby d1_139) (by decide) (by decide) (own_PQi rfl N eT)
    ·
      rw [if_neg hc96_37]
      refine own_st (T' := T) (F' := (mkF m 99 #[.val (.ref a), .val (.int (0 : Int32)), .val (.int (x0 &&& (255 : Int32))), .unset, .val (.int (128 : Int32)), .val (.int (191 : Int32)), .unset, .unset] [])) (fun _ kq => XS.icmpNo X.here hx rfl (hb hby d1_96) rfl (flt hc96_37).1 kq) ?_
      refine own_st (T' := T) (F' := (mkF m 100 #[.val (.ref a), .val (.int (0 : Int32)), .val (.int (x0 &&& (255 : Int32))), .unset, .val (.int (128 : Int32)), .val (.int (191 : Int32)), .unset, .unset] [(.int (x0 &&& (255 : Int32)))])) (fun _ kq => XS.iloadN X.here hx rfl (hb hby d1_99) rfl kq) ?_
      refine own_st (T' := T) (F' := (mkF m 103 #[.val (.ref a), .val (.int (0 : Int32)), .val (.int (x0 &&& (255 : Int32))), .unset, .val (.int (128 : Int32)), .val (.int (191 : Int32)), .unset, .unset] [(.int (244 : Int32)), (.int (x0 &&& (255 : Int32)))])) (fun _ kq => XS.sipush X.here hx rfl (hb hby d1_100) kq) ?_
      by_cases hc103_38 : (244 : Int32) < (x0 &&& (255 : Int32))
      ·
        rw [if_pos hc103_38]
        refine own_st (T' := T) (F' := (mkF m 138 #[.val (.ref a), .val (.int (0 : Int32)), .val (.int (x0 &&& (255 : Int32))), .unset, .val (.int (128 : Int32)), .val (.int (191 : Int32)), .unset, .unset] [])) (fun _ kq => XS.icmpYes X.here hx rfl (pc0 := 103) (pc' := 138) rfl (hb hby d1_103) rfl (tlt hc103_38).2.2.1 (by decide) (by decide) kq) ?_
        refine own_st (T' := T) (F' := (mkF m 139 #[.val (.ref a), .val (.int (0 : Int32)), .val (.int (x0 &&& (255 : Int32))), .unset, .val (.int (128 : Int32)), .val (.int (191 : Int32)), .unset, .unset] [(.int (0 : Int32))])) (fun _ kq => XS.iconst X.here hx rfl (hb hby d1_138) kq) ?_
        exact own_retI X hx hlk hret (hb hby d1_139) (by decide) (by decide) (own_PQi rfl N eT)
      ·
        rw [if_neg hc103_38]
        refine own_st (T' := T) (F' := (mkF m 106 #[.val (.ref a), .val (.int (0 : Int32)), .val (.int (x0 &&& (255 : Int32))), .unset, .val (.int (128 : Int32)), .val (.int (191 : Int32)), .unset, .unset] [])) (fun _ kq => XS.icmpNo X.here hx rfl (hb hby d1_103) rfl (flt hc103_38).2.2.1 kq) ?_
        refine own_st (T' := T) (F' := (mkF m 107 #[.val (.ref a), .val (.int (0 : Int32)), .val (.int (x0 &&& (255 : Int32))), .unset, .val (.int (128 : Int32)), .val (.int (191 : Int32)), .unset, .unset] [(.int (4 : Int32))])) (fun _ kq => XS.iconst X.here hx rfl (hb hby d1_106) kq) ?_
        refine own_st (T' := T) (F' := (mkF m 108 #[.val (.ref a), .val (.int (0 : Int32)), .val (.int (x0 &&& (255 : Int32))), .val (.int (4 : Int32)), .val (.int (128 : Int32)), .val (.int (191 : Int32)), .unset, .unset] [])) (fun _ kq => XS.istoreN X.here hx rfl (hb hby d1_107) rfl (l' := #[.val (.ref a), .val (.int (0 : Int32)), .val (.int (x0 &&& (255 : Int32))), .val (.int (4 : Int32)), .val (.int (128 : Int32)), .val (.int (191 : Int32)), .unset, .unset]) rfl kq) ?_
        refine own_st (T' := T) (F' := (mkF m 109 #[.val (.ref a), .val (.int (0 : Int32)), .val (.int (x0 &&& (255 : Int32))), .val (.int (4 : Int32)), .val (.int (128 : Int32)), .val (.int (191 : Int32)), .unset, .unset] [(.int (x0 &&& (255 : Int32)))])) (fun _ kq => XS.iloadN X.here hx rfl (hb hby d1_108) rfl kq) ?_
        refine own_st (T' := T) (F' := (mkF m 112 #[.val (.ref a), .val (.int (0 : Int32)), .val (.int (x0 &&& (255 : Int32))), .val (.int (4 : Int32)), .val (.int (128 : Int32)), .val (.int (191 : Int32)), .unset, .unset] [(.int (240 : Int32)), (.int (x0 &&& (255 : Int32)))])) (fun _ kq => XS.sipush X.here hx rfl (hb hby d1_109) kq) ?_
        by_cases hc112_39 : (x0 &&& (255 : Int32)) = (240 : Int32)
        ·
          rw [if_pos hc112_39]
          refine own_st (T' := T) (F' := (mkF m 115 #[.val (.ref a), .val (.int (0 : Int32)), .val (.int (x0 &&& (255 : Int32))), .val (.int (4 : Int32)), .val (.int (128 : Int32)), .val (.int (191 : Int32)), .unset, .unset] [])) (fun _ kq => XS.icmpNo X.here hx rfl (hb hby d1_112) rfl (teq hc112_39).2 kq) ?_
          refine own_st (T' := T) (F' := (mkF m 118 #[.val (.ref a), .val (.int (0 : Int32)), .val (.int (x0 &&& (255 : Int32))), .val (.int (4 : Int32)), .val (.int (128 : Int32)), .val (.int (191 : Int32)), .unset, .unset] [(.int (144 : Int32))])) (fun _ kq => XS.sipush X.here hx rfl (hb hby d1_115) kq) ?_
          refine own_st (T' := T) (F' := (mkF m 120 #[.val (.ref a), .val (.int (0 : Int32)), .val (.int (x0 &&& (255 : Int32))), .val (.int (4 : Int32)), .val (.int (144 : Int32)), .val (.int (191 : Int32)), .unset, .unset] [])) (fun _ kq => XS.istore X.here hx rfl (hb hby d1_118) rfl (l' := #[.val (.ref a), .val (.int (0 : Int32)), .val (.int (x0 &&& (255 : Int32))), .val (.int (4 : Int32)), .val (.int (144 : Int32)), .val (.int (191 : Int32)), .unset, .unset]) rfl kq) ?_
          refine own_st (T' := T) (F' := (mkF m 140 #[.val (.ref a), .val (.int (0 : Int32)), .val (.int (x0 &&& (255 : Int32))), .val (.int (4 : Int32)), .val (.int (144 : Int32)), .val (.int (191 : Int32)), .unset, .unset] [])) (fun _ kq => XS.goto X.here hx rfl (pc0 := 120) (pc' := 140) rfl (hb hby d1_120) (by decide) (by decide) kq) ?_
          exact J140k4 (144 : Int32) (191 : Int32) T _ X eT N
        ·
          rw [if_neg hc112_39]
          refine own_st (T' := T) (F' := (mkF m 123 #[.val (.ref a), .val (.int (0 : Int32)), .val (.int (x0 &&& (255 : Int32))), .val (.int (4 : Int32)), .val (.int (128 : Int32)), .val (.int (191 : Int32)), .unset, .unset] [])) (fun _ kq => XS.icmpYes X.here hx rfl (pc0 := 112) (pc' := 123) rfl (hb hby d1_112) rfl (feq hc112_39).2 (by decide) (by decide) kq) ?_
          refine own_st (T' := T) (F' := (mkF m 124 #[.val (.ref a), .val (.int (0 : Int32)), .val (.int (x0 &&& (255 : Int32))), .val (.int (4 : Int32)), .val (.int (128 : Int32)), .val (.int (191 : Int32)), .unset, .unset] [(.int (x0 &&& (255 : Int32)))])) (fun _ kq => XS.iloadN X.here hx rfl (hb hby d1_123) rfl kq) ?_
          refine own_st (T' := T) (F' := (mkF m 127 #[.val (.ref a), .val (.int (0 : Int32)), .val (.int (x0 &&& (255 : Int32))), .val (.int (4 : Int32)), .val (.int (128 : Int32)), .val (.int (191 : Int32)), .unset, .unset] [(.int (244 : Int32)), (.int (x0 &&& (255 : Int32)))])) (fun _ kq => XS.sipush X.here hx rfl (hb hby d1_124) kq) ?_
          by_cases hc127_40 : (x0 &&& (255 : Int32)) = (244 : Int32)
          ·
            rw [if_pos hc127_40]
            refine own_st (T' := T) (F' := (mkF m 130 #[.val (.ref a), .val (.int (0 : Int32)), .val (.int (x0 &&& (255 : Int32))), .val (.int (4 : Int32)), .val (.int (128 : Int32)), .val (.int (191 : Int32)), .unset, .unset] [])) (fun _ kq => XS.icmpNo X.here hx rfl (hb hby d1_127) rfl (teq hc127_40).2 kq) ?_
            refine own_st (T' := T) (F' := (mkF m 133 #[.val (.ref a), .val (.int (0 : Int32)), .val (.int (x0 &&& (255 : Int32))), .val (.int (4 : Int32)), .val (.int (128 : Int32)), .val (.int (191 : Int32)), .unset, .unset] [(.int (143 : Int32))])) (fun _ kq => XS.sipush X.here hx rfl (hb hby d1_130) kq) ?_
            refine own_st (T' := T) (F' := (mkF m 135 #[.val (.ref a), .val (.int (0 : Int32)), .val (.int (x0 &&& (255 : Int32))), .val (.int (4 : Int32)), .val (.int (128 : Int32)), .val (.int (143 : Int32)), .unset, .unset] [])) (fun _ kq => XS.istore X.here hx rfl (hb hby d1_133) rfl (l' := #[.val (.ref a), .val (.int (0 : Int32)), .val (.int (x0 &&& (255 : Int32))), .val (.int (4 : Int32)), .val (.int (128 : Int32)), .val (.int (143 : Int32)), .unset, .unset]) rfl kq) ?_
            refine own_st (T' := T) (F' := (mkF m 140 #[.val (.ref a), .val (.int (0 : Int32)), .val (.int (x0 &&& (255 : Int32))), .val (.int (4 : Int32)), .val (.int (128 : Int32)), .val (.int (143 : Int32)), .unset, .unset] [])) (fun _ kq => XS.goto X.here hx rfl (pc0 := 135) (pc' := 140) rfl (hb hby d1_135) (by decide) (by decide) kq) ?_
            exact J140k4 (128 : Int32) (143 : Int32) T _ X eT N
          ·
            rw [if_neg hc127_40]
            refine own_st (T' := T) (F' := (mkF m 140 #[.val (.ref a), .val (.int (0 : Int32)), .val (.int (x0 &&& (255 : Int32))), .val (.int (4 : Int32)), .val (.int (128 : Int32)), .val (.int (191 : Int32)), .unset, .unset] [])) (fun _ kq => XS.icmpYes X.here hx rfl (pc0 := 127) (pc' := 140) rfl (hb hby d1_127) rfl (feq hc127_40).2 (by decide) (by decide) kq) ?_
            exact J140k4 (128 : Int32) (191 : Int32) T _ X eT N
  have J46 : ∀ (T : State) (locs : List Loc) (X : Stand p l e ({ frames := 0, cells := 0, slots := 0, locals := 0 } : Room) s m #[(.ref a), (.int (0 : Int32))] below meth c T locs 0 0) (eT : T.heap = h0) (N : Fr n0 locs), own_Ends p e below s 0 0 (own_PQ (.int (sl2_46 x0)) h0 n0) T (mkF m 46 #[.val (.ref a), .val (.int (0 : Int32)), .val (.int (x0 &&& (255 : Int32))), .unset, .val (.int (128 : Int32)), .val (.int (191 : Int32)), .unset, .unset] []) := by
    intro T locs X eT N
    unfold sl2_46
    refine own_st (T' := T) (F' := (mkF m 47 #[.val (.ref a), .val (.int (0 : Int32)), .val (.int (x0 &&& (255 : Int32))), .unset, .val (.int (128 : Int32)), .val (.int (191 : Int32)), .unset, .unset] [(.int (x0 &&& (255 : Int32)))])) (fun _ kq => XS.iloadN X.here hx rfl (hb hby d1_46) rfl kq) ?_
    refine own_st (T' := T) (F' := (mkF m 50 #[.val (.ref a), .val (.int (0 : Int32)), .val (.int (x0 &&& (255 : Int32))), .unset, .val (.int (128 : Int32)), .val (.int (191 : Int32)), .unset, .unset] [(.int (224 : Int32)), (.int (x0 &&& (255 : Int32)))])) (fun _ kq => XS.sipush X.here hx rfl (hb hby d1_47) kq) ?_
    by_cases hc50_41 : (x0 &&& (255 : Int32)) < (224 : Int32)
    ·
      rw [if_pos hc50_41]
      refine own_st (T' := T) (F' := (mkF m 92 #[.val (.ref a), .val (.int (0 : Int32)), .val (.int (x0 &&& (255 : Int32))), .unset, .val (.int (128 : Int32)), .val (.int (191 : Int32)), .unset, .unset] [])) (fun _ kq => XS.icmpYes X.here hx rfl (pc0 := 50) (pc' := 92) rfl (hb hby d1_50) rfl (tlt hc50_41).1 (by decide) (by decide) kq) ?_
      exact J92  T _ X eT N
    ·
      rw [if_neg hc50_41]
      refine own_st (T' := T) (F' := (mkF m 53 #[.val (.ref a), .val (.int (0 : Int32)), .val (.int (x0 &&& (255 : Int32))), .unset, .val (.int (128 : Int32)), .val (.int (191 : Int32)), .unset, .unset] [])) (fun _ kq => XS.icmpNo X.here hx rfl (hb hby d1_50) rfl (flt hc50_41).1 kq) ?_
      refine own_st (T' := T) (F' := (mkF m 54 #[.val (.ref a), .val (.int (0 : Int32)), .val (.int (x0 &&& (255 : Int32))), .unset, .val (.int (128 : Int32)), .val (.int (191 : Int32)), .unset, .unset] [(.int (x0 &&& (255 : Int32)))])) (fun _ kq => XS.iloadN X.here hx rfl (hb hby d1_53) rfl kq) ?_
      refine own_st (T' := T) (F' := (mkF m 57 #[.val (.ref a), .val (.int (0 : Int32)), .val (.int (x0 &&& (255 : Int32))), .unset, .val (.int (128 : Int32)), .val (.int (191 : Int32)), .unset, .unset] [(.int (239 : Int32)), (.int (x0 &&& (255 : Int32)))])) (fun _ kq => XS.sipush X.here hx rfl (hb hby d1_54) kq) ?_
      by_cases hc57_42 : (239 : Int32) < (x0 &&& (255 : Int32))
      ·
        rw [if_pos hc57_42]
        refine own_st (T' := T) (F' := (mkF m 92 #[.val (.ref a), .val (.int (0 : Int32)), .val (.int (x0 &&& (255 : Int32))), .unset, .val (.int (128 : Int32)), .val (.int (191 : Int32)), .unset, .unset] [])) (fun _ kq => XS.icmpYes X.here hx rfl (pc0 := 57) (pc' := 92) rfl (hb hby d1_57) rfl (tlt hc57_42).2.2.1 (by decide) (by decide) kq) ?_
        exact J92  T _ X eT N
      ·
        rw [if_neg hc57_42]
        refine own_st (T' := T) (F' := (mkF m 60 #[.val (.ref a), .val (.int (0 : Int32)), .val (.int (x0 &&& (255 : Int32))), .unset, .val (.int (128 : Int32)), .val (.int (191 : Int32)), .unset, .unset] [])) (fun _ kq => XS.icmpNo X.here hx rfl (hb hby d1_57) rfl (flt hc57_42).2.2.1 kq) ?_
        refine own_st (T' := T) (F' := (mkF m 61 #[.val (.ref a), .val (.int (0 : Int32)), .val (.int (x0 &&& (255 : Int32))), .unset, .val (.int (128 : Int32)), .val (.int (191 : Int32)), .unset, .unset] [(.int (3 : Int32))])) (fun _ kq => XS.iconst X.here hx rfl (hb hby d1_60) kq) ?_
        refine own_st (T' := T) (F' := (mkF m 62 #[.val (.ref a), .val (.int (0 : Int32)), .val (.int (x0 &&& (255 : Int32))), .val (.int (3 : Int32)), .val (.int (128 : Int32)), .val (.int (191 : Int32)), .unset, .unset] [])) (fun _ kq => XS.istoreN X.here hx rfl (hb hby d1_61) rfl (l' := #[.val (.ref a), .val (.int (0 : Int32)), .val (.int (x0 &&& (255 : Int32))), .val (.int (3 : Int32)), .val (.int (128 : Int32)), .val (.int (191 : Int32)), .unset, .unset]) rfl kq) ?_
        refine own_st (T' := T) (F' := (mkF m 63 #[.val (.ref a), .val (.int (0 : Int32)), .val (.int (x0 &&& (255 : Int32))), .val (.int (3 : Int32)), .val (.int (128 : Int32)), .val (.int (191 : Int32)), .unset, .unset] [(.int (x0 &&& (255 : Int32)))])) (fun _ kq => XS.iloadN X.here hx rfl (hb hby d1_62) rfl kq) ?_
        refine own_st (T' := T) (F' := (mkF m 66 #[.val (.ref a), .val (.int (0 : Int32)), .val (.int (x0 &&& (255 : Int32))), .val (.int (3 : Int32)), .val (.int (128 : Int32)), .val (.int (191 : Int32)), .unset, .unset] [(.int (224 : Int32)), (.int (x0 &&& (255 : Int32)))])) (fun _ kq => XS.sipush X.here hx rfl (hb hby d1_63) kq) ?_
        by_cases hc66_43 : (x0 &&& (255 : Int32)) = (224 : Int32)
        ·
          rw [if_pos hc66_43]
          refine own_st (T' := T) (F' := (mkF m 69 #[.val (.ref a), .val (.int (0 : Int32)), .val (.int (x0 &&& (255 : Int32))), .val (.int (3 : Int32)), .val (.int (128 : Int32)), .val (.int (191 : Int32)), .unset, .unset] [])) (fun _ kq => XS.icmpNo X.here hx rfl (hb hby d1_66) rfl (teq hc66_43).2 kq) ?_
          refine own_st (T' := T) (F' := (mkF m 72 #[.val (.ref a), .val (.int (0 : Int32)), .val (.int (x0 &&& (255 : Int32))), .val (.int (3 : Int32)), .val (.int (128 : Int32)), .val (.int (191 : Int32)), .unset, .unset] [(.int (160 : Int32))])) (fun _ kq => XS.sipush X.here hx rfl (hb hby d1_69) kq) ?_
          refine own_st (T' := T) (F' := (mkF m 74 #[.val (.ref a), .val (.int (0 : Int32)), .val (.int (x0 &&& (255 : Int32))), .val (.int (3 : Int32)), .val (.int (160 : Int32)), .val (.int (191 : Int32)), .unset, .unset] [])) (fun _ kq => XS.istore X.here hx rfl (hb hby d1_72) rfl (l' := #[.val (.ref a), .val (.int (0 : Int32)), .val (.int (x0 &&& (255 : Int32))), .val (.int (3 : Int32)), .val (.int (160 : Int32)), .val (.int (191 : Int32)), .unset, .unset]) rfl kq) ?_
          refine own_st (T' := T) (F' := (mkF m 140 #[.val (.ref a), .val (.int (0 : Int32)), .val (.int (x0 &&& (255 : Int32))), .val (.int (3 : Int32)), .val (.int (160 : Int32)), .val (.int (191 : Int32)), .unset, .unset] [])) (fun _ kq => XS.goto X.here hx rfl (pc0 := 74) (pc' := 140) rfl (hb hby d1_74) (by decide) (by decide) kq) ?_
          exact J140k3 (160 : Int32) (191 : Int32) T _ X eT N
        ·
          rw [if_neg hc66_43]
          refine own_st (T' := T) (F' := (mkF m 77 #[.val (.ref a), .val (.int (0 : Int32)), .val (.int (x0 &&& (255 : Int32))), .val (.int (3 : Int32)), .val (.int (128 : Int32)), .val (.int (191 : Int32)), .unset, .unset] [])) (fun _ kq => XS.icmpYes X.here hx rfl (pc0 := 66) (pc' := 77) rfl (hb hby d1_66) rfl (feq hc66_43).2 (by decide) (by decide) kq) ?_
          refine own_st (T' := T) (F' := (mkF m 78 #[.val (.ref a), .val (.int (0 : Int32)), .val (.int (x0 &&& (255 : Int32))), .val (.int (3 : Int32)), .val (.int (128 : Int32)), .val (.int (191 : Int32)), .unset, .unset] [(.int (x0 &&& (255 : Int32)))])) (fun _ kq => XS.iloadN X.here hx rfl (hb hby d1_77) rfl kq) ?_
          refine own_st (T' := T) (F' := (mkF m 81 #[.val (.ref a), .val (.int (0 : Int32)), .val (.int (x0 &&& (255 : Int32))), .val (.int (3 : Int32)), .val (.int (128 : Int32)), .val (.int (191 : Int32)), .unset, .unset] [(.int (237 : Int32)), (.int (x0 &&& (255 : Int32)))])) (fun _ kq => XS.sipush X.here hx rfl (hb hby d1_78) kq) ?_
          by_cases hc81_44 : (x0 &&& (255 : Int32)) = (237 : Int32)
          ·
            rw [if_pos hc81_44]
            refine own_st (T' := T) (F' := (mkF m 84 #[.val (.ref a), .val (.int (0 : Int32)), .val (.int (x0 &&& (255 : Int32))), .val (.int (3 : Int32)), .val (.int (128 : Int32)), .val (.int (191 : Int32)), .unset, .unset] [])) (fun _ kq => XS.icmpNo X.here hx rfl (hb hby d1_81) rfl (teq hc81_44).2 kq) ?_
            refine own_st (T' := T) (F' := (mkF m 87 #[.val (.ref a), .val (.int (0 : Int32)), .val (.int (x0 &&& (255 : Int32))), .val (.int (3 : Int32)), .val (.int (128 : Int32)), .val (.int (191 : Int32)), .unset, .unset] [(.int (159 : Int32))])) (fun _ kq => XS.sipush X.here hx rfl (hb hby d1_84) kq) ?_
            refine own_st (T' := T) (F' := (mkF m 89 #[.val (.ref a), .val (.int (0 : Int32)), .val (.int (x0 &&& (255 : Int32))), .val (.int (3 : Int32)), .val (.int (128 : Int32)), .val (.int (159 : Int32)), .unset, .unset] [])) (fun _ kq => XS.istore X.here hx rfl (hb hby d1_87) rfl (l' := #[.val (.ref a), .val (.int (0 : Int32)), .val (.int (x0 &&& (255 : Int32))), .val (.int (3 : Int32)), .val (.int (128 : Int32)), .val (.int (159 : Int32)), .unset, .unset]) rfl kq) ?_
            refine own_st (T' := T) (F' := (mkF m 140 #[.val (.ref a), .val (.int (0 : Int32)), .val (.int (x0 &&& (255 : Int32))), .val (.int (3 : Int32)), .val (.int (128 : Int32)), .val (.int (159 : Int32)), .unset, .unset] [])) (fun _ kq => XS.goto X.here hx rfl (pc0 := 89) (pc' := 140) rfl (hb hby d1_89) (by decide) (by decide) kq) ?_
            exact J140k3 (128 : Int32) (159 : Int32) T _ X eT N
          ·
            rw [if_neg hc81_44]
            refine own_st (T' := T) (F' := (mkF m 140 #[.val (.ref a), .val (.int (0 : Int32)), .val (.int (x0 &&& (255 : Int32))), .val (.int (3 : Int32)), .val (.int (128 : Int32)), .val (.int (191 : Int32)), .unset, .unset] [])) (fun _ kq => XS.icmpYes X.here hx rfl (pc0 := 81) (pc' := 140) rfl (hb hby d1_81) rfl (feq hc81_44).2 (by decide) (by decide) kq) ?_
            exact J140k3 (128 : Int32) (191 : Int32) T _ X eT N
  have N := Fr.nil n0
  refine own_entry (ef1 m a (0 : Int32)) ?_
  unfold sl2
  refine own_st (T' := T) (F' := (mkF m 1 #[.val (.ref a), .val (.int (0 : Int32)), .unset, .unset, .unset, .unset, .unset, .unset] [(.ref a)])) (fun _ kq => XS.aloadN X.here hx rfl (hb hby d1_0) rfl rfl kq) ?_
  refine own_st (T' := T) (F' := (mkF m 2 #[.val (.ref a), .val (.int (0 : Int32)), .unset, .unset, .unset, .unset, .unset, .unset] [(.int (0 : Int32)), (.ref a)])) (fun _ kq => XS.iloadN X.here hx rfl (hb hby d1_1) rfl kq) ?_
  refine own_st (T' := T) (F' := (mkF m 3 #[.val (.ref a), .val (.int (0 : Int32)), .unset, .unset, .unset, .unset, .unset, .unset] [(.int x0)])) (own_baload X hx hZ eT V (g := (mkF m 2 #[.val (.ref a), .val (.int (0 : Int32)), .unset, .unset, .unset, .unset, .unset, .unset] [(.int (0 : Int32)), (.ref a)])) rfl rfl (hb hby d1_2) (by decide) (Nat.le_of_ble_eq_true rfl) (w := x0) rfl) ?_
  refine own_st (T' := T) (F' := (mkF m 6 #[.val (.ref a), .val (.int (0 : Int32)), .unset, .unset, .unset, .unset, .unset, .unset] [(.int (255 : Int32)), (.int x0)])) (fun _ kq => XS.sipush X.here hx rfl (hb hby d1_3) kq) ?_
  refine own_st (T' := T) (F' := (mkF m 7 #[.val (.ref a), .val (.int (0 : Int32)), .unset, .unset, .unset, .unset, .unset, .unset] [(.int (x0 &&& (255 : Int32)))])) (fun _ kq => XS.iand X.here hx rfl (hb hby d1_6) rfl kq) ?_
  refine own_st (T' := T) (F' := (mkF m 8 #[.val (.ref a), .val (.int (0 : Int32)), .val (.int (x0 &&& (255 : Int32))), .unset, .unset, .unset, .unset, .unset] [])) (fun _ kq => XS.istoreN X.here hx rfl (hb hby d1_7) rfl (l' := #[.val (.ref a), .val (.int (0 : Int32)), .val (.int (x0 &&& (255 : Int32))), .unset, .unset, .unset, .unset, .unset]) rfl kq) ?_
  refine own_st (T' := T) (F' := (mkF m 9 #[.val (.ref a), .val (.int (0 : Int32)), .val (.int (x0 &&& (255 : Int32))), .unset, .unset, .unset, .unset, .unset] [(.int (x0 &&& (255 : Int32)))])) (fun _ kq => XS.iloadN X.here hx rfl (hb hby d1_8) rfl kq) ?_
  refine own_st (T' := T) (F' := (mkF m 12 #[.val (.ref a), .val (.int (0 : Int32)), .val (.int (x0 &&& (255 : Int32))), .unset, .unset, .unset, .unset, .unset] [(.int (128 : Int32)), (.int (x0 &&& (255 : Int32)))])) (fun _ kq => XS.sipush X.here hx rfl (hb hby d1_9) kq) ?_
  by_cases hc12_45 : (x0 &&& (255 : Int32)) < (128 : Int32)
  ·
    rw [if_pos hc12_45]
    refine own_st (T' := T) (F' := (mkF m 15 #[.val (.ref a), .val (.int (0 : Int32)), .val (.int (x0 &&& (255 : Int32))), .unset, .unset, .unset, .unset, .unset] [])) (fun _ kq => XS.icmpNo X.here hx rfl (hb hby d1_12) rfl (tlt hc12_45).2.1 kq) ?_
    refine own_st (T' := T) (F' := (mkF m 16 #[.val (.ref a), .val (.int (0 : Int32)), .val (.int (x0 &&& (255 : Int32))), .unset, .unset, .unset, .unset, .unset] [(.int (1 : Int32))])) (fun _ kq => XS.iconst X.here hx rfl (hb hby d1_15) kq) ?_
    exact own_retI X hx hlk hret (hb hby d1_16) (by decide) (by decide) (own_PQi rfl N eT)
  ·
    rw [if_neg hc12_45]
    refine own_st (T' := T) (F' := (mkF m 17 #[.val (.ref a), .val (.int (0 : Int32)), .val (.int (x0 &&& (255 : Int32))), .unset, .unset, .unset, .unset, .unset] [])) (fun _ kq => XS.icmpYes X.here hx rfl (pc0 := 12) (pc' := 17) rfl (hb hby d1_12) rfl (flt hc12_45).2.1 (by decide) (by decide) kq) ?_
    refine own_st (T' := T) (F' := (mkF m 20 #[.val (.ref a), .val (.int (0 : Int32)), .val (.int (x0 &&& (255 : Int32))), .unset, .unset, .unset, .unset, .unset] [(.int (128 : Int32))])) (fun _ kq => XS.sipush X.here hx rfl (hb hby d1_17) kq) ?_
    refine own_st (T' := T) (F' := (mkF m 22 #[.val (.ref a), .val (.int (0 : Int32)), .val (.int (x0 &&& (255 : Int32))), .unset, .val (.int (128 : Int32)), .unset, .unset, .unset] [])) (fun _ kq => XS.istore X.here hx rfl (hb hby d1_20) rfl (l' := #[.val (.ref a), .val (.int (0 : Int32)), .val (.int (x0 &&& (255 : Int32))), .unset, .val (.int (128 : Int32)), .unset, .unset, .unset]) rfl kq) ?_
    refine own_st (T' := T) (F' := (mkF m 25 #[.val (.ref a), .val (.int (0 : Int32)), .val (.int (x0 &&& (255 : Int32))), .unset, .val (.int (128 : Int32)), .unset, .unset, .unset] [(.int (191 : Int32))])) (fun _ kq => XS.sipush X.here hx rfl (hb hby d1_22) kq) ?_
    refine own_st (T' := T) (F' := (mkF m 27 #[.val (.ref a), .val (.int (0 : Int32)), .val (.int (x0 &&& (255 : Int32))), .unset, .val (.int (128 : Int32)), .val (.int (191 : Int32)), .unset, .unset] [])) (fun _ kq => XS.istore X.here hx rfl (hb hby d1_25) rfl (l' := #[.val (.ref a), .val (.int (0 : Int32)), .val (.int (x0 &&& (255 : Int32))), .unset, .val (.int (128 : Int32)), .val (.int (191 : Int32)), .unset, .unset]) rfl kq) ?_
    refine own_st (T' := T) (F' := (mkF m 28 #[.val (.ref a), .val (.int (0 : Int32)), .val (.int (x0 &&& (255 : Int32))), .unset, .val (.int (128 : Int32)), .val (.int (191 : Int32)), .unset, .unset] [(.int (x0 &&& (255 : Int32)))])) (fun _ kq => XS.iloadN X.here hx rfl (hb hby d1_27) rfl kq) ?_
    refine own_st (T' := T) (F' := (mkF m 31 #[.val (.ref a), .val (.int (0 : Int32)), .val (.int (x0 &&& (255 : Int32))), .unset, .val (.int (128 : Int32)), .val (.int (191 : Int32)), .unset, .unset] [(.int (194 : Int32)), (.int (x0 &&& (255 : Int32)))])) (fun _ kq => XS.sipush X.here hx rfl (hb hby d1_28) kq) ?_
    by_cases hc31_46 : (x0 &&& (255 : Int32)) < (194 : Int32)
    ·
      rw [if_pos hc31_46]
      refine own_st (T' := T) (F' := (mkF m 46 #[.val (.ref a), .val (.int (0 : Int32)), .val (.int (x0 &&& (255 : Int32))), .unset, .val (.int (128 : Int32)), .val (.int (191 : Int32)), .unset, .unset] [])) (fun _ kq => XS.icmpYes X.here hx rfl (pc0 := 31) (pc' := 46) rfl (hb hby d1_31) rfl (tlt hc31_46).1 (by decide) (by decide) kq) ?_
      exact J46  T _ X eT N
    ·
      rw [if_neg hc31_46]
      refine own_st (T' := T) (F' := (mkF m 34 #[.val (.ref a), .val (.int (0 : Int32)), .val (.int (x0 &&& (255 : Int32))), .unset, .val (.int (128 : Int32)), .val (.int (191 : Int32)), .unset, .unset] [])) (fun _ kq => XS.icmpNo X.here hx rfl (hb hby d1_31) rfl (flt hc31_46).1 kq) ?_
      refine own_st (T' := T) (F' := (mkF m 35 #[.val (.ref a), .val (.int (0 : Int32)), .val (.int (x0 &&& (255 : Int32))), .unset, .val (.int (128 : Int32)), .val (.int (191 : Int32)), .unset, .unset] [(.int (x0 &&& (255 : Int32)))])) (fun _ kq => XS.iloadN X.here hx rfl (hb hby d1_34) rfl kq) ?_
      refine own_st (T' := T) (F' := (mkF m 38 #[.val (.ref a), .val (.int (0 : Int32)), .val (.int (x0 &&& (255 : Int32))), .unset, .val (.int (128 : Int32)), .val (.int (191 : Int32)), .unset, .unset] [(.int (223 : Int32)), (.int (x0 &&& (255 : Int32)))])) (fun _ kq => XS.sipush X.here hx rfl (hb hby d1_35) kq) ?_
      by_cases hc38_47 : (223 : Int32) < (x0 &&& (255 : Int32))
      ·
        rw [if_pos hc38_47]
        refine own_st (T' := T) (F' := (mkF m 46 #[.val (.ref a), .val (.int (0 : Int32)), .val (.int (x0 &&& (255 : Int32))), .unset, .val (.int (128 : Int32)), .val (.int (191 : Int32)), .unset, .unset] [])) (fun _ kq => XS.icmpYes X.here hx rfl (pc0 := 38) (pc' := 46) rfl (hb hby d1_38) rfl (tlt hc38_47).2.2.1 (by decide) (by decide) kq) ?_
        exact J46  T _ X eT N
      ·
        rw [if_neg hc38_47]
        refine own_st (T' := T) (F' := (mkF m 41 #[.val (.ref a), .val (.int (0 : Int32)), .val (.int (x0 &&& (255 : Int32))), .unset, .val (.int (128 : Int32)), .val (.int (191 : Int32)), .unset, .unset] [])) (fun _ kq => XS.icmpNo X.here hx rfl (hb hby d1_38) rfl (flt hc38_47).2.2.1 kq) ?_
        refine own_st (T' := T) (F' := (mkF m 42 #[.val (.ref a), .val (.int (0 : Int32)), .val (.int (x0 &&& (255 : Int32))), .unset, .val (.int (128 : Int32)), .val (.int (191 : Int32)), .unset, .unset] [(.int (2 : Int32))])) (fun _ kq => XS.iconst X.here hx rfl (hb hby d1_41) kq) ?_
        refine own_st (T' := T) (F' := (mkF m 43 #[.val (.ref a), .val (.int (0 : Int32)), .val (.int (x0 &&& (255 : Int32))), .val (.int (2 : Int32)), .val (.int (128 : Int32)), .val (.int (191 : Int32)), .unset, .unset] [])) (fun _ kq => XS.istoreN X.here hx rfl (hb hby d1_42) rfl (l' := #[.val (.ref a), .val (.int (0 : Int32)), .val (.int (x0 &&& (255 : Int32))), .val (.int (2 : Int32)), .val (.int (128 : Int32)), .val (.int (191 : Int32)), .unset, .unset]) rfl kq) ?_
        refine own_st (T' := T) (F' := (mkF m 140 #[.val (.ref a), .val (.int (0 : Int32)), .val (.int (x0 &&& (255 : Int32))), .val (.int (2 : Int32)), .val (.int (128 : Int32)), .val (.int (191 : Int32)), .unset, .unset] [])) (fun _ kq => XS.goto X.here hx rfl (pc0 := 43) (pc' := 140) rfl (hb hby d1_43) (by decide) (by decide) kq) ?_
        exact J140k2  T _ X eT N
theorem d1_186 : decode prog_73_method_7_code 186 = .ok (.aload_n 0, 1) := by decide +kernel
theorem d1_187 : decode prog_73_method_7_code 187 = .ok (.iload_n 1, 1) := by decide +kernel
theorem d1_188 : decode prog_73_method_7_code 188 = .ok (.iload 7, 2) := by decide +kernel
theorem d1_190 : decode prog_73_method_7_code 190 = .ok (.iadd, 1) := by decide +kernel
theorem d1_191 : decode prog_73_method_7_code 191 = .ok (.baload, 1) := by decide +kernel
theorem d1_192 : decode prog_73_method_7_code 192 = .ok (.sipush 192, 3) := by decide +kernel
theorem d1_195 : decode prog_73_method_7_code 195 = .ok (.iand, 1) := by decide +kernel
theorem d1_196 : decode prog_73_method_7_code 196 = .ok (.sipush 128, 3) := by decide +kernel
theorem d1_204 : decode prog_73_method_7_code 204 = .ok (.iinc 7 1, 3) := by decide +kernel
theorem d1_207 : decode prog_73_method_7_code 207 = .ok (.goto (-27), 3) := by decide +kernel
theorem d1_202 : decode prog_73_method_7_code 202 = .ok (.iconst 0, 1) := by decide +kernel
theorem d1_199 : decode prog_73_method_7_code 199 = .ok (.if_icmp .eq 5, 3) := by decide +kernel
theorem d1_203 : decode prog_73_method_7_code 203 = .ok (.ireturn, 1) := by decide +kernel
def sl3_140k4 (y140k4_4 : Int32) (y140k4_5 : Int32) : Int32 := (0 : Int32)
def sl3_140k3 (x1 : Int32) (x2 : Int32) (y140k3_4 : Int32) (y140k3_5 : Int32) : Int32 := if (x1 &&& (255 : Int32)) < y140k3_4 then ((0 : Int32)) else (if y140k3_5 < (x1 &&& (255 : Int32)) then ((0 : Int32)) else (if (x2 &&& (192 : Int32)) = (128 : Int32) then ((3 : Int32)) else ((0 : Int32))))
def sl3_140k2 (x1 : Int32) : Int32 := if (x1 &&& (255 : Int32)) < (128 : Int32) then ((0 : Int32)) else (if (191 : Int32) < (x1 &&& (255 : Int32)) then ((0 : Int32)) else ((2 : Int32)))
def sl3_92 (x0 : Int32) : Int32 := if (x0 &&& (255 : Int32)) < (240 : Int32) then ((0 : Int32)) else (if (244 : Int32) < (x0 &&& (255 : Int32)) then ((0 : Int32)) else (if (x0 &&& (255 : Int32)) = (240 : Int32) then (sl3_140k4 (144 : Int32) (191 : Int32)) else (if (x0 &&& (255 : Int32)) = (244 : Int32) then (sl3_140k4 (128 : Int32) (143 : Int32)) else (sl3_140k4 (128 : Int32) (191 : Int32)))))
def sl3_46 (x0 : Int32) (x1 : Int32) (x2 : Int32) : Int32 := if (x0 &&& (255 : Int32)) < (224 : Int32) then (sl3_92 x0) else (if (239 : Int32) < (x0 &&& (255 : Int32)) then (sl3_92 x0) else (if (x0 &&& (255 : Int32)) = (224 : Int32) then (sl3_140k3 x1 x2 (160 : Int32) (191 : Int32)) else (if (x0 &&& (255 : Int32)) = (237 : Int32) then (sl3_140k3 x1 x2 (128 : Int32) (159 : Int32)) else (sl3_140k3 x1 x2 (128 : Int32) (191 : Int32)))))
def sl3 (x0 : Int32) (x1 : Int32) (x2 : Int32) : Int32 := if (x0 &&& (255 : Int32)) < (128 : Int32) then ((1 : Int32)) else (if (x0 &&& (255 : Int32)) < (194 : Int32) then (sl3_46 x0 x1 x2) else (if (223 : Int32) < (x0 &&& (255 : Int32)) then (sl3_46 x0 x1 x2) else (sl3_140k2 x1)))
set_option maxRecDepth 65536 in
set_option maxHeartbeats 40000000 in
theorem rm1_0_3 (l : Launch) (Z : State) (a0 : Array Value) (hw : ∀ d ∈ tables_1, d.before a0 Z = true) (ws : List Jvm.Cond) (a : Addr) (x0 : Int32) (x1 : Int32) (x2 : Int32) (h0 : Heap) (n0 : Nat) (V : own_AI Z h0 a .byte (3 : Int32) [x0, x1, x2]) :
    own_Met l Z (⟨"com/example/ogma/ogma/canon/Utf8", "sequenceLength", "([BI)I"⟩ : MethodName) prog_73_method_7_code 8 (some .int) ws ({ frames := 0, cells := 0, slots := 0, locals := 0 } : Room) #[(.ref a), (.int (0 : Int32))] h0 (own_PQ (.int (sl3 x0 x1 x2)) h0 n0) := by
  refine own_body (plainFor_of_name pn1) ?_
  intro p e s m below meth c T X hx hby hml hret hlk hZ hown hnm eT
  have J140k4 : ∀ (y140k4_4 : Int32) (y140k4_5 : Int32) (T : State) (locs : List Loc) (X : Stand p l e ({ frames := 0, cells := 0, slots := 0, locals := 0 } : Room) s m #[(.ref a), (.int (0 : Int32))] below meth c T locs 0 0) (eT : T.heap = h0) (N : Fr n0 locs), own_Ends p e below s 0 0 (own_PQ (.int (sl3_140k4 y140k4_4 y140k4_5)) h0 n0) T (mkF m 140 #[.val (.ref a), .val (.int (0 : Int32)), .val (.int (x0 &&& (255 : Int32))), .val (.int (4 : Int32)), .val (.int y140k4_4), .val (.int y140k4_5), .unset, .unset] []) := by
    intro y140k4_4 y140k4_5 T locs X eT N
    unfold sl3_140k4
    refine own_st (T' := T) (F' := (mkF m 141 #[.val (.ref a), .val (.int (0 : Int32)), .val (.int (x0 &&& (255 : Int32))), .val (.int (4 : Int32)), .val (.int y140k4_4), .val (.int y140k4_5), .unset, .unset] [(.ref a)])) (fun _ kq => XS.aloadN X.here hx rfl (hb hby d1_140) rfl rfl kq) ?_
    refine own_st (T' := T) (F' := (mkF m 142 #[.val (.ref a), .val (.int (0 : Int32)), .val (.int (x0 &&& (255 : Int32))), .val (.int (4 : Int32)), .val (.int y140k4_4), .val (.int y140k4_5), .unset, .unset] [(.int (3 : Int32))])) (own_lenI X hx hZ eT V (g := (mkF m 141 #[.val (.ref a), .val (.int (0 : Int32)), .val (.int (x0 &&& (255 : Int32))), .val (.int (4 : Int32)), .val (.int y140k4_4), .val (.int y140k4_5), .unset, .unset] [(.ref a)])) rfl rfl (hb hby d1_141)) ?_
    refine own_st (T' := T) (F' := (mkF m 143 #[.val (.ref a), .val (.int (0 : Int32)), .val (.int (x0 &&& (255 : Int32))), .val (.int (4 : Int32)), .val (.int y140k4_4), .val (.int y140k4_5), .unset, .unset] [(.int (0 : Int32)), (.int (3 : Int32))])) (fun _ kq => XS.iloadN X.here hx rfl (hb hby d1_142) rfl kq) ?_
    refine own_st (T' := T) (F' := (mkF m 144 #[.val (.ref a), .val (.int (0 : Int32)), .val (.int (x0 &&& (255 : Int32))), .val (.int (4 : Int32)), .val (.int y140k4_4), .val (.int y140k4_5), .unset, .unset] [(.int (3 : Int32))])) (fun _ kq => XS.isub X.here hx rfl (hb hby d1_143) rfl kq) ?_
    refine own_st (T' := T) (F' := (mkF m 145 #[.val (.ref a), .val (.int (0 : Int32)), .val (.int (x0 &&& (255 : Int32))), .val (.int (4 : Int32)), .val (.int y140k4_4), .val (.int y140k4_5), .unset, .unset] [(.int (4 : Int32)), (.int (3 : Int32))])) (fun _ kq => XS.iloadN X.here hx rfl (hb hby d1_144) rfl kq) ?_
    refine own_st (T' := T) (F' := (mkF m 148 #[.val (.ref a), .val (.int (0 : Int32)), .val (.int (x0 &&& (255 : Int32))), .val (.int (4 : Int32)), .val (.int y140k4_4), .val (.int y140k4_5), .unset, .unset] [])) (fun _ kq => XS.icmpNo X.here hx rfl (hb hby d1_145) rfl (tlt (by decide : (3 : Int32) < (4 : Int32))).2.1 kq) ?_
    refine own_st (T' := T) (F' := (mkF m 149 #[.val (.ref a), .val (.int (0 : Int32)), .val (.int (x0 &&& (255 : Int32))), .val (.int (4 : Int32)), .val (.int y140k4_4), .val (.int y140k4_5), .unset, .unset] [(.int (0 : Int32))])) (fun _ kq => XS.iconst X.here hx rfl (hb hby d1_148) kq) ?_
    exact own_retI X hx hlk hret (hb hby d1_149) (by decide) (by decide) (own_PQi rfl N eT)
  have J140k3 : ∀ (y140k3_4 : Int32) (y140k3_5 : Int32) (T : State) (locs : List Loc) (X : Stand p l e ({ frames := 0, cells := 0, slots := 0, locals := 0 } : Room) s m #[(.ref a), (.int (0 : Int32))] below meth c T locs 0 0) (eT : T.heap = h0) (N : Fr n0 locs), own_Ends p e below s 0 0 (own_PQ (.int (sl3_140k3 x1 x2 y140k3_4 y140k3_5)) h0 n0) T (mkF m 140 #[.val (.ref a), .val (.int (0 : Int32)), .val (.int (x0 &&& (255 : Int32))), .val (.int (3 : Int32)), .val (.int y140k3_4), .val (.int y140k3_5), .unset, .unset] []) := by
    intro y140k3_4 y140k3_5 T locs X eT N
    unfold sl3_140k3
    refine own_st (T' := T) (F' := (mkF m 141 #[.val (.ref a), .val (.int (0 : Int32)), .val (.int (x0 &&& (255 : Int32))), .val (.int (3 : Int32)), .val (.int y140k3_4), .val (.int y140k3_5), .unset, .unset] [(.ref a)])) (fun _ kq => XS.aloadN X.here hx rfl (hb hby d1_140) rfl rfl kq) ?_
    refine own_st (T' := T) (F' := (mkF m 142 #[.val (.ref a), .val (.int (0 : Int32)), .val (.int (x0 &&& (255 : Int32))), .val (.int (3 : Int32)), .val (.int y140k3_4), .val (.int y140k3_5), .unset, .unset] [(.int (3 : Int32))])) (own_lenI X hx hZ eT V (g := (mkF m 141 #[.val (.ref a), .val (.int (0 : Int32)), .val (.int (x0 &&& (255 : Int32))), .val (.int (3 : Int32)), .val (.int y140k3_4), .val (.int y140k3_5), .unset, .unset] [(.ref a)])) rfl rfl (hb hby d1_141)) ?_
    refine own_st (T' := T) (F' := (mkF m 143 #[.val (.ref a), .val (.int (0 : Int32)), .val (.int (x0 &&& (255 : Int32))), .val (.int (3 : Int32)), .val (.int y140k3_4), .val (.int y140k3_5), .unset, .unset] [(.int (0 : Int32)), (.int (3 : Int32))])) (fun _ kq => XS.iloadN X.here hx rfl (hb hby d1_142) rfl kq) ?_
    refine own_st (T' := T) (F' := (mkF m 144 #[.val (.ref a), .val (.int (0 : Int32)), .val (.int (x0 &&& (255 : Int32))), .val (.int (3 : Int32)), .val (.int y140k3_4), .val (.int y140k3_5), .unset, .unset] [(.int (3 : Int32))])) (fun _ kq => XS.isub X.here hx rfl (hb hby d1_143) rfl kq) ?_
    refine own_st (T' := T) (F' := (mkF m 145 #[.val (.ref a), .val (.int (0 : Int32)), .val (.int (x0 &&& (255 : Int32))), .val (.int (3 : Int32)), .val (.int y140k3_4), .val (.int y140k3_5), .unset, .unset] [(.int (3 : Int32)), (.int (3 : Int32))])) (fun _ kq => XS.iloadN X.here hx rfl (hb hby d1_144) rfl kq) ?_
    refine own_st (T' := T) (F' := (mkF m 150 #[.val (.ref a), .val (.int (0 : Int32)), .val (.int (x0 &&& (255 : Int32))), .val (.int (3 : Int32)), .val (.int y140k3_4), .val (.int y140k3_5), .unset, .unset] [])) (fun _ kq => XS.icmpYes X.here hx rfl (pc0 := 145) (pc' := 150) rfl (hb hby d1_145) rfl (flt (by decide : ¬ ((3 : Int32) < (3 : Int32)))).2.1 (by decide) (by decide) kq) ?_
    refine own_st (T' := T) (F' := (mkF m 151 #[.val (.ref a), .val (.int (0 : Int32)), .val (.int (x0 &&& (255 : Int32))), .val (.int (3 : Int32)), .val (.int y140k3_4), .val (.int y140k3_5), .unset, .unset] [(.ref a)])) (fun _ kq => XS.aloadN X.here hx rfl (hb hby d1_150) rfl rfl kq) ?_
    refine own_st (T' := T) (F' := (mkF m 152 #[.val (.ref a), .val (.int (0 : Int32)), .val (.int (x0 &&& (255 : Int32))), .val (.int (3 : Int32)), .val (.int y140k3_4), .val (.int y140k3_5), .unset, .unset] [(.int (0 : Int32)), (.ref a)])) (fun _ kq => XS.iloadN X.here hx rfl (hb hby d1_151) rfl kq) ?_
    refine own_st (T' := T) (F' := (mkF m 153 #[.val (.ref a), .val (.int (0 : Int32)), .val (.int (x0 &&& (255 : Int32))), .val (.int (3 : Int32)), .val (.int y140k3_4), .val (.int y140k3_5), .unset, .unset] [(.int (1 : Int32)), (.int (0 : Int32)), (.ref a)])) (fun _ kq => XS.iconst X.here hx rfl (hb hby d1_152) kq) ?_
    refine own_st (T' := T) (F' := (mkF m 154 #[.val (.ref a), .val (.int (0 : Int32)), .val (.int (x0 &&& (255 : Int32))), .val (.int (3 : Int32)), .val (.int y140k3_4), .val (.int y140k3_5), .unset, .unset] [(.int (1 : Int32)), (.ref a)])) (fun _ kq => XS.iadd X.here hx rfl (hb hby d1_153) rfl kq) ?_
    refine own_st (T' := T) (F' := (mkF m 155 #[.val (.ref a), .val (.int (0 : Int32)), .val (.int (x0 &&& (255 : Int32))), .val (.int (3 : Int32)), .val (.int y140k3_4), .val (.int y140k3_5), .unset, .unset] [(.int x1)])) (own_baload X hx hZ eT V (g := (mkF m 154 #[.val (.ref a), .val (.int (0 : Int32)), .val (.int (x0 &&& (255 : Int32))), .val (.int (3 : Int32)), .val (.int y140k3_4), .val (.int y140k3_5), .unset, .unset] [(.int (1 : Int32)), (.ref a)])) rfl rfl (hb hby d1_154) (by decide) (Nat.le_of_ble_eq_true rfl) (w := x1) rfl) ?_
    refine own_st (T' := T) (F' := (mkF m 158 #[.val (.ref a), .val (.int (0 : Int32)), .val (.int (x0 &&& (255 : Int32))), .val (.int (3 : Int32)), .val (.int y140k3_4), .val (.int y140k3_5), .unset, .unset] [(.int (255 : Int32)), (.int x1)])) (fun _ kq => XS.sipush X.here hx rfl (hb hby d1_155) kq) ?_
    refine own_st (T' := T) (F' := (mkF m 159 #[.val (.ref a), .val (.int (0 : Int32)), .val (.int (x0 &&& (255 : Int32))), .val (.int (3 : Int32)), .val (.int y140k3_4), .val (.int y140k3_5), .unset, .unset] [(.int (x1 &&& (255 : Int32)))])) (fun _ kq => XS.iand X.here hx rfl (hb hby d1_158) rfl kq) ?_
    refine own_st (T' := T) (F' := (mkF m 161 #[.val (.ref a), .val (.int (0 : Int32)), .val (.int (x0 &&& (255 : Int32))), .val (.int (3 : Int32)), .val (.int y140k3_4), .val (.int y140k3_5), .val (.int (x1 &&& (255 : Int32))), .unset] [])) (fun _ kq => XS.istore X.here hx rfl (hb hby d1_159) rfl (l' := #[.val (.ref a), .val (.int (0 : Int32)), .val (.int (x0 &&& (255 : Int32))), .val (.int (3 : Int32)), .val (.int y140k3_4), .val (.int y140k3_5), .val (.int (x1 &&& (255 : Int32))), .unset]) rfl kq) ?_
    refine own_st (T' := T) (F' := (mkF m 163 #[.val (.ref a), .val (.int (0 : Int32)), .val (.int (x0 &&& (255 : Int32))), .val (.int (3 : Int32)), .val (.int y140k3_4), .val (.int y140k3_5), .val (.int (x1 &&& (255 : Int32))), .unset] [(.int (x1 &&& (255 : Int32)))])) (fun _ kq => XS.iload X.here hx rfl (hb hby d1_161) rfl kq) ?_
    refine own_st (T' := T) (F' := (mkF m 165 #[.val (.ref a), .val (.int (0 : Int32)), .val (.int (x0 &&& (255 : Int32))), .val (.int (3 : Int32)), .val (.int y140k3_4), .val (.int y140k3_5), .val (.int (x1 &&& (255 : Int32))), .unset] [(.int y140k3_4), (.int (x1 &&& (255 : Int32)))])) (fun _ kq => XS.iload X.here hx rfl (hb hby d1_163) rfl kq) ?_
    by_cases hc165_48 : (x1 &&& (255 : Int32)) < y140k3_4
    ·
      rw [if_pos hc165_48]
      refine own_st (T' := T) (F' := (mkF m 175 #[.val (.ref a), .val (.int (0 : Int32)), .val (.int (x0 &&& (255 : Int32))), .val (.int (3 : Int32)), .val (.int y140k3_4), .val (.int y140k3_5), .val (.int (x1 &&& (255 : Int32))), .unset] [])) (fun _ kq => XS.icmpYes X.here hx rfl (pc0 := 165) (pc' := 175) rfl (hb hby d1_165) rfl (tlt hc165_48).1 (by decide) (by decide) kq) ?_
      refine own_st (T' := T) (F' := (mkF m 176 #[.val (.ref a), .val (.int (0 : Int32)), .val (.int (x0 &&& (255 : Int32))), .val (.int (3 : Int32)), .val (.int y140k3_4), .val (.int y140k3_5), .val (.int (x1 &&& (255 : Int32))), .unset] [(.int (0 : Int32))])) (fun _ kq => XS.iconst X.here hx rfl (hb hby d1_175) kq) ?_
      exact own_retI X hx hlk hret (hb hby d1_176) (by decide) (by decide) (own_PQi rfl N eT)
    ·
      rw [if_neg hc165_48]
      refine own_st (T' := T) (F' := (mkF m 168 #[.val (.ref a), .val (.int (0 : Int32)), .val (.int (x0 &&& (255 : Int32))), .val (.int (3 : Int32)), .val (.int y140k3_4), .val (.int y140k3_5), .val (.int (x1 &&& (255 : Int32))), .unset] [])) (fun _ kq => XS.icmpNo X.here hx rfl (hb hby d1_165) rfl (flt hc165_48).1 kq) ?_
      refine own_st (T' := T) (F' := (mkF m 170 #[.val (.ref a), .val (.int (0 : Int32)), .val (.int (x0 &&& (255 : Int32))), .val (.int (3 : Int32)), .val (.int y140k3_4), .val (.int y140k3_5), .val (.int (x1 &&& (255 : Int32))), .unset] [(.int (x1 &&& (255 : Int32)))])) (fun _ kq => XS.iload X.here hx rfl (hb hby d1_168) rfl kq) ?_
      refine own_st (T' := T) (F' := (mkF m 172 #[.val (.ref a), .val (.int (0 : Int32)), .val (.int (x0 &&& (255 : Int32))), .val (.int (3 : Int32)), .val (.int y140k3_4), .val (.int y140k3_5), .val (.int (x1 &&& (255 : Int32))), .unset] [(.int y140k3_5), (.int (x1 &&& (255 : Int32)))])) (fun _ kq => XS.iload X.here hx rfl (hb hby d1_170) rfl kq) ?_
      by_cases hc172_49 : y140k3_5 < (x1 &&& (255 : Int32))
      ·
        rw [if_pos hc172_49]
        refine own_st (T' := T) (F' := (mkF m 175 #[.val (.ref a), .val (.int (0 : Int32)), .val (.int (x0 &&& (255 : Int32))), .val (.int (3 : Int32)), .val (.int y140k3_4), .val (.int y140k3_5), .val (.int (x1 &&& (255 : Int32))), .unset] [])) (fun _ kq => XS.icmpNo X.here hx rfl (hb hby d1_172) rfl (tlt hc172_49).2.2.2 kq) ?_
        refine own_st (T' := T) (F' := (mkF m 176 #[.val (.ref a), .val (.int (0 : Int32)), .val (.int (x0 &&& (255 : Int32))), .val (.int (3 : Int32)), .val (.int y140k3_4), .val (.int y140k3_5), .val (.int (x1 &&& (255 : Int32))), .unset] [(.int (0 : Int32))])) (fun _ kq => XS.iconst X.here hx rfl (hb hby d1_175) kq) ?_
        exact own_retI X hx hlk hret (hb hby d1_176) (by decide) (by decide) (own_PQi rfl N eT)
      ·
        rw [if_neg hc172_49]
        refine own_st (T' := T) (F' := (mkF m 177 #[.val (.ref a), .val (.int (0 : Int32)), .val (.int (x0 &&& (255 : Int32))), .val (.int (3 : Int32)), .val (.int y140k3_4), .val (.int y140k3_5), .val (.int (x1 &&& (255 : Int32))), .unset] [])) (fun _ kq => XS.icmpYes X.here hx rfl (pc0 := 172) (pc' := 177) rfl (hb hby d1_172) rfl (flt hc172_49).2.2.2 (by decide) (by decide) kq) ?_
        refine own_st (T' := T) (F' := (mkF m 178 #[.val (.ref a), .val (.int (0 : Int32)), .val (.int (x0 &&& (255 : Int32))), .val (.int (3 : Int32)), .val (.int y140k3_4), .val (.int y140k3_5), .val (.int (x1 &&& (255 : Int32))), .unset] [(.int (2 : Int32))])) (fun _ kq => XS.iconst X.here hx rfl (hb hby d1_177) kq) ?_
        refine own_st (T' := T) (F' := (mkF m 180 #[.val (.ref a), .val (.int (0 : Int32)), .val (.int (x0 &&& (255 : Int32))), .val (.int (3 : Int32)), .val (.int y140k3_4), .val (.int y140k3_5), .val (.int (x1 &&& (255 : Int32))), .val (.int (2 : Int32))] [])) (fun _ kq => XS.istore X.here hx rfl (hb hby d1_178) rfl (l' := #[.val (.ref a), .val (.int (0 : Int32)), .val (.int (x0 &&& (255 : Int32))), .val (.int (3 : Int32)), .val (.int y140k3_4), .val (.int y140k3_5), .val (.int (x1 &&& (255 : Int32))), .val (.int (2 : Int32))]) rfl kq) ?_
        refine own_st (T' := T) (F' := (mkF m 182 #[.val (.ref a), .val (.int (0 : Int32)), .val (.int (x0 &&& (255 : Int32))), .val (.int (3 : Int32)), .val (.int y140k3_4), .val (.int y140k3_5), .val (.int (x1 &&& (255 : Int32))), .val (.int (2 : Int32))] [(.int (2 : Int32))])) (fun _ kq => XS.iload X.here hx rfl (hb hby d1_180) rfl kq) ?_
        refine own_st (T' := T) (F' := (mkF m 183 #[.val (.ref a), .val (.int (0 : Int32)), .val (.int (x0 &&& (255 : Int32))), .val (.int (3 : Int32)), .val (.int y140k3_4), .val (.int y140k3_5), .val (.int (x1 &&& (255 : Int32))), .val (.int (2 : Int32))] [(.int (3 : Int32)), (.int (2 : Int32))])) (fun _ kq => XS.iloadN X.here hx rfl (hb hby d1_182) rfl kq) ?_
        refine own_st (T' := T) (F' := (mkF m 186 #[.val (.ref a), .val (.int (0 : Int32)), .val (.int (x0 &&& (255 : Int32))), .val (.int (3 : Int32)), .val (.int y140k3_4), .val (.int y140k3_5), .val (.int (x1 &&& (255 : Int32))), .val (.int (2 : Int32))] [])) (fun _ kq => XS.icmpNo X.here hx rfl (hb hby d1_183) rfl (tlt (by decide : (2 : Int32) < (3 : Int32))).2.1 kq) ?_
        refine own_st (T' := T) (F' := (mkF m 187 #[.val (.ref a), .val (.int (0 : Int32)), .val (.int (x0 &&& (255 : Int32))), .val (.int (3 : Int32)), .val (.int y140k3_4), .val (.int y140k3_5), .val (.int (x1 &&& (255 : Int32))), .val (.int (2 : Int32))] [(.ref a)])) (fun _ kq => XS.aloadN X.here hx rfl (hb hby d1_186) rfl rfl kq) ?_
        refine own_st (T' := T) (F' := (mkF m 188 #[.val (.ref a), .val (.int (0 : Int32)), .val (.int (x0 &&& (255 : Int32))), .val (.int (3 : Int32)), .val (.int y140k3_4), .val (.int y140k3_5), .val (.int (x1 &&& (255 : Int32))), .val (.int (2 : Int32))] [(.int (0 : Int32)), (.ref a)])) (fun _ kq => XS.iloadN X.here hx rfl (hb hby d1_187) rfl kq) ?_
        refine own_st (T' := T) (F' := (mkF m 190 #[.val (.ref a), .val (.int (0 : Int32)), .val (.int (x0 &&& (255 : Int32))), .val (.int (3 : Int32)), .val (.int y140k3_4), .val (.int y140k3_5), .val (.int (x1 &&& (255 : Int32))), .val (.int (2 : Int32))] [(.int (2 : Int32)), (.int (0 : Int32)), (.ref a)])) (fun _ kq => XS.iload X.here hx rfl (hb hby d1_188) rfl kq) ?_
        refine own_st (T' := T) (F' := (mkF m 191 #[.val (.ref a), .val (.int (0 : Int32)), .val (.int (x0 &&& (255 : Int32))), .val (.int (3 : Int32)), .val (.int y140k3_4), .val (.int y140k3_5), .val (.int (x1 &&& (255 : Int32))), .val (.int (2 : Int32))] [(.int (2 : Int32)), (.ref a)])) (fun _ kq => XS.iadd X.here hx rfl (hb hby d1_190) rfl kq) ?_
        refine own_st (T' := T) (F' := (mkF m 192 #[.val (.ref a), .val (.int (0 : Int32)), .val (.int (x0 &&& (255 : Int32))), .val (.int (3 : Int32)), .val (.int y140k3_4), .val (.int y140k3_5), .val (.int (x1 &&& (255 : Int32))), .val (.int (2 : Int32))] [(.int x2)])) (own_baload X hx hZ eT V (g := (mkF m 191 #[.val (.ref a), .val (.int (0 : Int32)), .val (.int (x0 &&& (255 : Int32))), .val (.int (3 : Int32)), .val (.int y140k3_4), .val (.int y140k3_5), .val (.int (x1 &&& (255 : Int32))), .val (.int (2 : Int32))] [(.int (2 : Int32)), (.ref a)])) rfl rfl (hb hby d1_191) (by decide) (Nat.le_of_ble_eq_true rfl) (w := x2) rfl) ?_
        refine own_st (T' := T) (F' := (mkF m 195 #[.val (.ref a), .val (.int (0 : Int32)), .val (.int (x0 &&& (255 : Int32))), .val (.int (3 : Int32)), .val (.int y140k3_4), .val (.int y140k3_5), .val (.int (x1 &&& (255 : Int32))), .val (.int (2 : Int32))] [(.int (192 : Int32)), (.int x2)])) (fun _ kq => XS.sipush X.here hx rfl (hb hby d1_192) kq) ?_
        refine own_st (T' := T) (F' := (mkF m 196 #[.val (.ref a), .val (.int (0 : Int32)), .val (.int (x0 &&& (255 : Int32))), .val (.int (3 : Int32)), .val (.int y140k3_4), .val (.int y140k3_5), .val (.int (x1 &&& (255 : Int32))), .val (.int (2 : Int32))] [(.int (x2 &&& (192 : Int32)))])) (fun _ kq => XS.iand X.here hx rfl (hb hby d1_195) rfl kq) ?_
        refine own_st (T' := T) (F' := (mkF m 199 #[.val (.ref a), .val (.int (0 : Int32)), .val (.int (x0 &&& (255 : Int32))), .val (.int (3 : Int32)), .val (.int y140k3_4), .val (.int y140k3_5), .val (.int (x1 &&& (255 : Int32))), .val (.int (2 : Int32))] [(.int (128 : Int32)), (.int (x2 &&& (192 : Int32)))])) (fun _ kq => XS.sipush X.here hx rfl (hb hby d1_196) kq) ?_
        by_cases hc199_50 : (x2 &&& (192 : Int32)) = (128 : Int32)
        ·
          rw [if_pos hc199_50]
          refine own_st (T' := T) (F' := (mkF m 204 #[.val (.ref a), .val (.int (0 : Int32)), .val (.int (x0 &&& (255 : Int32))), .val (.int (3 : Int32)), .val (.int y140k3_4), .val (.int y140k3_5), .val (.int (x1 &&& (255 : Int32))), .val (.int (2 : Int32))] [])) (fun _ kq => XS.icmpYes X.here hx rfl (pc0 := 199) (pc' := 204) rfl (hb hby d1_199) rfl (teq hc199_50).1 (by decide) (by decide) kq) ?_
          refine own_st (T' := T) (F' := (mkF m 207 #[.val (.ref a), .val (.int (0 : Int32)), .val (.int (x0 &&& (255 : Int32))), .val (.int (3 : Int32)), .val (.int y140k3_4), .val (.int y140k3_5), .val (.int (x1 &&& (255 : Int32))), .val (.int (3 : Int32))] [])) (fun _ kq => XS.iinc X.here hx rfl (hb hby d1_204) rfl (l' := #[.val (.ref a), .val (.int (0 : Int32)), .val (.int (x0 &&& (255 : Int32))), .val (.int (3 : Int32)), .val (.int y140k3_4), .val (.int y140k3_5), .val (.int (x1 &&& (255 : Int32))), .val (.int (3 : Int32))]) rfl kq) ?_
          refine own_st (T' := T) (F' := (mkF m 180 #[.val (.ref a), .val (.int (0 : Int32)), .val (.int (x0 &&& (255 : Int32))), .val (.int (3 : Int32)), .val (.int y140k3_4), .val (.int y140k3_5), .val (.int (x1 &&& (255 : Int32))), .val (.int (3 : Int32))] [])) (fun _ kq => XS.goto X.here hx rfl (pc0 := 207) (pc' := 180) rfl (hb hby d1_207) (by decide) (by decide) kq) ?_
          refine own_st (T' := T) (F' := (mkF m 182 #[.val (.ref a), .val (.int (0 : Int32)), .val (.int (x0 &&& (255 : Int32))), .val (.int (3 : Int32)), .val (.int y140k3_4), .val (.int y140k3_5), .val (.int (x1 &&& (255 : Int32))), .val (.int (3 : Int32))] [(.int (3 : Int32))])) (fun _ kq => XS.iload X.here hx rfl (hb hby d1_180) rfl kq) ?_
          refine own_st (T' := T) (F' := (mkF m 183 #[.val (.ref a), .val (.int (0 : Int32)), .val (.int (x0 &&& (255 : Int32))), .val (.int (3 : Int32)), .val (.int y140k3_4), .val (.int y140k3_5), .val (.int (x1 &&& (255 : Int32))), .val (.int (3 : Int32))] [(.int (3 : Int32)), (.int (3 : Int32))])) (fun _ kq => XS.iloadN X.here hx rfl (hb hby d1_182) rfl kq) ?_
          refine own_st (T' := T) (F' := (mkF m 210 #[.val (.ref a), .val (.int (0 : Int32)), .val (.int (x0 &&& (255 : Int32))), .val (.int (3 : Int32)), .val (.int y140k3_4), .val (.int y140k3_5), .val (.int (x1 &&& (255 : Int32))), .val (.int (3 : Int32))] [])) (fun _ kq => XS.icmpYes X.here hx rfl (pc0 := 183) (pc' := 210) rfl (hb hby d1_183) rfl (flt (by decide : ¬ ((3 : Int32) < (3 : Int32)))).2.1 (by decide) (by decide) kq) ?_
          refine own_st (T' := T) (F' := (mkF m 211 #[.val (.ref a), .val (.int (0 : Int32)), .val (.int (x0 &&& (255 : Int32))), .val (.int (3 : Int32)), .val (.int y140k3_4), .val (.int y140k3_5), .val (.int (x1 &&& (255 : Int32))), .val (.int (3 : Int32))] [(.int (3 : Int32))])) (fun _ kq => XS.iloadN X.here hx rfl (hb hby d1_210) rfl kq) ?_
          exact own_retI X hx hlk hret (hb hby d1_211) (by decide) (by decide) (own_PQi rfl N eT)
        ·
          rw [if_neg hc199_50]
          refine own_st (T' := T) (F' := (mkF m 202 #[.val (.ref a), .val (.int (0 : Int32)), .val (.int (x0 &&& (255 : Int32))), .val (.int (3 : Int32)), .val (.int y140k3_4), .val (.int y140k3_5), .val (.int (x1 &&& (255 : Int32))), .val (.int (2 : Int32))] [])) (fun _ kq => XS.icmpNo X.here hx rfl (hb hby d1_199) rfl (feq hc199_50).1 kq) ?_
          refine own_st (T' := T) (F' := (mkF m 203 #[.val (.ref a), .val (.int (0 : Int32)), .val (.int (x0 &&& (255 : Int32))), .val (.int (3 : Int32)), .val (.int y140k3_4), .val (.int y140k3_5), .val (.int (x1 &&& (255 : Int32))), .val (.int (2 : Int32))] [(.int (0 : Int32))])) (fun _ kq => XS.iconst X.here hx rfl (hb hby d1_202) kq) ?_
          exact own_retI X hx hlk hret (hb hby d1_203) (by decide) (by decide) (own_PQi rfl N eT)
  have J140k2 : ∀ (T : State) (locs : List Loc) (X : Stand p l e ({ frames := 0, cells := 0, slots := 0, locals := 0 } : Room) s m #[(.ref a), (.int (0 : Int32))] below meth c T locs 0 0) (eT : T.heap = h0) (N : Fr n0 locs), own_Ends p e below s 0 0 (own_PQ (.int (sl3_140k2 x1)) h0 n0) T (mkF m 140 #[.val (.ref a), .val (.int (0 : Int32)), .val (.int (x0 &&& (255 : Int32))), .val (.int (2 : Int32)), .val (.int (128 : Int32)), .val (.int (191 : Int32)), .unset, .unset] []) := by
    intro T locs X eT N
    unfold sl3_140k2
    refine own_st (T' := T) (F' := (mkF m 141 #[.val (.ref a), .val (.int (0 : Int32)), .val (.int (x0 &&& (255 : Int32))), .val (.int (2 : Int32)), .val (.int (128 : Int32)), .val (.int (191 : Int32)), .unset, .unset] [(.ref a)])) (fun _ kq => XS.aloadN X.here hx rfl (hb hby d1_140) rfl rfl kq) ?_
    refine own_st (T' := T) (F' := (mkF m 142 #[.val (.ref a), .val (.int (0 : Int32)), .val (.int (x0 &&& (255 : Int32))), .val (.int (2 : Int32)), .val (.int (128 : Int32)), .val (.int (191 : Int32)), .unset, .unset] [(.int (3 : Int32))])) (own_lenI X hx hZ eT V (g := (mkF m 141 #[.val (.ref a), .val (.int (0 : Int32)), .val (.int (x0 &&& (255 : Int32))), .val (.int (2 : Int32)), .val (.int (128 : Int32)), .val (.int (191 : Int32)), .unset, .unset] [(.ref a)])) rfl rfl (hb hby d1_141)) ?_
    refine own_st (T' := T) (F' := (mkF m 143 #[.val (.ref a), .val (.int (0 : Int32)), .val (.int (x0 &&& (255 : Int32))), .val (.int (2 : Int32)), .val (.int (128 : Int32)), .val (.int (191 : Int32)), .unset, .unset] [(.int (0 : Int32)), (.int (3 : Int32))])) (fun _ kq => XS.iloadN X.here hx rfl (hb hby d1_142) rfl kq) ?_
    refine own_st (T' := T) (F' := (mkF m 144 #[.val (.ref a), .val (.int (0 : Int32)), .val (.int (x0 &&& (255 : Int32))), .val (.int (2 : Int32)), .val (.int (128 : Int32)), .val (.int (191 : Int32)), .unset, .unset] [(.int (3 : Int32))])) (fun _ kq => XS.isub X.here hx rfl (hb hby d1_143) rfl kq) ?_
    refine own_st (T' := T) (F' := (mkF m 145 #[.val (.ref a), .val (.int (0 : Int32)), .val (.int (x0 &&& (255 : Int32))), .val (.int (2 : Int32)), .val (.int (128 : Int32)), .val (.int (191 : Int32)), .unset, .unset] [(.int (2 : Int32)), (.int (3 : Int32))])) (fun _ kq => XS.iloadN X.here hx rfl (hb hby d1_144) rfl kq) ?_
    refine own_st (T' := T) (F' := (mkF m 150 #[.val (.ref a), .val (.int (0 : Int32)), .val (.int (x0 &&& (255 : Int32))), .val (.int (2 : Int32)), .val (.int (128 : Int32)), .val (.int (191 : Int32)), .unset, .unset] [])) (fun _ kq => XS.icmpYes X.here hx rfl (pc0 := 145) (pc' := 150) rfl (hb hby d1_145) rfl (flt (by decide : ¬ ((3 : Int32) < (2 : Int32)))).2.1 (by decide) (by decide) kq) ?_
    refine own_st (T' := T) (F' := (mkF m 151 #[.val (.ref a), .val (.int (0 : Int32)), .val (.int (x0 &&& (255 : Int32))), .val (.int (2 : Int32)), .val (.int (128 : Int32)), .val (.int (191 : Int32)), .unset, .unset] [(.ref a)])) (fun _ kq => XS.aloadN X.here hx rfl (hb hby d1_150) rfl rfl kq) ?_
    refine own_st (T' := T) (F' := (mkF m 152 #[.val (.ref a), .val (.int (0 : Int32)), .val (.int (x0 &&& (255 : Int32))), .val (.int (2 : Int32)), .val (.int (128 : Int32)), .val (.int (191 : Int32)), .unset, .unset] [(.int (0 : Int32)), (.ref a)])) (fun _ kq => XS.iloadN X.here hx rfl (hb hby d1_151) rfl kq) ?_
    refine own_st (T' := T) (F' := (mkF m 153 #[.val (.ref a), .val (.int (0 : Int32)), .val (.int (x0 &&& (255 : Int32))), .val (.int (2 : Int32)), .val (.int (128 : Int32)), .val (.int (191 : Int32)), .unset, .unset] [(.int (1 : Int32)), (.int (0 : Int32)), (.ref a)])) (fun _ kq => XS.iconst X.here hx rfl (hb hby d1_152) kq) ?_
    refine own_st (T' := T) (F' := (mkF m 154 #[.val (.ref a), .val (.int (0 : Int32)), .val (.int (x0 &&& (255 : Int32))), .val (.int (2 : Int32)), .val (.int (128 : Int32)), .val (.int (191 : Int32)), .unset, .unset] [(.int (1 : Int32)), (.ref a)])) (fun _ kq => XS.iadd X.here hx rfl (hb hby d1_153) rfl kq) ?_
    refine own_st (T' := T) (F' := (mkF m 155 #[.val (.ref a), .val (.int (0 : Int32)), .val (.int (x0 &&& (255 : Int32))), .val (.int (2 : Int32)), .val (.int (128 : Int32)), .val (.int (191 : Int32)), .unset, .unset] [(.int x1)])) (own_baload X hx hZ eT V (g := (mkF m 154 #[.val (.ref a), .val (.int (0 : Int32)), .val (.int (x0 &&& (255 : Int32))), .val (.int (2 : Int32)), .val (.int (128 : Int32)), .val (.int (191 : Int32)), .unset, .unset] [(.int (1 : Int32)), (.ref a)])) rfl rfl (hb hby d1_154) (by decide) (Nat.le_of_ble_eq_true rfl) (w := x1) rfl) ?_
    refine own_st (T' := T) (F' := (mkF m 158 #[.val (.ref a), .val (.int (0 : Int32)), .val (.int (x0 &&& (255 : Int32))), .val (.int (2 : Int32)), .val (.int (128 : Int32)), .val (.int (191 : Int32)), .unset, .unset] [(.int (255 : Int32)), (.int x1)])) (fun _ kq => XS.sipush X.here hx rfl (hb hby d1_155) kq) ?_
    refine own_st (T' := T) (F' := (mkF m 159 #[.val (.ref a), .val (.int (0 : Int32)), .val (.int (x0 &&& (255 : Int32))), .val (.int (2 : Int32)), .val (.int (128 : Int32)), .val (.int (191 : Int32)), .unset, .unset] [(.int (x1 &&& (255 : Int32)))])) (fun _ kq => XS.iand X.here hx rfl (hb hby d1_158) rfl kq) ?_
    refine own_st (T' := T) (F' := (mkF m 161 #[.val (.ref a), .val (.int (0 : Int32)), .val (.int (x0 &&& (255 : Int32))), .val (.int (2 : Int32)), .val (.int (128 : Int32)), .val (.int (191 : Int32)), .val (.int (x1 &&& (255 : Int32))), .unset] [])) (fun _ kq => XS.istore X.here hx rfl (hb hby d1_159) rfl (l' := #[.val (.ref a), .val (.int (0 : Int32)), .val (.int (x0 &&& (255 : Int32))), .val (.int (2 : Int32)), .val (.int (128 : Int32)), .val (.int (191 : Int32)), .val (.int (x1 &&& (255 : Int32))), .unset]) rfl kq) ?_
    refine own_st (T' := T) (F' := (mkF m 163 #[.val (.ref a), .val (.int (0 : Int32)), .val (.int (x0 &&& (255 : Int32))), .val (.int (2 : Int32)), .val (.int (128 : Int32)), .val (.int (191 : Int32)), .val (.int (x1 &&& (255 : Int32))), .unset] [(.int (x1 &&& (255 : Int32)))])) (fun _ kq => XS.iload X.here hx rfl (hb hby d1_161) rfl kq) ?_
    refine own_st (T' := T) (F' := (mkF m 165 #[.val (.ref a), .val (.int (0 : Int32)), .val (.int (x0 &&& (255 : Int32))), .val (.int (2 : Int32)), .val (.int (128 : Int32)), .val (.int (191 : Int32)), .val (.int (x1 &&& (255 : Int32))), .unset] [(.int (128 : Int32)), (.int (x1 &&& (255 : Int32)))])) (fun _ kq => XS.iload X.here hx rfl (hb hby d1_163) rfl kq) ?_
    by_cases hc165_51 : (x1 &&& (255 : Int32)) < (128 : Int32)
    ·
      rw [if_pos hc165_51]
      refine own_st (T' := T) (F' := (mkF m 175 #[.val (.ref a), .val (.int (0 : Int32)), .val (.int (x0 &&& (255 : Int32))), .val (.int (2 : Int32)), .val (.int (128 : Int32)), .val (.int (191 : Int32)), .val (.int (x1 &&& (255 : Int32))), .unset] [])) (fun _ kq => XS.icmpYes X.here hx rfl (pc0 := 165) (pc' := 175) rfl (hb hby d1_165) rfl (tlt hc165_51).1 (by decide) (by decide) kq) ?_
      refine own_st (T' := T) (F' := (mkF m 176 #[.val (.ref a), .val (.int (0 : Int32)), .val (.int (x0 &&& (255 : Int32))), .val (.int (2 : Int32)), .val (.int (128 : Int32)), .val (.int (191 : Int32)), .val (.int (x1 &&& (255 : Int32))), .unset] [(.int (0 : Int32))])) (fun _ kq => XS.iconst X.here hx rfl (hb hby d1_175) kq) ?_
      exact own_retI X hx hlk hret (hb hby d1_176) (by decide) (by decide) (own_PQi rfl N eT)
    ·
      rw [if_neg hc165_51]
      refine own_st (T' := T) (F' := (mkF m 168 #[.val (.ref a), .val (.int (0 : Int32)), .val (.int (x0 &&& (255 : Int32))), .val (.int (2 : Int32)), .val (.int (128 : Int32)), .val (.int (191 : Int32)), .val (.int (x1 &&& (255 : Int32))), .unset] [])) (fun _ kq => XS.icmpNo X.here hx rfl (hb hby d1_165) rfl (flt hc165_51).1 kq) ?_
      refine own_st (T' := T) (F' := (mkF m 170 #[.val (.ref a), .val (.int (0 : Int32)), .val (.int (x0 &&& (255 : Int32))), .val (.int (2 : Int32)), .val (.int (128 : Int32)), .val (.int (191 : Int32)), .val (.int (x1 &&& (255 : Int32))), .unset] [(.int (x1 &&& (255 : Int32)))])) (fun _ kq => XS.iload X.here hx rfl (hb hby d1_168) rfl kq) ?_
      refine own_st (T' := T) (F' := (mkF m 172 #[.val (.ref a), .val (.int (0 : Int32)), .val (.int (x0 &&& (255 : Int32))), .val (.int (2 : Int32)), .val (.int (128 : Int32)), .val (.int (191 : Int32)), .val (.int (x1 &&& (255 : Int32))), .unset] [(.int (191 : Int32)), (.int (x1 &&& (255 : Int32)))])) (fun _ kq => XS.iload X.here hx rfl (hb hby d1_170) rfl kq) ?_
      by_cases hc172_52 : (191 : Int32) < (x1 &&& (255 : Int32))
      ·
        rw [if_pos hc172_52]
        refine own_st (T' := T) (F' := (mkF m 175 #[.val (.ref a), .val (.int (0 : Int32)), .val (.int (x0 &&& (255 : Int32))), .val (.int (2 : Int32)), .val (.int (128 : Int32)), .val (.int (191 : Int32)), .val (.int (x1 &&& (255 : Int32))), .unset] [])) (fun _ kq => XS.icmpNo X.here hx rfl (hb hby d1_172) rfl (tlt hc172_52).2.2.2 kq) ?_
        refine own_st (T' := T) (F' := (mkF m 176 #[.val (.ref a), .val (.int (0 : Int32)), .val (.int (x0 &&& (255 : Int32))), .val (.int (2 : Int32)), .val (.int (128 : Int32)), .val (.int (191 : Int32)), .val (.int (x1 &&& (255 : Int32))), .unset] [(.int (0 : Int32))])) (fun _ kq => XS.iconst X.here hx rfl (hb hby d1_175) kq) ?_
        exact own_retI X hx hlk hret (hb hby d1_176) (by decide) (by decide) (own_PQi rfl N eT)
      ·
        rw [if_neg hc172_52]
        refine own_st (T' := T) (F' := (mkF m 177 #[.val (.ref a), .val (.int (0 : Int32)), .val (.int (x0 &&& (255 : Int32))), .val (.int (2 : Int32)), .val (.int (128 : Int32)), .val (.int (191 : Int32)), .val (.int (x1 &&& (255 : Int32))), .unset] [])) (fun _ kq => XS.icmpYes X.here hx rfl (pc0 := 172) (pc' := 177) rfl (hb hby d1_172) rfl (flt hc172_52).2.2.2 (by decide) (by decide) kq) ?_
        refine own_st (T' := T) (F' := (mkF m 178 #[.val (.ref a), .val (.int (0 : Int32)), .val (.int (x0 &&& (255 : Int32))), .val (.int (2 : Int32)), .val (.int (128 : Int32)), .val (.int (191 : Int32)), .val (.int (x1 &&& (255 : Int32))), .unset] [(.int (2 : Int32))])) (fun _ kq => XS.iconst X.here hx rfl (hb hby d1_177) kq) ?_
        refine own_st (T' := T) (F' := (mkF m 180 #[.val (.ref a), .val (.int (0 : Int32)), .val (.int (x0 &&& (255 : Int32))), .val (.int (2 : Int32)), .val (.int (128 : Int32)), .val (.int (191 : Int32)), .val (.int (x1 &&& (255 : Int32))), .val (.int (2 : Int32))] [])) (fun _ kq => XS.istore X.here hx rfl (hb hby d1_178) rfl (l' := #[.val (.ref a), .val (.int (0 : Int32)), .val (.int (x0 &&& (255 : Int32))), .val (.int (2 : Int32)), .val (.int (128 : Int32)), .val (.int (191 : Int32)), .val (.int (x1 &&& (255 : Int32))), .val (.int (2 : Int32))]) rfl kq) ?_
        refine own_st (T' := T) (F' := (mkF m 182 #[.val (.ref a), .val (.int (0 : Int32)), .val (.int (x0 &&& (255 : Int32))), .val (.int (2 : Int32)), .val (.int (128 : Int32)), .val (.int (191 : Int32)), .val (.int (x1 &&& (255 : Int32))), .val (.int (2 : Int32))] [(.int (2 : Int32))])) (fun _ kq => XS.iload X.here hx rfl (hb hby d1_180) rfl kq) ?_
        refine own_st (T' := T) (F' := (mkF m 183 #[.val (.ref a), .val (.int (0 : Int32)), .val (.int (x0 &&& (255 : Int32))), .val (.int (2 : Int32)), .val (.int (128 : Int32)), .val (.int (191 : Int32)), .val (.int (x1 &&& (255 : Int32))), .val (.int (2 : Int32))] [(.int (2 : Int32)), (.int (2 : Int32))])) (fun _ kq => XS.iloadN X.here hx rfl (hb hby d1_182) rfl kq) ?_
        refine own_st (T' := T) (F' := (mkF m 210 #[.val (.ref a), .val (.int (0 : Int32)), .val (.int (x0 &&& (255 : Int32))), .val (.int (2 : Int32)), .val (.int (128 : Int32)), .val (.int (191 : Int32)), .val (.int (x1 &&& (255 : Int32))), .val (.int (2 : Int32))] [])) (fun _ kq => XS.icmpYes X.here hx rfl (pc0 := 183) (pc' := 210) rfl (hb hby d1_183) rfl (flt (by decide : ¬ ((2 : Int32) < (2 : Int32)))).2.1 (by decide) (by decide) kq) ?_
        refine own_st (T' := T) (F' := (mkF m 211 #[.val (.ref a), .val (.int (0 : Int32)), .val (.int (x0 &&& (255 : Int32))), .val (.int (2 : Int32)), .val (.int (128 : Int32)), .val (.int (191 : Int32)), .val (.int (x1 &&& (255 : Int32))), .val (.int (2 : Int32))] [(.int (2 : Int32))])) (fun _ kq => XS.iloadN X.here hx rfl (hb hby d1_210) rfl kq) ?_
        exact own_retI X hx hlk hret (hb hby d1_211) (by decide) (by decide) (own_PQi rfl N eT)
  have J92 : ∀ (T : State) (locs : List Loc) (X : Stand p l e ({ frames := 0, cells := 0, slots := 0, locals := 0 } : Room) s m #[(.ref a), (.int (0 : Int32))] below meth c T locs 0 0) (eT : T.heap = h0) (N : Fr n0 locs), own_Ends p e below s 0 0 (own_PQ (.int (sl3_92 x0)) h0 n0) T (mkF m 92 #[.val (.ref a), .val (.int (0 : Int32)), .val (.int (x0 &&& (255 : Int32))), .unset, .val (.int (128 : Int32)), .val (.int (191 : Int32)), .unset, .unset] []) := by
    intro T locs X eT N
    unfold sl3_92
    refine own_st (T' := T) (F' := (mkF m 93 #[.val (.ref a), .val (.int (0 : Int32)), .val (.int (x0 &&& (255 : Int32))), .unset, .val (.int (128 : Int32)), .val (.int (191 : Int32)), .unset, .unset] [(.int (x0 &&& (255 : Int32)))])) (fun _ kq => XS.iloadN X.here hx rfl (hb hby d1_92) rfl kq) ?_
    refine own_st (T' := T) (F' := (mkF m 96 #[.val (.ref a), .val (.int (0 : Int32)), .val (.int (x0 &&& (255 : Int32))), .unset, .val (.int (128 : Int32)), .val (.int (191 : Int32)), .unset, .unset] [(.int (240 : Int32)), (.int (x0 &&& (255 : Int32)))])) (fun _ kq => XS.sipush X.here hx rfl (hb hby d1_93) kq) ?_
    by_cases hc96_53 : (x0 &&& (255 : Int32)) < (240 : Int32)
    ·
      rw [if_pos hc96_53]
      refine own_st (T' := T) (F' := (mkF m 138 #[.val (.ref a), .val (.int (0 : Int32)), .val (.int (x0 &&& (255 : Int32))), .unset, .val (.int (128 : Int32)), .val (.int (191 : Int32)), .unset, .unset] [])) (fun _ kq => XS.icmpYes X.here hx rfl (pc0 := 96) (pc' := 138) rfl (hb hby d1_96) rfl (tlt hc96_53).1 (by decide) (by decide) kq) ?_
      refine own_st (T' := T) (F' := (mkF m 139 #[.val (.ref a), .val (.int (0 : Int32)), .val (.int (x0 &&& (255 : Int32))), .unset, .val (.int (128 : Int32)), .val (.int (191 : Int32)), .unset, .unset] [(.int (0 : Int32))])) (fun _ kq => XS.iconst X.here hx rfl (hb hby d1_138) kq) ?_
      exact own_retI X hx hlk hret (hb hby d1_139) (by decide) (by decide) (own_PQi rfl N eT)
    ·
      rw [if_neg hc96_53]
      refine own_st (T' := T) (F' := (mkF m 99 #[.val (.ref a), .val (.int (0 : Int32)), .val (.int (x0 &&& (255 : Int32))), .unset, .val (.int (128 : Int32)), .val (.int (191 : Int32)), .unset, .unset] [])) (fun _ kq => XS.icmpNo X.here hx rfl (hb hby d1_96) rfl (flt hc96_53).1 kq) ?_
      refine own_st (T' := T) (F' := (mkF m 100 #[.val (.ref a), .val (.int (0 : Int32)), .val (.int (x0 &&& (255 : Int32))), .unset, .val (.int (128 : Int32)), .val (.int (191 : Int32)), .unset, .unset] [(.int (x0 &&& (255 : Int32)))])) (fun _ kq => XS.iloadN X.here hx rfl (hb hby d1_99) rfl kq) ?_
      refine own_st (T' := T) (F' := (mkF m 103 #[.val (.ref a), .val (.int (0 : Int32)), .val (.int (x0 &&& (255 : Int32))), .unset, .val (.int (128 : Int32)), .val (.int (191 : Int32)), .unset, .unset] [(.int (244 : Int32)), (.int (x0 &&& (255 : Int32)))])) (fun _ kq => XS.sipush X.here hx rfl (hb hby d1_100) kq) ?_
      by_cases hc103_54 : (244 : Int32) < (x0 &&& (255 : Int32))
      ·
        rw [if_pos hc103_54]
        refine own_st (T' := T) (F' := (mkF m 138 #[.val (.ref a), .val (.int (0 : Int32)), .val (.int (x0 &&& (255 : Int32))), .unset, .val (.int (128 : Int32)), .val (.int (191 : Int32)), .unset, .unset] [])) (fun _ kq => XS.icmpYes X.here hx rfl (pc0 := 103) (pc' := 138) rfl (hb hby d1_103) rfl (tlt hc103_54).2.2.1 (by decide) (by decide) kq) ?_
        refine own_st (T' := T) (F' := (mkF m 139 #[.val (.ref a), .val (.int (0 : Int32)), .val (.int (x0 &&& (255 : Int32))), .unset, .val (.int (128 : Int32)), .val (.int (191 : Int32)), .unset, .unset] [(.int (0 : Int32))])) (fun _ kq => XS.iconst X.here hx rfl (hb hby d1_138) kq) ?_
        exact own_retI X hx hlk hret (hb hby d1_139) (by decide) (by decide) (own_PQi rfl N eT)
      ·
        rw [if_neg hc103_54]
        refine own_st (T' := T) (F' := (mkF m 106 #[.val (.ref a), .val (.int (0 : Int32)), .val (.int (x0 &&& (255 : Int32))), .unset, .val (.int (128 : Int32)), .val (.int (191 : Int32)), .unset, .unset] [])) (fun _ kq => XS.icmpNo X.here hx rfl (hb hby d1_103) rfl (flt hc103_54).2.2.1 kq) ?_
        refine own_st (T' := T) (F' := (mkF m 107 #[.val (.ref a), .val (.int (0 : Int32)), .val (.int (x0 &&& (255 : Int32))), .unset, .val (.int (128 : Int32)), .val (.int (191 : Int32)), .unset, .unset] [(.int (4 : Int32))])) (fun _ kq => XS.iconst X.here hx rfl (hb hby d1_106) kq) ?_
        refine own_st (T' := T) (F' := (mkF m 108 #[.val (.ref a), .val (.int (0 : Int32)), .val (.int (x0 &&& (255 : Int32))), .val (.int (4 : Int32)), .val (.int (128 : Int32)), .val (.int (191 : Int32)), .unset, .unset] [])) (fun _ kq => XS.istoreN X.here hx rfl (hb hby d1_107) rfl (l' := #[.val (.ref a), .val (.int (0 : Int32)), .val (.int (x0 &&& (255 : Int32))), .val (.int (4 : Int32)), .val (.int (128 : Int32)), .val (.int (191 : Int32)), .unset, .unset]) rfl kq) ?_
        refine own_st (T' := T) (F' := (mkF m 109 #[.val (.ref a), .val (.int (0 : Int32)), .val (.int (x0 &&& (255 : Int32))), .val (.int (4 : Int32)), .val (.int (128 : Int32)), .val (.int (191 : Int32)), .unset, .unset] [(.int (x0 &&& (255 : Int32)))])) (fun _ kq => XS.iloadN X.here hx rfl (hb hby d1_108) rfl kq) ?_
        refine own_st (T' := T) (F' := (mkF m 112 #[.val (.ref a), .val (.int (0 : Int32)), .val (.int (x0 &&& (255 : Int32))), .val (.int (4 : Int32)), .val (.int (128 : Int32)), .val (.int (191 : Int32)), .unset, .unset] [(.int (240 : Int32)), (.int (x0 &&& (255 : Int32)))])) (fun _ kq => XS.sipush X.here hx rfl (hb hby d1_109) kq) ?_
        by_cases hc112_55 : (x0 &&& (255 : Int32)) = (240 : Int32)
        ·
          rw [if_pos hc112_55]
          refine own_st (T' := T) (F' := (mkF m 115 #[.val (.ref a), .val (.int (0 : Int32)), .val (.int (x0 &&& (255 : Int32))), .val (.int (4 : Int32)), .val (.int (128 : Int32)), .val (.int (191 : Int32)), .unset, .unset] [])) (fun _ kq => XS.icmpNo X.here hx rfl (hb hby d1_112) rfl (teq hc112_55).2 kq) ?_
          refine own_st (T' := T) (F' := (mkF m 118 #[.val (.ref a), .val (.int (0 : Int32)), .val (.int (x0 &&& (255 : Int32))), .val (.int (4 : Int32)), .val (.int (128 : Int32)), .val (.int (191 : Int32)), .unset, .unset] [(.int (144 : Int32))])) (fun _ kq => XS.sipush X.here hx rfl (hb hby d1_115) kq) ?_
          refine own_st (T' := T) (F' := (mkF m 120 #[.val (.ref a), .val (.int (0 : Int32)), .val (.int (x0 &&& (255 : Int32))), .val (.int (4 : Int32)), .val (.int (144 : Int32)), .val (.int (191 : Int32)), .unset, .unset] [])) (fun _ kq => XS.istore X.here hx rfl (hb hby d1_118) rfl (l' := #[.val (.ref a), .val (.int (0 : Int32)), .val (.int (x0 &&& (255 : Int32))), .val (.int (4 : Int32)), .val (.int (144 : Int32)), .val (.int (191 : Int32)), .unset, .unset]) rfl kq) ?_
          refine own_st (T' := T) (F' := (mkF m 140 #[.val (.ref a), .val (.int (0 : Int32)), .val (.int (x0 &&& (255 : Int32))), .val (.int (4 : Int32)), .val (.int (144 : Int32)), .val (.int (191 : Int32)), .unset, .unset] [])) (fun _ kq => XS.goto X.here hx rfl (pc0 := 120) (pc' := 140) rfl (hb hby d1_120) (by decide) (by decide) kq) ?_
          exact J140k4 (144 : Int32) (191 : Int32) T _ X eT N
        ·
          rw [if_neg hc112_55]
          refine own_st (T' := T) (F' := (mkF m 123 #[.val (.ref a), .val (.int (0 : Int32)), .val (.int (x0 &&& (255 : Int32))), .val (.int (4 : Int32)), .val (.int (128 : Int32)), .val (.int (191 : Int32)), .unset, .unset] [])) (fun _ kq => XS.icmpYes X.here hx rfl (pc0 := 112) (pc' := 123) rfl (hb hby d1_112) rfl (feq hc112_55).2 (by decide) (by decide) kq) ?_
          refine own_st (T' := T) (F' := (mkF m 124 #[.val (.ref a), .val (.int (0 : Int32)), .val (.int (x0 &&& (255 : Int32))), .val (.int (4 : Int32)), .val (.int (128 : Int32)), .val (.int (191 : Int32)), .unset, .unset] [(.int (x0 &&& (255 : Int32)))])) (fun _ kq => XS.iloadN X.here hx rfl (hb hby d1_123) rfl kq) ?_
          refine own_st (T' := T) (F' := (mkF m 127 #[.val (.ref a), .val (.int (0 : Int32)), .val (.int (x0 &&& (255 : Int32))), .val (.int (4 : Int32)), .val (.int (128 : Int32)), .val (.int (191 : Int32)), .unset, .unset] [(.int (244 : Int32)), (.int (x0 &&& (255 : Int32)))])) (fun _ kq => XS.sipush X.here hx rfl (hb hby d1_124) kq) ?_
          by_cases hc127_56 : (x0 &&& (255 : Int32)) = (244 : Int32)
          ·
            rw [if_pos hc127_56]
            refine own_st (T' := T) (F' := (mkF m 130 #[.val (.ref a), .val (.int (0 : Int32)), .val (.int (x0 &&& (255 : Int32))), .val (.int (4 : Int32)), .val (.int (128 : Int32)), .val (.int (191 : Int32)), .unset, .unset] [])) (fun _ kq => XS.icmpNo X.here hx rfl (hb hby d1_127) rfl (teq hc127_56).2 kq) ?_
            refine own_st (T' := T) (F' := (mkF m 133 #[.val (.ref a), .val (.int (0 : Int32)), .val (.int (x0 &&& (255 : Int32))), .val (.int (4 : Int32)), .val (.int (128 : Int32)), .val (.int (191 : Int32)), .unset, .unset] [(.int (143 : Int32))])) (fun _ kq => XS.sipush X.here hx rfl (hb hby d1_130) kq) ?_
            refine own_st (T' := T) (F' := (mkF m 135 #[.val (.ref a), .val (.int (0 : Int32)), .val (.int (x0 &&& (255 : Int32))), .val (.int (4 : Int32)), .val (.int (128 : Int32)), .val (.int (143 : Int32)), .unset, .unset] [])) (fun _ kq => XS.istore X.here hx rfl (hb hby d1_133) rfl (l' := #[.val (.ref a), .val (.int (0 : Int32)), .val (.int (x0 &&& (255 : Int32))), .val (.int (4 : Int32)), .val (.int (128 : Int32)), .val (.int (143 : Int32)), .unset, .unset]) rfl kq) ?_
            refine own_st (T' := T) (F' := (mkF m 140 #[.val (.ref a), .val (.int (0 : Int32)), .val (.int (x0 &&& (255 : Int32))), .val (.int (4 : Int32)), .val (.int (128 : Int32)), .val (.int (143 : Int32)), .unset, .unset] [])) (fun _ kq => XS.goto X.here hx rfl (pc0 := 135) (pc' := 140) rfl (hb hby d1_135) (by decide) (by decide) kq) ?_
            exact J140k4 (128 : Int32) (143 : Int32) T _ X eT N
          ·
            rw [if_neg hc127_56]
            refine own_st (T' := T) (F' := (mkF m 140 #[.val (.ref a), .val (.int (0 : Int32)), .val (.int (x0 &&& (255 : Int32))), .val (.int (4 : Int32)), .val (.int (128 : Int32)), .val (.int (191 : Int32)), .unset, .unset] [])) (fun _ kq => XS.icmpYes X.here hx rfl (pc0 := 127) (pc' := 140) rfl (hb hby d1_127) rfl (feq hc127_56).2 (by decide) (by decide) kq) ?_
            exact J140k4 (128 : Int32) (191 : Int32) T _ X eT N
  have J46 : ∀ (T : State) (locs : List Loc) (X : Stand p l e ({ frames := 0, cells := 0, slots := 0, locals := 0 } : Room) s m #[(.ref a), (.int (0 : Int32))] below meth c T locs 0 0) (eT : T.heap = h0) (N : Fr n0 locs), own_Ends p e below s 0 0 (own_PQ (.int (sl3_46 x0 x1 x2)) h0 n0) T (mkF m 46 #[.val (.ref a), .val (.int (0 : Int32)), .val (.int (x0 &&& (255 : Int32))), .unset, .val (.int (128 : Int32)), .val (.int (191 : Int32)), .unset, .unset] []) := by
    intro T locs X eT N
    unfold sl3_46
    refine own_st (T' := T) (F' := (mkF m 47 #[.val (.ref a), .val (.int (0 : Int32)), .val (.int (x0 &&& (255 : Int32))), .unset, .val (.int (128 : Int32)), .val (.int (191 : Int32)), .unset, .unset] [(.int (x0 &&& (255 : Int32)))])) (fun _ kq => XS.iloadN X.here hx rfl (hb hby d1_46) rfl kq) ?_
    refine own_st (T' := T) (F' := (mkF m 50 #[.val (.ref a), .val (.int (0 : Int32)), .val (.int (x0 &&& (255 : Int32))), .unset, .val (.int (128 : Int32)), .val (.int (191 : Int32)), .unset, .unset] [(.int (224 : Int32)), (.int (x0 &&& (255 : Int32)))])) (fun _ kq => XS.sipush X.here hx rfl (hb hby d1_47) kq) ?_
    by_cases hc50_57 : (x0 &&& (255 : Int32)) < (224 : Int32)
    ·
      rw [if_pos hc50_57]
      refine own_st (T' := T) (F' := (mkF m 92 #[.val (.ref a), .val (.int (0 : Int32)), .val (.int (x0 &&& (255 : Int32))), .unset, .val (.int (128 : Int32)), .val (.int (191 : Int32)), .unset, .unset] [])) (fun _ kq => XS.icmpYes X.here hx rfl (pc0 := 50) (pc' := 92) rfl (hb hby d1_50) rfl (tlt hc50_57).1 (by decide) (by decide) kq) ?_
      exact J92  T _ X eT N
    ·
      rw [if_neg hc50_57]
      refine own_st (T' := T) (F' := (mkF m 53 #[.val (.ref a), .val (.int (0 : Int32)), .val (.int (x0 &&& (255 : Int32))), .unset, .val (.int (128 : Int32)), .val (.int (191 : Int32)), .unset, .unset] [])) (fun _ kq => XS.icmpNo X.here hx rfl (hb hby d1_50) rfl (flt hc50_57).1 kq) ?_
      refine own_st (T' := T) (F' := (mkF m 54 #[.val (.ref a), .val (.int (0 : Int32)), .val (.int (x0 &&& (255 : Int32))), .unset, .val (.int (128 : Int32)), .val (.int (191 : Int32)), .unset, .unset] [(.int (x0 &&& (255 : Int32)))])) (fun _ kq => XS.iloadN X.here hx rfl (hb hby d1_53) rfl kq) ?_
      refine own_st (T' := T) (F' := (mkF m 57 #[.val (.ref a), .val (.int (0 : Int32)), .val (.int (x0 &&& (255 : Int32))), .unset, .val (.int (128 : Int32)), .val (.int (191 : Int32)), .unset, .unset] [(.int (239 : Int32)), (.int (x0 &&& (255 : Int32)))])) (fun _ kq => XS.sipush X.here hx rfl (hb hby d1_54) kq) ?_
      by_cases hc57_58 : (239 : Int32) < (x0 &&& (255 : Int32))
      ·
        rw [if_pos hc57_58]
        refine own_st (T' := T) (F' := (mkF m 92 #[.val (.ref a), .val (.int (0 : Int32)), .val (.int (x0 &&& (255 : Int32))), .unset, .val (.int (128 : Int32)), .val (.int (191 : Int32)), .unset, .unset] [])) (fun _ kq => XS.icmpYes X.here hx rfl (pc0 := 57) (pc' := 92) rfl (hb hby d1_57) rfl (tlt hc57_58).2.2.1 (by decide) (by decide) kq) ?_
        exact J92  T _ X eT N
      ·
        rw [if_neg hc57_58]
        refine own_st (T' := T) (F' := (mkF m 60 #[.val (.ref a), .val (.int (0 : Int32)), .val (.int (x0 &&& (255 : Int32))), .unset, .val (.int (128 : Int32)), .val (.int (191 : Int32)), .unset, .unset] [])) (fun _ kq => XS.icmpNo X.here hx rfl (hb hby d1_57) rfl (flt hc57_58).2.2.1 kq) ?_
        refine own_st (T' := T) (F' := (mkF m 61 #[.val (.ref a), .val (.int (0 : Int32)), .val (.int (x0 &&& (255 : Int32))), .unset, .val (.int (128 : Int32)), .val (.int (191 : Int32)), .unset, .unset] [(.int (3 : Int32))])) (fun _ kq => XS.iconst X.here hx rfl (hb hby d1_60) kq) ?_
        refine own_st (T' := T) (F' := (mkF m 62 #[.val (.ref a), .val (.int (0 : Int32)), .val (.int (x0 &&& (255 : Int32))), .val (.int (3 : Int32)), .val (.int (128 : Int32)), .val (.int (191 : Int32)), .unset, .unset] [])) (fun _ kq => XS.istoreN X.here hx rfl (hb hby d1_61) rfl (l' := #[.val (.ref a), .val (.int (0 : Int32)), .val (.int (x0 &&& (255 : Int32))), .val (.int (3 : Int32)), .val (.int (128 : Int32)), .val (.int (191 : Int32)), .unset, .unset]) rfl kq) ?_
        refine own_st (T' := T) (F' := (mkF m 63 #[.val (.ref a), .val (.int (0 : Int32)), .val (.int (x0 &&& (255 : Int32))), .val (.int (3 : Int32)), .val (.int (128 : Int32)), .val (.int (191 : Int32)), .unset, .unset] [(.int (x0 &&& (255 : Int32)))])) (fun _ kq => XS.iloadN X.here hx rfl (hb hby d1_62) rfl kq) ?_
        refine own_st (T' := T) (F' := (mkF m 66 #[.val (.ref a), .val (.int (0 : Int32)), .val (.int (x0 &&& (255 : Int32))), .val (.int (3 : Int32)), .val (.int (128 : Int32)), .val (.int (191 : Int32)), .unset, .unset] [(.int (224 : Int32)), (.int (x0 &&& (255 : Int32)))])) (fun _ kq => XS.sipush X.here hx rfl (hb hby d1_63) kq) ?_
        by_cases hc66_59 : (x0 &&& (255 : Int32)) = (224 : Int32)
        ·
          rw [if_pos hc66_59]
          refine own_st (T' := T) (F' := (mkF m 69 #[.val (.ref a), .val (.int (0 : Int32)), .val (.int (x0 &&& (255 : Int32))), .val (.int (3 : Int32)), .val (.int (128 : Int32)), .val (.int (191 : Int32)), .unset, .unset] [])) (fun _ kq => XS.icmpNo X.here hx rfl (hb hby d1_66) rfl (teq hc66_59).2 kq) ?_
          refine own_st (T' := T) (F' := (mkF m 72 #[.val (.ref a), .val (.int (0 : Int32)), .val (.int (x0 &&& (255 : Int32))), .val (.int (3 : Int32)), .val (.int (128 : Int32)), .val (.int (191 : Int32)), .unset, .unset] [(.int (160 : Int32))])) (fun _ kq => XS.sipush X.here hx rfl (hb hby d1_69) kq) ?_
          refine own_st (T' := T) (F' := (mkF m 74 #[.val (.ref a), .val (.int (0 : Int32)), .val (.int (x0 &&& (255 : Int32))), .val (.int (3 : Int32)), .val (.int (160 : Int32)), .val (.int (191 : Int32)), .unset, .unset] [])) (fun _ kq => XS.istore X.here hx rfl (hb hby d1_72) rfl (l' := #[.val (.ref a), .val (.int (0 : Int32)), .val (.int (x0 &&& (255 : Int32))), .val (.int (3 : Int32)), .val (.int (160 : Int32)), .val (.int (191 : Int32)), .unset, .unset]) rfl kq) ?_
          refine own_st (T' := T) (F' := (mkF m 140 #[.val (.ref a), .val (.int (0 : Int32)), .val (.int (x0 &&& (255 : Int32))), .val (.int (3 : Int32)), .val (.int (160 : Int32)), .val (.int (191 : Int32)), .unset, .unset] [])) (fun _ kq => XS.goto X.here hx rfl (pc0 := 74) (pc' := 140) rfl (hb hby d1_74) (by decide) (by decide) kq) ?_
          exact J140k3 (160 : Int32) (191 : Int32) T _ X eT N
        ·
          rw [if_neg hc66_59]
          refine own_st (T' := T) (F' := (mkF m 77 #[.val (.ref a), .val (.int (0 : Int32)), .val (.int (x0 &&& (255 : Int32))), .val (.int (3 : Int32)), .val (.int (128 : Int32)), .val (.int (191 : Int32)), .unset, .unset] [])) (fun _ kq => XS.icmpYes X.here hx rfl (pc0 := 66) (pc' := 77) rfl (hb hby d1_66) rfl (feq hc66_59).2 (by decide) (by decide) kq) ?_
          refine own_st (T' := T) (F' := (mkF m 78 #[.val (.ref a), .val (.int (0 : Int32)), .val (.int (x0 &&& (255 : Int32))), .val (.int (3 : Int32)), .val (.int (128 : Int32)), .val (.int (191 : Int32)), .unset, .unset] [(.int (x0 &&& (255 : Int32)))])) (fun _ kq => XS.iloadN X.here hx rfl (hb hby d1_77) rfl kq) ?_
          refine own_st (T' := T) (F' := (mkF m 81 #[.val (.ref a), .val (.int (0 : Int32)), .val (.int (x0 &&& (255 : Int32))), .val (.int (3 : Int32)), .val (.int (128 : Int32)), .val (.int (191 : Int32)), .unset, .unset] [(.int (237 : Int32)), (.int (x0 &&& (255 : Int32)))])) (fun _ kq => XS.sipush X.here hx rfl (hb hby d1_78) kq) ?_
          by_cases hc81_60 : (x0 &&& (255 : Int32)) = (237 : Int32)
          ·
            rw [if_pos hc81_60]
            refine own_st (T' := T) (F' := (mkF m 84 #[.val (.ref a), .val (.int (0 : Int32)), .val (.int (x0 &&& (255 : Int32))), .val (.int (3 : Int32)), .val (.int (128 : Int32)), .val (.int (191 : Int32)), .unset, .unset] [])) (fun _ kq => XS.icmpNo X.here hx rfl (hb hby d1_81) rfl (teq hc81_60).2 kq) ?_
            refine own_st (T' := T) (F' := (mkF m 87 #[.val (.ref a), .val (.int (0 : Int32)), .val (.int (x0 &&& (255 : Int32))), .val (.int (3 : Int32)), .val (.int (128 : Int32)), .val (.int (191 : Int32)), .unset, .unset] [(.int (159 : Int32))])) (fun _ kq => XS.sipush X.here hx rfl (hb hby d1_84) kq) ?_
            refine own_st (T' := T) (F' := (mkF m 89 #[.val (.ref a), .val (.int (0 : Int32)), .val (.int (x0 &&& (255 : Int32))), .val (.int (3 : Int32)), .val (.int (128 : Int32)), .val (.int (159 : Int32)), .unset, .unset] [])) (fun _ kq => XS.istore X.here hx rfl (hb hby d1_87) rfl (l' := #[.val (.ref a), .val (.int (0 : Int32)), .val (.int (x0 &&& (255 : Int32))), .val (.int (3 : Int32)), .val (.int (128 : Int32)), .val (.int (159 : Int32)), .unset, .unset]) rfl kq) ?_
            refine own_st (T' := T) (F' := (mkF m 140 #[.val (.ref a), .val (.int (0 : Int32)), .val (.int (x0 &&& (255 : Int32))), .val (.int (3 : Int32)), .val (.int (128 : Int32)), .val (.int (159 : Int32)), .unset, .unset] [])) (fun _ kq => XS.goto X.here hx rfl (pc0 := 89) (pc' := 140) rfl (hb hby d1_89) (by decide) (by decide) kq) ?_
            exact J140k3 (128 : Int32) (159 : Int32) T _ X eT N
          ·
            rw [if_neg hc81_60]
            refine own_st (T' := T) (F' := (mkF m 140 #[.val (.ref a), .val (.int (0 : Int32)), .val (.int (x0 &&& (255 : Int32))), .val (.int (3 : Int32)), .val (.int (128 : Int32)), .val (.int (191 : Int32)), .unset, .unset] [])) (fun _ kq => XS.icmpYes X.here hx rfl (pc0 := 81) (pc' := 140) rfl (hb hby d1_81) rfl (feq hc81_60).2 (by decide) (by decide) kq) ?_
            exact J140k3 (128 : Int32) (191 : Int32) T _ X eT N
  have N := Fr.nil n0
  refine own_entry (ef1 m a (0 : Int32)) ?_
  unfold sl3
  refine own_st (T' := T) (F' := (mkF m 1 #[.val (.ref a), .val (.int (0 : Int32)), .unset, .unset, .unset, .unset, .unset, .unset] [(.ref a)])) (fun _ kq => XS.aloadN X.here hx rfl (hb hby d1_0) rfl rfl kq) ?_
  refine own_st (T' := T) (F' := (mkF m 2 #[.val (.ref a), .val (.int (0 : Int32)), .unset, .unset, .unset, .unset, .unset, .unset] [(.int (0 : Int32)), (.ref a)])) (fun _ kq => XS.iloadN X.here hx rfl (hb hby d1_1) rfl kq) ?_
  refine own_st (T' := T) (F' := (mkF m 3 #[.val (.ref a), .val (.int (0 : Int32)), .unset, .unset, .unset, .unset, .unset, .unset] [(.int x0)])) (own_baload X hx hZ eT V (g := (mkF m 2 #[.val (.ref a), .val (.int (0 : Int32)), .unset, .unset, .unset, .unset, .unset, .unset] [(.int (0 : Int32)), (.ref a)])) rfl rfl (hb hby d1_2) (by decide) (Nat.le_of_ble_eq_true rfl) (w := x0) rfl) ?_
  refine own_st (T' := T) (F' := (mkF m 6 #[.val (.ref a), .val (.int (0 : Int32)), .unset, .unset, .unset, .unset, .unset, .unset] [(.int (255 : Int32)), (.int x0)])) (fun _ kq => XS.sipush X.here hx rfl (hb hby d1_3) kq) ?_
  refine own_st (T' := T) (F' := (mkF m 7 #[.val (.ref a), .val (.int (0 : Int32)), .unset, .unset, .unset, .unset, .unset, .unset] [(.int (x0 &&& (255 : Int32)))])) (fun _ kq => XS.iand X.here hx rfl (hb hby d1_6) rfl kq) ?_
  refine own_st (T' := T) (F' := (mkF m 8 #[.val (.ref a), .val (.int (0 : Int32)), .val (.int (x0 &&& (255 : Int32))), .unset, .unset, .unset, .unset, .unset] [])) (fun _ kq => XS.istoreN X.here hx rfl (hb hby d1_7) rfl (l' := #[.val (.ref a), .val (.int (0 : Int32)), .val (.int (x0 &&& (255 : Int32))), .unset, .unset, .unset, .unset, .unset]) rfl kq) ?_
  refine own_st (T' := T) (F' := (mkF m 9 #[.val (.ref a), .val (.int (0 : Int32)), .val (.int (x0 &&& (255 : Int32))), .unset, .unset, .unset, .unset, .unset] [(.int (x0 &&& (255 : Int32)))])) (fun _ kq => XS.iloadN X.here hx rfl (hb hby d1_8) rfl kq) ?_
  refine own_st (T' := T) (F' := (mkF m 12 #[.val (.ref a), .val (.int (0 : Int32)), .val (.int (x0 &&& (255 : Int32))), .unset, .unset, .unset, .unset, .unset] [(.int (128 : Int32)), (.int (x0 &&& (255 : Int32)))])) (fun _ kq => XS.sipush X.here hx rfl (hb hby d1_9) kq) ?_
  by_cases hc12_61 : (x0 &&& (255 : Int32)) < (128 : Int32)
  ·
    rw [if_pos hc12_61]
    refine own_st (T' := T) (F' := (mkF m 15 #[.val (.ref a), .val (.int (0 : Int32)), .val (.int (x0 &&& (255 : Int32))), .unset, .unset, .unset, .unset, .unset] [])) (fun _ kq => XS.icmpNo X.here hx rfl (hb hby d1_12) rfl (tlt hc12_61).2.1 kq) ?_
    refine own_st (T' := T) (F' := (mkF m 16 #[.val (.ref a), .val (.int (0 : Int32)), .val (.int (x0 &&& (255 : Int32))), .unset, .unset, .unset, .unset, .unset] [(.int (1 : Int32))])) (fun _ kq => XS.iconst X.here hx rfl (hb hby d1_15) kq) ?_
    exact own_retI X hx hlk hret (hb hby d1_16) (by decide) (by decide) (own_PQi rfl N eT)
  ·
    rw [if_neg hc12_61]
    refine own_st (T' := T) (F' := (mkF m 17 #[.val (.ref a), .val (.int (0 : Int32)), .val (.int (x0 &&& (255 : Int32))), .unset, .unset, .unset, .unset, .unset] [])) (fun _ kq => XS.icmpYes X.here hx rfl (pc0 := 12) (pc' := 17) rfl (hb hby d1_12) rfl (flt hc12_61).2.1 (by decide) (by decide) kq) ?_
    refine own_st (T' := T) (F' := (mkF m 20 #[.val (.ref a), .val (.int (0 : Int32)), .val (.int (x0 &&& (255 : Int32))), .unset, .unset, .unset, .unset, .unset] [(.int (128 : Int32))])) (fun _ kq => XS.sipush X.here hx rfl (hb hby d1_17) kq) ?_
    refine own_st (T' := T) (F' := (mkF m 22 #[.val (.ref a), .val (.int (0 : Int32)), .val (.int (x0 &&& (255 : Int32))), .unset, .val (.int (128 : Int32)), .unset, .unset, .unset] [])) (fun _ kq => XS.istore X.here hx rfl (hb hby d1_20) rfl (l' := #[.val (.ref a), .val (.int (0 : Int32)), .val (.int (x0 &&& (255 : Int32))), .unset, .val (.int (128 : Int32)), .unset, .unset, .unset]) rfl kq) ?_
    refine own_st (T' := T) (F' := (mkF m 25 #[.val (.ref a), .val (.int (0 : Int32)), .val (.int (x0 &&& (255 : Int32))), .unset, .val (.int (128 : Int32)), .unset, .unset, .unset] [(.int (191 : Int32))])) (fun _ kq => XS.sipush X.here hx rfl (hb hby d1_22) kq) ?_
    refine own_st (T' := T) (F' := (mkF m 27 #[.val (.ref a), .val (.int (0 : Int32)), .val (.int (x0 &&& (255 : Int32))), .unset, .val (.int (128 : Int32)), .val (.int (191 : Int32)), .unset, .unset] [])) (fun _ kq => XS.istore X.here hx rfl (hb hby d1_25) rfl (l' := #[.val (.ref a), .val (.int (0 : Int32)), .val (.int (x0 &&& (255 : Int32))), .unset, .val (.int (128 : Int32)), .val (.int (191 : Int32)), .unset, .unset]) rfl kq) ?_
    refine own_st (T' := T) (F' := (mkF m 28 #[.val (.ref a), .val (.int (0 : Int32)), .val (.int (x0 &&& (255 : Int32))), .unset, .val (.int (128 : Int32)), .val (.int (191 : Int32)), .unset, .unset] [(.int (x0 &&& (255 : Int32)))])) (fun _ kq => XS.iloadN X.here hx rfl (hb hby d1_27) rfl kq) ?_
    refine own_st (T' := T) (F' := (mkF m 31 #[.val (.ref a), .val (.int (0 : Int32)), .val (.int (x0 &&& (255 : Int32))), .unset, .val (.int (128 : Int32)), .val (.int (191 : Int32)), .unset, .unset] [(.int (194 : Int32)), (.int (x0 &&& (255 : Int32)))])) (fun _ kq => XS.sipush X.here hx rfl (hb hby d1_28) kq) ?_
    by_cases hc31_62 : (x0 &&& (255 : Int32)) < (194 : Int32)
    ·
      rw [if_pos hc31_62]
      refine own_st (T' := T) (F' := (mkF m 46 #[.val (.ref a), .val (.int (0 : Int32)), .val (.int (x0 &&& (255 : Int32))), .unset, .val (.int (128 : Int32)), .val (.int (191 : Int32)), .unset, .unset] [])) (fun _ kq => XS.icmpYes X.here hx rfl (pc0 := 31) (pc' := 46) rfl (hb hby d1_31) rfl (tlt hc31_62).1 (by decide) (by decide) kq) ?_
      exact J46  T _ X eT N
    ·
      rw [if_neg hc31_62]
      refine own_st (T' := T) (F' := (mkF m 34 #[.val (.ref a), .val (.int (0 : Int32)), .val (.int (x0 &&& (255 : Int32))), .unset, .val (.int (128 : Int32)), .val (.int (191 : Int32)), .unset, .unset] [])) (fun _ kq => XS.icmpNo X.here hx rfl (hb hby d1_31) rfl (flt hc31_62).1 kq) ?_
      refine own_st (T' := T) (F' := (mkF m 35 #[.val (.ref a), .val (.int (0 : Int32)), .val (.int (x0 &&& (255 : Int32))), .unset, .val (.int (128 : Int32)), .val (.int (191 : Int32)), .unset, .unset] [(.int (x0 &&& (255 : Int32)))])) (fun _ kq => XS.iloadN X.here hx rfl (hb hby d1_34) rfl kq) ?_
      refine own_st (T' := T) (F' := (mkF m 38 #[.val (.ref a), .val (.int (0 : Int32)), .val (.int (x0 &&& (255 : Int32))), .unset, .val (.int (128 : Int32)), .val (.int (191 : Int32)), .unset, .unset] [(.int (223 : Int32)), (.int (x0 &&& (255 : Int32)))])) (fun _ kq => XS.sipush X.here hx rfl (hb hby d1_35) kq) ?_
      by_cases hc38_63 : (223 : Int32) < (x0 &&& (255 : Int32))
      ·
        rw [if_pos hc38_63]
        refine own_st (T' := T) (F' := (mkF m 46 #[.val (.ref a), .val (.int (0 : Int32)), .val (.int (x0 &&& (255 : Int32))), .unset, .val (.int (128 : Int32)), .val (.int (191 : Int32)), .unset, .unset] [])) (fun _ kq => XS.icmpYes X.here hx rfl (pc0 := 38) (pc' := 46) rfl (hb hby d1_38) rfl (tlt hc38_63).2.2.1 (by decide) (by decide) kq) ?_
        exact J46  T _ X eT N
      ·
        rw [if_neg hc38_63]
        refine own_st (T' := T) (F' := (mkF m 41 #[.val (.ref a), .val (.int (0 : Int32)), .val (.int (x0 &&& (255 : Int32))), .unset, .val (.int (128 : Int32)), .val (.int (191 : Int32)), .unset, .unset] [])) (fun _ kq => XS.icmpNo X.here hx rfl (hb hby d1_38) rfl (flt hc38_63).2.2.1 kq) ?_
        refine own_st (T' := T) (F' := (mkF m 42 #[.val (.ref a), .val (.int (0 : Int32)), .val (.int (x0 &&& (255 : Int32))), .unset, .val (.int (128 : Int32)), .val (.int (191 : Int32)), .unset, .unset] [(.int (2 : Int32))])) (fun _ kq => XS.iconst X.here hx rfl (hb hby d1_41) kq) ?_
        refine own_st (T' := T) (F' := (mkF m 43 #[.val (.ref a), .val (.int (0 : Int32)), .val (.int (x0 &&& (255 : Int32))), .val (.int (2 : Int32)), .val (.int (128 : Int32)), .val (.int (191 : Int32)), .unset, .unset] [])) (fun _ kq => XS.istoreN X.here hx rfl (hb hby d1_42) rfl (l' := #[.val (.ref a), .val (.int (0 : Int32)), .val (.int (x0 &&& (255 : Int32))), .val (.int (2 : Int32)), .val (.int (128 : Int32)), .val (.int (191 : Int32)), .unset, .unset]) rfl kq) ?_
        refine own_st (T' := T) (F' := (mkF m 140 #[.val (.ref a), .val (.int (0 : Int32)), .val (.int (x0 &&& (255 : Int32))), .val (.int (2 : Int32)), .val (.int (128 : Int32)), .val (.int (191 : Int32)), .unset, .unset] [])) (fun _ kq => XS.goto X.here hx rfl (pc0 := 43) (pc' := 140) rfl (hb hby d1_43) (by decide) (by decide) kq) ?_
        exact J140k2  T _ X eT N
def sl4_140k4 (x1 : Int32) (x2 : Int32) (x3 : Int32) (y140k4_4 : Int32) (y140k4_5 : Int32) : Int32 := if (x1 &&& (255 : Int32)) < y140k4_4 then ((0 : Int32)) else (if y140k4_5 < (x1 &&& (255 : Int32)) then ((0 : Int32)) else (if (x2 &&& (192 : Int32)) = (128 : Int32) then (if (x3 &&& (192 : Int32)) = (128 : Int32) then ((4 : Int32)) else ((0 : Int32))) else ((0 : Int32))))
def sl4_140k3 (x1 : Int32) (x2 : Int32) (y140k3_4 : Int32) (y140k3_5 : Int32) : Int32 := if (x1 &&& (255 : Int32)) < y140k3_4 then ((0 : Int32)) else (if y140k3_5 < (x1 &&& (255 : Int32)) then ((0 : Int32)) else (if (x2 &&& (192 : Int32)) = (128 : Int32) then ((3 : Int32)) else ((0 : Int32))))
def sl4_140k2 (x1 : Int32) : Int32 := if (x1 &&& (255 : Int32)) < (128 : Int32) then ((0 : Int32)) else (if (191 : Int32) < (x1 &&& (255 : Int32)) then ((0 : Int32)) else ((2 : Int32)))
def sl4_92 (x0 : Int32) (x1 : Int32) (x2 : Int32) (x3 : Int32) : Int32 := if (x0 &&& (255 : Int32)) < (240 : Int32) then ((0 : Int32)) else (if (244 : Int32) < (x0 &&& (255 : Int32)) then ((0 : Int32)) else (if (x0 &&& (255 : Int32)) = (240 : Int32) then (sl4_140k4 x1 x2 x3 (144 : Int32) (191 : Int32)) else (if (x0 &&& (255 : Int32)) = (244 : Int32) then (sl4_140k4 x1 x2 x3 (128 : Int32) (143 : Int32)) else (sl4_140k4 x1 x2 x3 (128 : Int32) (191 : Int32)))))
def sl4_46 (x0 : Int32) (x1 : Int32) (x2 : Int32) (x3 : Int32) : Int32 := if (x0 &&& (255 : Int32)) < (224 : Int32) then (sl4_92 x0 x1 x2 x3) else (if (239 : Int32) < (x0 &&& (255 : Int32)) then (sl4_92 x0 x1 x2 x3) else (if (x0 &&& (255 : Int32)) = (224 : Int32) then (sl4_140k3 x1 x2 (160 : Int32) (191 : Int32)) else (if (x0 &&& (255 : Int32)) = (237 : Int32) then (sl4_140k3 x1 x2 (128 : Int32) (159 : Int32)) else (sl4_140k3 x1 x2 (128 : Int32) (191 : Int32)))))
def sl4 (x0 : Int32) (x1 : Int32) (x2 : Int32) (x3 : Int32) : Int32 := if (x0 &&& (255 : Int32)) < (128 : Int32) then ((1 : Int32)) else (if (x0 &&& (255 : Int32)) < (194 : Int32) then (sl4_46 x0 x1 x2 x3) else (if (223 : Int32) < (x0 &&& (255 : Int32)) then (sl4_46 x0 x1 x2 x3) else (sl4_140k2 x1)))
set_option maxRecDepth 65536 in
set_option maxHeartbeats 40000000 in
theorem rm1_0_4 (l : Launch) (Z : State) (a0 : Array Value) (hw : ∀ d ∈ tables_1, d.before a0 Z = true) (ws : List Jvm.Cond) (a : Addr) (x0 : Int32) (x1 : Int32) (x2 : Int32) (x3 : Int32) (h0 : Heap) (n0 : Nat) (V : own_AI Z h0 a .byte (4 : Int32) [x0, x1, x2, x3]) :
    own_Met l Z (⟨"com/example/ogma/ogma/canon/Utf8", "sequenceLength", "([BI)I"⟩ : MethodName) prog_73_method_7_code 8 (some .int) ws ({ frames := 0, cells := 0, slots := 0, locals := 0 } : Room) #[(.ref a), (.int (0 : Int32))] h0 (own_PQ (.int (sl4 x0 x1 x2 x3)) h0 n0) := by
  refine own_body (plainFor_of_name pn1) ?_
  intro p e s m below meth c T X hx hby hml hret hlk hZ hown hnm eT
  have J140k4 : ∀ (y140k4_4 : Int32) (y140k4_5 : Int32) (T : State) (locs : List Loc) (X : Stand p l e ({ frames := 0, cells := 0, slots := 0, locals := 0 } : Room) s m #[(.ref a), (.int (0 : Int32))] below meth c T locs 0 0) (eT : T.heap = h0) (N : Fr n0 locs), own_Ends p e below s 0 0 (own_PQ (.int (sl4_140k4 x1 x2 x3 y140k4_4 y140k4_5)) h0 n0) T (mkF m 140 #[.val (.ref a), .val (.int (0 : Int32)), .val (.int (x0 &&& (255 : Int32))), .val (.int (4 : Int32)), .val (.int y140k4_4), .val (.int y140k4_5), .unset, .unset] []) := by
    intro y140k4_4 y140k4_5 T locs X eT N
    unfold sl4_140k4
    refine own_st (T' := T) (F' := (mkF m 141 #[.val (.ref a), .val (.int (0 : Int32)), .val (.int (x0 &&& (255 : Int32))), .val (.int (4 : Int32)), .val (.int y140k4_4), .val (.int y140k4_5), .unset, .unset] [(.ref a)])) (fun _ kq => XS.aloadN X.here hx rfl (hb hby d1_140) rfl rfl kq) ?_
    refine own_st (T' := T) (F' := (mkF m 142 #[.val (.ref a), .val (.int (0 : Int32)), .val (.int (x0 &&& (255 : Int32))), .val (.int (4 : Int32)), .val (.int y140k4_4), .val (.int y140k4_5), .unset, .unset] [(.int (4 : Int32))])) (own_lenI X hx hZ eT V (g := (mkF m 141 #[.val (.ref a), .val (.int (0 : Int32)), .val (.int (x0 &&& (255 : Int32))), .val (.int (4 : Int32)), .val (.int y140k4_4), .val (.int y140k4_5), .unset, .unset] [(.ref a)])) rfl rfl (hb hby d1_141)) ?_
    refine own_st (T' := T) (F' := (mkF m 143 #[.val (.ref a), .val (.int (0 : Int32)), .val (.int (x0 &&& (255 : Int32))), .val (.int (4 : Int32)), .val (.int y140k4_4), .val (.int y140k4_5), .unset, .unset] [(.int (0 : Int32)), (.int (4 : Int32))])) (fun _ kq => XS.iloadN X.here hx rfl (hb hby d1_142) rfl kq) ?_
    refine own_st (T' := T) (F' := (mkF m 144 #[.val (.ref a), .val (.int (0 : Int32)), .val (.int (x0 &&& (255 : Int32))), .val (.int (4 : Int32)), .val (.int y140k4_4), .val (.int y140k4_5), .unset, .unset] [(.int (4 : Int32))])) (fun _ kq => XS.isub X.here hx rfl (hb hby d1_143) rfl kq) ?_
    refine own_st (T' := T) (F' := (mkF m 145 #[.val (.ref a), .val (.int (0 : Int32)), .val (.int (x0 &&& (255 : Int32))), .val (.int (4 : Int32)), .val (.int y140k4_4), .val (.int y140k4_5), .unset, .unset] [(.int (4 : Int32)), (.int (4 : Int32))])) (fun _ kq => XS.iloadN X.here hx rfl (hb hby d1_144) rfl kq) ?_
    refine own_st (T' := T) (F' := (mkF m 150 #[.val (.ref a), .val (.int (0 : Int32)), .val (.int (x0 &&& (255 : Int32))), .val (.int (4 : Int32)), .val (.int y140k4_4), .val (.int y140k4_5), .unset, .unset] [])) (fun _ kq => XS.icmpYes X.here hx rfl (pc0 := 145) (pc' := 150) rfl (hb hby d1_145) rfl (flt (by decide : ¬ ((4 : Int32) < (4 : Int32)))).2.1 (by decide) (by decide) kq) ?_
    refine own_st (T' := T) (F' := (mkF m 151 #[.val (.ref a), .val (.int (0 : Int32)), .val (.int (x0 &&& (255 : Int32))), .val (.int (4 : Int32)), .val (.int y140k4_4), .val (.int y140k4_5), .unset, .unset] [(.ref a)])) (fun _ kq => XS.aloadN X.here hx rfl (hb hby d1_150) rfl rfl kq) ?_
    refine own_st (T' := T) (F' := (mkF m 152 #[.val (.ref a), .val (.int (0 : Int32)), .val (.int (x0 &&& (255 : Int32))), .val (.int (4 : Int32)), .val (.int y140k4_4), .val (.int y140k4_5), .unset, .unset] [(.int (0 : Int32)), (.ref a)])) (fun _ kq => XS.iloadN X.here hx rfl (hb hby d1_151) rfl kq) ?_
    refine own_st (T' := T) (F' := (mkF m 153 #[.val (.ref a), .val (.int (0 : Int32)), .val (.int (x0 &&& (255 : Int32))), .val (.int (4 : Int32)), .val (.int y140k4_4), .val (.int y140k4_5), .unset, .unset] [(.int (1 : Int32)), (.int (0 : Int32)), (.ref a)])) (fun _ kq => XS.iconst X.here hx rfl (hb hby d1_152) kq) ?_
    refine own_st (T' := T) (F' := (mkF m 154 #[.val (.ref a), .val (.int (0 : Int32)), .val (.int (x0 &&& (255 : Int32))), .val (.int (4 : Int32)), .val (.int y140k4_4), .val (.int y140k4_5), .unset, .unset] [(.int (1 : Int32)), (.ref a)])) (fun _ kq => XS.iadd X.here hx rfl (hb hby d1_153) rfl kq) ?_
    refine own_st (T' := T) (F' := (mkF m 155 #[.val (.ref a), .val (.int (0 : Int32)), .val (.int (x0 &&& (255 : Int32))), .val (.int (4 : Int32)), .val (.int y140k4_4), .val (.int y140k4_5), .unset, .unset] [(.int x1)])) (own_baload X hx hZ eT V (g := (mkF m 154 #[.val (.ref a), .val (.int (0 : Int32)), .val (.int (x0 &&& (255 : Int32))), .val (.int (4 : Int32)), .val (.int y140k4_4), .val (.int y140k4_5), .unset, .unset] [(.int (1 : Int32)), (.ref a)])) rfl rfl (hb hby d1_154) (by decide) (Nat.le_of_ble_eq_true rfl) (w := x1) rfl) ?_
    refine own_st (T' := T) (F' := (mkF m 158 #[.val (.ref a), .val (.int (0 : Int32)), .val (.int (x0 &&& (255 : Int32))), .val (.int (4 : Int32)), .val (.int y140k4_4), .val (.int y140k4_5), .unset, .unset] [(.int (255 : Int32)), (.int x1)])) (fun _ kq => XS.sipush X.here hx rfl (hb hby d1_155) kq) ?_
    refine own_st (T' := T) (F' := (mkF m 159 #[.val (.ref a), .val (.int (0 : Int32)), .val (.int (x0 &&& (255 : Int32))), .val (.int (4 : Int32)), .val (.int y140k4_4), .val (.int y140k4_5), .unset, .unset] [(.int (x1 &&& (255 : Int32)))])) (fun _ kq => XS.iand X.here hx rfl (hb hby d1_158) rfl kq) ?_
    refine own_st (T' := T) (F' := (mkF m 161 #[.val (.ref a), .val (.int (0 : Int32)), .val (.int (x0 &&& (255 : Int32))), .val (.int (4 : Int32)), .val (.int y140k4_4), .val (.int y140k4_5), .val (.int (x1 &&& (255 : Int32))), .unset] [])) (fun _ kq => XS.istore X.here hx rfl (hb hby d1_159) rfl (l' := #[.val (.ref a), .val (.int (0 : Int32)), .val (.int (x0 &&& (255 : Int32))), .val (.int (4 : Int32)), .val (.int y140k4_4), .val (.int y140k4_5), .val (.int (x1 &&& (255 : Int32))), .unset]) rfl kq) ?_
    refine own_st (T' := T) (F' := (mkF m 163 #[.val (.ref a), .val (.int (0 : Int32)), .val (.int (x0 &&& (255 : Int32))), .val (.int (4 : Int32)), .val (.int y140k4_4), .val (.int y140k4_5), .val (.int (x1 &&& (255 : Int32))), .unset] [(.int (x1 &&& (255 : Int32)))])) (fun _ kq => XS.iload X.here hx rfl (hb hby d1_161) rfl kq) ?_
    refine own_st (T' := T) (F' := (mkF m 165 #[.val (.ref a), .val (.int (0 : Int32)), .val (.int (x0 &&& (255 : Int32))), .val (.int (4 : Int32)), .val (.int y140k4_4), .val (.int y140k4_5), .val (.int (x1 &&& (255 : Int32))), .unset] [(.int y140k4_4), (.int (x1 &&& (255 : Int32)))])) (fun _ kq => XS.iload X.here hx rfl (hb hby d1_163) rfl kq) ?_
    by_cases hc165_64 : (x1 &&& (255 : Int32)) < y140k4_4
    ·
      rw [if_pos hc165_64]
      refine own_st (T' := T) (F' := (mkF m 175 #[.val (.ref a), .val (.int (0 : Int32)), .val (.int (x0 &&& (255 : Int32))), .val (.int (4 : Int32)), .val (.int y140k4_4), .val (.int y140k4_5), .val (.int (x1 &&& (255 : Int32))), .unset] [])) (fun _ kq => XS.icmpYes X.here hx rfl (pc0 := 165) (pc' := 175) rfl (hb hby d1_165) rfl (tlt hc165_64).1 (by decide) (by decide) kq) ?_
      refine own_st (T' := T) (F' := (mkF m 176 #[.val (.ref a), .val (.int (0 : Int32)), .val (.int (x0 &&& (255 : Int32))), .val (.int (4 : Int32)), .val (.int y140k4_4), .val (.int y140k4_5), .val (.int (x1 &&& (255 : Int32))), .unset] [(.int (0 : Int32))])) (fun _ kq => XS.iconst X.here hx rfl (hb hby d1_175) kq) ?_
      exact own_retI X hx hlk hret (hb hby d1_176) (by decide) (by decide) (own_PQi rfl N eT)
    ·
      rw [if_neg hc165_64]
      refine own_st (T' := T) (F' := (mkF m 168 #[.val (.ref a), .val (.int (0 : Int32)), .val (.int (x0 &&& (255 : Int32))), .val (.int (4 : Int32)), .val (.int y140k4_4), .val (.int y140k4_5), .val (.int (x1 &&& (255 : Int32))), .unset] [])) (fun _ kq => XS.icmpNo X.here hx rfl (hb hby d1_165) rfl (flt hc165_64).1 kq) ?_
      refine own_st (T' := T) (F' := (mkF m 170 #[.val (.ref a), .val (.int (0 : Int32)), .val (.int (x0 &&& (255 : Int32))), .val (.int (4 : Int32)), .val (.int y140k4_4), .val (.int y140k4_5), .val (.int (x1 &&& (255 : Int32))), .unset] [(.int (x1 &&& (255 : Int32)))])) (fun _ kq => XS.iload X.here hx rfl (hb hby d1_168) rfl kq) ?_
      refine own_st (T' := T) (F' := (mkF m 172 #[.val (.ref a), .val (.int (0 : Int32)), .val (.int (x0 &&& (255 : Int32))), .val (.int (4 : Int32)), .val (.int y140k4_4), .val (.int y140k4_5), .val (.int (x1 &&& (255 : Int32))), .unset] [(.int y140k4_5), (.int (x1 &&& (255 : Int32)))])) (fun _ kq => XS.iload X.here hx rfl (hb hby d1_170) rfl kq) ?_
      by_cases hc172_65 : y140k4_5 < (x1 &&& (255 : Int32))
      ·
        rw [if_pos hc172_65]
        refine own_st (T' := T) (F' := (mkF m 175 #[.val (.ref a), .val (.int (0 : Int32)), .val (.int (x0 &&& (255 : Int32))), .val (.int (4 : Int32)), .val (.int y140k4_4), .val (.int y140k4_5), .val (.int (x1 &&& (255 : Int32))), .unset] [])) (fun _ kq => XS.icmpNo X.here hx rfl (hb hby d1_172) rfl (tlt hc172_65).2.2.2 kq) ?_
        refine own_st (T' := T) (F' := (mkF m 176 #[.val (.ref a), .val (.int (0 : Int32)), .val (.int (x0 &&& (255 : Int32))), .val (.int (4 : Int32)), .val (.int y140k4_4), .val (.int y140k4_5), .val (.int (x1 &&& (255 : Int32))), .unset] [(.int (0 : Int32))])) (fun _ kq => XS.iconst X.here hx rfl (hb hby d1_175) kq) ?_
        exact own_retI X hx hlk hret (hb hby d1_176) (by decide) (by decide) (own_PQi rfl N eT)
      ·
        rw [if_neg hc172_65]
        refine own_st (T' := T) (F' := (mkF m 177 #[.val (.ref a), .val (.int (0 : Int32)), .val (.int (x0 &&& (255 : Int32))), .val (.int (4 : Int32)), .val (.int y140k4_4), .val (.int y140k4_5), .val (.int (x1 &&& (255 : Int32))), .unset] [])) (fun _ kq => XS.icmpYes X.here hx rfl (pc0 := 172) (pc' := 177) rfl (hb hby d1_172) rfl (flt hc172_65).2.2.2 (by decide) (by decide) kq) ?_
        refine own_st (T' := T) (F' := (mkF m 178 #[.val (.ref a), .val (.int (0 : Int32)), .val (.int (x0 &&& (255 : Int32))), .val (.int (4 : Int32)), .val (.int y140k4_4), .val (.int y140k4_5), .val (.int (x1 &&& (255 : Int32))), .unset] [(.int (2 : Int32))])) (fun _ kq => XS.iconst X.here hx rfl (hb hby d1_177) kq) ?_
        refine own_st (T' := T) (F' := (mkF m 180 #[.val (.ref a), .val (.int (0 : Int32)), .val (.int (x0 &&& (255 : Int32))), .val (.int (4 : Int32)), .val (.int y140k4_4), .val (.int y140k4_5), .val (.int (x1 &&& (255 : Int32))), .val (.int (2 : Int32))] [])) (fun _ kq => XS.istore X.here hx rfl (hb hby d1_178) rfl (l' := #[.val (.ref a), .val (.int (0 : Int32)), .val (.int (x0 &&& (255 : Int32))), .val (.int (4 : Int32)), .val (.int y140k4_4), .val (.int y140k4_5), .val (.int (x1 &&& (255 : Int32))), .val (.int (2 : Int32))]) rfl kq) ?_
        refine own_st (T' := T) (F' := (mkF m 182 #[.val (.ref a), .val (.int (0 : Int32)), .val (.int (x0 &&& (255 : Int32))), .val (.int (4 : Int32)), .val (.int y140k4_4), .val (.int y140k4_5), .val (.int (x1 &&& (255 : Int32))), .val (.int (2 : Int32))] [(.int (2 : Int32))])) (fun _ kq => XS.iload X.here hx rfl (hb hby d1_180) rfl kq) ?_
        refine own_st (T' := T) (F' := (mkF m 183 #[.val (.ref a), .val (.int (0 : Int32)), .val (.int (x0 &&& (255 : Int32))), .val (.int (4 : Int32)), .val (.int y140k4_4), .val (.int y140k4_5), .val (.int (x1 &&& (255 : Int32))), .val (.int (2 : Int32))] [(.int (4 : Int32)), (.int (2 : Int32))])) (fun _ kq => XS.iloadN X.here hx rfl (hb hby d1_182) rfl kq) ?_
        refine own_st (T' := T) (F' := (mkF m 186 #[.val (.ref a), .val (.int (0 : Int32)), .val (.int (x0 &&& (255 : Int32))), .val (.int (4 : Int32)), .val (.int y140k4_4), .val (.int y140k4_5), .val (.int (x1 &&& (255 : Int32))), .val (.int (2 : Int32))] [])) (fun _ kq => XS.icmpNo X.here hx rfl (hb hby d1_183) rfl (tlt (by decide : (2 : Int32) < (4 : Int32))).2.1 kq) ?_
        refine own_st (T' := T) (F' := (mkF m 187 #[.val (.ref a), .val (.int (0 : Int32)), .val (.int (x0 &&& (255 : Int32))), .val (.int (4 : Int32)), .val (.int y140k4_4), .val (.int y140k4_5), .val (.int (x1 &&& (255 : Int32))), .val (.int (2 : Int32))] [(.ref a)])) (fun _ kq => XS.aloadN X.here hx rfl (hb hby d1_186) rfl rfl kq) ?_
        refine own_st (T' := T) (F' := (mkF m 188 #[.val (.ref a), .val (.int (0 : Int32)), .val (.int (x0 &&& (255 : Int32))), .val (.int (4 : Int32)), .val (.int y140k4_4), .val (.int y140k4_5), .val (.int (x1 &&& (255 : Int32))), .val (.int (2 : Int32))] [(.int (0 : Int32)), (.ref a)])) (fun _ kq => XS.iloadN X.here hx rfl (hb hby d1_187) rfl kq) ?_
        refine own_st (T' := T) (F' := (mkF m 190 #[.val (.ref a), .val (.int (0 : Int32)), .val (.int (x0 &&& (255 : Int32))), .val (.int (4 : Int32)), .val (.int y140k4_4), .val (.int y140k4_5), .val (.int (x1 &&& (255 : Int32))), .val (.int (2 : Int32))] [(.int (2 : Int32)), (.int (0 : Int32)), (.ref a)])) (fun _ kq => XS.iload X.here hx rfl (hb hby d1_188) rfl kq) ?_
        refine own_st (T' := T) (F' := (mkF m 191 #[.val (.ref a), .val (.int (0 : Int32)), .val (.int (x0 &&& (255 : Int32))), .val (.int (4 : Int32)), .val (.int y140k4_4), .val (.int y140k4_5), .val (.int (x1 &&& (255 : Int32))), .val (.int (2 : Int32))] [(.int (2 : Int32)), (.ref a)])) (fun _ kq => XS.iadd X.here hx rfl (hb hby d1_190) rfl kq) ?_
        refine own_st (T' := T) (F' := (mkF m 192 #[.val (.ref a), .val (.int (0 : Int32)), .val (.int (x0 &&& (255 : Int32))), .val (.int (4 : Int32)), .val (.int y140k4_4), .val (.int y140k4_5), .val (.int (x1 &&& (255 : Int32))), .val (.int (2 : Int32))] [(.int x2)])) (own_baload X hx hZ eT V (g := (mkF m 191 #[.val (.ref a), .val (.int (0 : Int32)), .val (.int (x0 &&& (255 : Int32))), .val (.int (4 : Int32)), .val (.int y140k4_4), .val (.int y140k4_5), .val (.int (x1 &&& (255 : Int32))), .val (.int (2 : Int32))] [(.int (2 : Int32)), (.ref a)])) rfl rfl (hb hby d1_191) (by decide) (Nat.le_of_ble_eq_true rfl) (w := x2) rfl) ?_
        refine own_st (T' := T) (F' := (mkF m 195 #[.val (.ref a), .val (.int (0 : Int32)), .val (.int (x0 &&& (255 : Int32))), .val (.int (4 : Int32)), .val (.int y140k4_4), .val (.int y140k4_5), .val (.int (x1 &&& (255 : Int32))), .val (.int (2 : Int32))] [(.int (192 : Int32)), (.int x2)])) (fun _ kq => XS.sipush X.here hx rfl (hb hby d1_192) kq) ?_
        refine own_st (T' := T) (F' := (mkF m 196 #[.val (.ref a), .val (.int (0 : Int32)), .val (.int (x0 &&& (255 : Int32))), .val (.int (4 : Int32)), .val (.int y140k4_4), .val (.int y140k4_5), .val (.int (x1 &&& (255 : Int32))), .val (.int (2 : Int32))] [(.int (x2 &&& (192 : Int32)))])) (fun _ kq => XS.iand X.here hx rfl (hb hby d1_195) rfl kq) ?_
        refine own_st (T' := T) (F' := (mkF m 199 #[.val (.ref a), .val (.int (0 : Int32)), .val (.int (x0 &&& (255 : Int32))), .val (.int (4 : Int32)), .val (.int y140k4_4), .val (.int y140k4_5), .val (.int (x1 &&& (255 : Int32))), .val (.int (2 : Int32))] [(.int (128 : Int32)), (.int (x2 &&& (192 : Int32)))])) (fun _ kq => XS.sipush X.here hx rfl (hb hby d1_196) kq) ?_
        by_cases hc199_66 : (x2 &&& (192 : Int32)) = (128 : Int32)
        ·
          rw [if_pos hc199_66]
          refine own_st (T' := T) (F' := (mkF m 204 #[.val (.ref a), .val (.int (0 : Int32)), .val (.int (x0 &&& (255 : Int32))), .val (.int (4 : Int32)), .val (.int y140k4_4), .val (.int y140k4_5), .val (.int (x1 &&& (255 : Int32))), .val (.int (2 : Int32))] [])) (fun _ kq => XS.icmpYes X.here hx rfl (pc0 := 199) (pc' := 204) rfl (hb hby d1_199) rfl (teq hc199_66).1 (by decide) (by decide) kq) ?_
          refine own_st (T' := T) (F' := (mkF m 207 #[.val (.ref a), .val (.int (0 : Int32)), .val (.int (x0 &&& (255 : Int32))), .val (.int (4 : Int32)), .val (.int y140k4_4), .val (.int y140k4_5), .val (.int (x1 &&& (255 : Int32))), .val (.int (3 : Int32))] [])) (fun _ kq => XS.iinc X.here hx rfl (hb hby d1_204) rfl (l' := #[.val (.ref a), .val (.int (0 : Int32)), .val (.int (x0 &&& (255 : Int32))), .val (.int (4 : Int32)), .val (.int y140k4_4), .val (.int y140k4_5), .val (.int (x1 &&& (255 : Int32))), .val (.int (3 : Int32))]) rfl kq) ?_
          refine own_st (T' := T) (F' := (mkF m 180 #[.val (.ref a), .val (.int (0 : Int32)), .val (.int (x0 &&& (255 : Int32))), .val (.int (4 : Int32)), .val (.int y140k4_4), .val (.int y140k4_5), .val (.int (x1 &&& (255 : Int32))), .val (.int (3 : Int32))] [])) (fun _ kq => XS.goto X.here hx rfl (pc0 := 207) (pc' := 180) rfl (hb hby d1_207) (by decide) (by decide) kq) ?_
          refine own_st (T' := T) (F' := (mkF m 182 #[.val (.ref a), .val (.int (0 : Int32)), .val (.int (x0 &&& (255 : Int32))), .val (.int (4 : Int32)), .val (.int y140k4_4), .val (.int y140k4_5), .val (.int (x1 &&& (255 : Int32))), .val (.int (3 : Int32))] [(.int (3 : Int32))])) (fun _ kq => XS.iload X.here hx rfl (hb hby d1_180) rfl kq) ?_
          refine own_st (T' := T) (F' := (mkF m 183 #[.val (.ref a), .val (.int (0 : Int32)), .val (.int (x0 &&& (255 : Int32))), .val (.int (4 : Int32)), .val (.int y140k4_4), .val (.int y140k4_5), .val (.int (x1 &&& (255 : Int32))), .val (.int (3 : Int32))] [(.int (4 : Int32)), (.int (3 : Int32))])) (fun _ kq => XS.iloadN X.here hx rfl (hb hby d1_182) rfl kq) ?_
          refine own_st (T' := T) (F' := (mkF m 186 #[.val (.ref a), .val (.int (0 : Int32)), .val (.int (x0 &&& (255 : Int32))), .val (.int (4 : Int32)), .val (.int y140k4_4), .val (.int y140k4_5), .val (.int (x1 &&& (255 : Int32))), .val (.int (3 : Int32))] [])) (fun _ kq => XS.icmpNo X.here hx rfl (hb hby d1_183) rfl (tlt (by decide : (3 : Int32) < (4 : Int32))).2.1 kq) ?_
          refine own_st (T' := T) (F' := (mkF m 187 #[.val (.ref a), .val (.int (0 : Int32)), .val (.int (x0 &&& (255 : Int32))), .val (.int (4 : Int32)), .val (.int y140k4_4), .val (.int y140k4_5), .val (.int (x1 &&& (255 : Int32))), .val (.int (3 : Int32))] [(.ref a)])) (fun _ kq => XS.aloadN X.here hx rfl (hb hby d1_186) rfl rfl kq) ?_
          refine own_st (T' := T) (F' := (mkF m 188 #[.val (.ref a), .val (.int (0 : Int32)), .val (.int (x0 &&& (255 : Int32))), .val (.int (4 : Int32)), .val (.int y140k4_4), .val (.int y140k4_5), .val (.int (x1 &&& (255 : Int32))), .val (.int (3 : Int32))] [(.int (0 : Int32)), (.ref a)])) (fun _ kq => XS.iloadN X.here hx rfl (hb hby d1_187) rfl kq) ?_
          refine own_st (T' := T) (F' := (mkF m 190 #[.val (.ref a), .val (.int (0 : Int32)), .val (.int (x0 &&& (255 : Int32))), .val (.int (4 : Int32)), .val (.int y140k4_4), .val (.int y140k4_5), .val (.int (x1 &&& (255 : Int32))), .val (.int (3 : Int32))] [(.int (3 : Int32)), (.int (0 : Int32)), (.ref a)])) (fun _ kq => XS.iload X.here hx rfl (hb hby d1_188) rfl kq) ?_
          refine own_st (T' := T) (F' := (mkF m 191 #[.val (.ref a), .val (.int (0 : Int32)), .val (.int (x0 &&& (255 : Int32))), .val (.int (4 : Int32)), .val (.int y140k4_4), .val (.int y140k4_5), .val (.int (x1 &&& (255 : Int32))), .val (.int (3 : Int32))] [(.int (3 : Int32)), (.ref a)])) (fun _ kq => XS.iadd X.here hx rfl (hb hby d1_190) rfl kq) ?_
          refine own_st (T' := T) (F' := (mkF m 192 #[.val (.ref a), .val (.int (0 : Int32)), .val (.int (x0 &&& (255 : Int32))), .val (.int (4 : Int32)), .val (.int y140k4_4), .val (.int y140k4_5), .val (.int (x1 &&& (255 : Int32))), .val (.int (3 : Int32))] [(.int x3)])) (own_baload X hx hZ eT V (g := (mkF m 191 #[.val (.ref a), .val (.int (0 : Int32)), .val (.int (x0 &&& (255 : Int32))), .val (.int (4 : Int32)), .val (.int y140k4_4), .val (.int y140k4_5), .val (.int (x1 &&& (255 : Int32))), .val (.int (3 : Int32))] [(.int (3 : Int32)), (.ref a)])) rfl rfl (hb hby d1_191) (by decide) (Nat.le_of_ble_eq_true rfl) (w := x3) rfl) ?_
          refine own_st (T' := T) (F' := (mkF m 195 #[.val (.ref a), .val (.int (0 : Int32)), .val (.int (x0 &&& (255 : Int32))), .val (.int (4 : Int32)), .val (.int y140k4_4), .val (.int y140k4_5), .val (.int (x1 &&& (255 : Int32))), .val (.int (3 : Int32))] [(.int (192 : Int32)), (.int x3)])) (fun _ kq => XS.sipush X.here hx rfl (hb hby d1_192) kq) ?_
          refine own_st (T' := T) (F' := (mkF m 196 #[.val (.ref a), .val (.int (0 : Int32)), .val (.int (x0 &&& (255 : Int32))), .val (.int (4 : Int32)), .val (.int y140k4_4), .val (.int y140k4_5), .val (.int (x1 &&& (255 : Int32))), .val (.int (3 : Int32))] [(.int (x3 &&& (192 : Int32)))])) (fun _ kq => XS.iand X.here hx rfl (hb hby d1_195) rfl kq) ?_
          refine own_st (T' := T) (F' := (mkF m 199 #[.val (.ref a), .val (.int (0 : Int32)), .val (.int (x0 &&& (255 : Int32))), .val (.int (4 : Int32)), .val (.int y140k4_4), .val (.int y140k4_5), .val (.int (x1 &&& (255 : Int32))), .val (.int (3 : Int32))] [(.int (128 : Int32)), (.int (x3 &&& (192 : Int32)))])) (fun _ kq => XS.sipush X.here hx rfl (hb hby d1_196) kq) ?_
          by_cases hc199_67 : (x3 &&& (192 : Int32)) = (128 : Int32)
          ·
            rw [if_pos hc199_67]
            refine own_st (T' := T) (F' := (mkF m 204 #[.val (.ref a), .val (.int (0 : Int32)), .val (.int (x0 &&& (255 : Int32))), .val (.int (4 : Int32)), .val (.int y140k4_4), .val (.int y140k4_5), .val (.int (x1 &&& (255 : Int32))), .val (.int (3 : Int32))] [])) (fun _ kq => XS.icmpYes X.here hx rfl (pc0 := 199) (pc' := 204) rfl (hb hby d1_199) rfl (teq hc199_67).1 (by decide) (by decide) kq) ?_
            refine own_st (T' := T) (F' := (mkF m 207 #[.val (.ref a), .val (.int (0 : Int32)), .val (.int (x0 &&& (255 : Int32))), .val (.int (4 : Int32)), .val (.int y140k4_4), .val (.int y140k4_5), .val (.int (x1 &&& (255 : Int32))), .val (.int (4 : Int32))] [])) (fun _ kq => XS.iinc X.here hx rfl (hb hby d1_204) rfl (l' := #[.val (.ref a), .val (.int (0 : Int32)), .val (.int (x0 &&& (255 : Int32))), .val (.int (4 : Int32)), .val (.int y140k4_4), .val (.int y140k4_5), .val (.int (x1 &&& (255 : Int32))), .val (.int (4 : Int32))]) rfl kq) ?_
            refine own_st (T' := T) (F' := (mkF m 180 #[.val (.ref a), .val (.int (0 : Int32)), .val (.int (x0 &&& (255 : Int32))), .val (.int (4 : Int32)), .val (.int y140k4_4), .val (.int y140k4_5), .val (.int (x1 &&& (255 : Int32))), .val (.int (4 : Int32))] [])) (fun _ kq => XS.goto X.here hx rfl (pc0 := 207) (pc' := 180) rfl (hb hby d1_207) (by decide) (by decide) kq) ?_
            refine own_st (T' := T) (F' := (mkF m 182 #[.val (.ref a), .val (.int (0 : Int32)), .val (.int (x0 &&& (255 : Int32))), .val (.int (4 : Int32)), .val (.int y140k4_4), .val (.int y140k4_5), .val (.int (x1 &&& (255 : Int32))), .val (.int (4 : Int32))] [(.int (4 : Int32))])) (fun _ kq => XS.iload X.here hx rfl (hb hby d1_180) rfl kq) ?_
            refine own_st (T' := T) (F' := (mkF m 183 #[.val (.ref a), .val (.int (0 : Int32)), .val (.int (x0 &&& (255 : Int32))), .val (.int (4 : Int32)), .val (.int y140k4_4), .val (.int y140k4_5), .val (.int (x1 &&& (255 : Int32))), .val (.int (4 : Int32))] [(.int (4 : Int32)), (.int (4 : Int32))])) (fun _ kq => XS.iloadN X.here hx rfl (hb hby d1_182) rfl kq) ?_
            refine own_st (T' := T) (F' := (mkF m 210 #[.val (.ref a), .val (.int (0 : Int32)), .val (.int (x0 &&& (255 : Int32))), .val (.int (4 : Int32)), .val (.int y140k4_4), .val (.int y140k4_5), .val (.int (x1 &&& (255 : Int32))), .val (.int (4 : Int32))] [])) (fun _ kq => XS.icmpYes X.here hx rfl (pc0 := 183) (pc' := 210) rfl (hb hby d1_183) rfl (flt (by decide : ¬ ((4 : Int32) < (4 : Int32)))).2.1 (by decide) (by decide) kq) ?_
            refine own_st (T' := T) (F' := (mkF m 211 #[.val (.ref a), .val (.int (0 : Int32)), .val (.int (x0 &&& (255 : Int32))), .val (.int (4 : Int32)), .val (.int y140k4_4), .val (.int y140k4_5), .val (.int (x1 &&& (255 : Int32))), .val (.int (4 : Int32))] [(.int (4 : Int32))])) (fun _ kq => XS.iloadN X.here hx rfl (hb hby d1_210) rfl kq) ?_
            exact own_retI X hx hlk hret (hb hby d1_211) (by decide) (by decide) (own_PQi rfl N eT)
          ·
            rw [if_neg hc199_67]
            refine own_st (T' := T) (F' := (mkF m 202 #[.val (.ref a), .val (.int (0 : Int32)), .val (.int (x0 &&& (255 : Int32))), .val (.int (4 : Int32)), .val (.int y140k4_4), .val (.int y140k4_5), .val (.int (x1 &&& (255 : Int32))), .val (.int (3 : Int32))] [])) (fun _ kq => XS.icmpNo X.here hx rfl (hb hby d1_199) rfl (feq hc199_67).1 kq) ?_
            refine own_st (T' := T) (F' := (mkF m 203 #[.val (.ref a), .val (.int (0 : Int32)), .val (.int (x0 &&& (255 : Int32))), .val (.int (4 : Int32)), .val (.int y140k4_4), .val (.int y140k4_5), .val (.int (x1 &&& (255 : Int32))), .val (.int (3 : Int32))] [(.int (0 : Int32))])) (fun _ kq => XS.iconst X.here hx rfl (hb hby d1_202) kq) ?_
            exact own_retI X hx hlk hret (hb hby d1_203) (by decide) (by decide) (own_PQi rfl N eT)
        ·
          rw [if_neg hc199_66]
          refine own_st (T' := T) (F' := (mkF m 202 #[.val (.ref a), .val (.int (0 : Int32)), .val (.int (x0 &&& (255 : Int32))), .val (.int (4 : Int32)), .val (.int y140k4_4), .val (.int y140k4_5), .val (.int (x1 &&& (255 : Int32))), .val (.int (2 : Int32))] [])) (fun _ kq => XS.icmpNo X.here hx rfl (hb hby d1_199) rfl (feq hc199_66).1 kq) ?_
          refine own_st (T' := T) (F' := (mkF m 203 #[.val (.ref a), .val (.int (0 : Int32)), .val (.int (x0 &&& (255 : Int32))), .val (.int (4 : Int32)), .val (.int y140k4_4), .val (.int y140k4_5), .val (.int (x1 &&& (255 : Int32))), .val (.int (2 : Int32))] [(.int (0 : Int32))])) (fun _ kq => XS.iconst X.here hx rfl (hb hby d1_202) kq) ?_
          exact own_retI X hx hlk hret (hb hby d1_203) (by decide) (by decide) (own_PQi rfl N eT)
  have J140k3 : ∀ (y140k3_4 : Int32) (y140k3_5 : Int32) (T : State) (locs : List Loc) (X : Stand p l e ({ frames := 0, cells := 0, slots := 0, locals := 0 } : Room) s m #[(.ref a), (.int (0 : Int32))] below meth c T locs 0 0) (eT : T.heap = h0) (N : Fr n0 locs), own_Ends p e below s 0 0 (own_PQ (.int (sl4_140k3 x1 x2 y140k3_4 y140k3_5)) h0 n0) T (mkF m 140 #[.val (.ref a), .val (.int (0 : Int32)), .val (.int (x0 &&& (255 : Int32))), .val (.int (3 : Int32)), .val (.int y140k3_4), .val (.int y140k3_5), .unset, .unset] []) := by
    intro y140k3_4 y140k3_5 T locs X eT N
    unfold sl4_140k3
    refine own_st (T' := T) (F' := (mkF m 141 #[.val (.ref a), .val (.int (0 : Int32)), .val (.int (x0 &&& (255 : Int32))), .val (.int (3 : Int32)), .val (.int y140k3_4), .val (.int y140k3_5), .unset, .unset] [(.ref a)])) (fun _ kq => XS.aloadN X.here hx rfl (hb hby d1_140) rfl rfl kq) ?_
    refine own_st (T' := T) (F' := (mkF m 142 #[.val (.ref a), .val (.int (0 : Int32)), .val (.int (x0 &&& (255 : Int32))), .val (.int (3 : Int32)), .val (.int y140k3_4), .val (.int y140k3_5), .unset, .unset] [(.int (4 : Int32))])) (own_lenI X hx hZ eT V (g := (mkF m 141 #[.val (.ref a), .val (.int (0 : Int32)), .val (.int (x0 &&& (255 : Int32))), .val (.int (3 : Int32)), .val (.int y140k3_4), .val (.int y140k3_5), .unset, .unset] [(.ref a)])) rfl rfl (hb hby d1_141)) ?_
    refine own_st (T' := T) (F' := (mkF m 143 #[.val (.ref a), .val (.int (0 : Int32)), .val (.int (x0 &&& (255 : Int32))), .val (.int (3 : Int32)), .val (.int y140k3_4), .val (.int y140k3_5), .unset, .unset] [(.int (0 : Int32)), (.int (4 : Int32))])) (fun _ kq => XS.iloadN X.here hx rfl (hb hby d1_142) rfl kq) ?_
    refine own_st (T' := T) (F' := (mkF m 144 #[.val (.ref a), .val (.int (0 : Int32)), .val (.int (x0 &&& (255 : Int32))), .val (.int (3 : Int32)), .val (.int y140k3_4), .val (.int y140k3_5), .unset, .unset] [(.int (4 : Int32))])) (fun _ kq => XS.isub X.here hx rfl (hb hby d1_143) rfl kq) ?_
    refine own_st (T' := T) (F' := (mkF m 145 #[.val (.ref a), .val (.int (0 : Int32)), .val (.int (x0 &&& (255 : Int32))), .val (.int (3 : Int32)), .val (.int y140k3_4), .val (.int y140k3_5), .unset, .unset] [(.int (3 : Int32)), (.int (4 : Int32))])) (fun _ kq => XS.iloadN X.here hx rfl (hb hby d1_144) rfl kq) ?_
    refine own_st (T' := T) (F' := (mkF m 150 #[.val (.ref a), .val (.int (0 : Int32)), .val (.int (x0 &&& (255 : Int32))), .val (.int (3 : Int32)), .val (.int y140k3_4), .val (.int y140k3_5), .unset, .unset] [])) (fun _ kq => XS.icmpYes X.here hx rfl (pc0 := 145) (pc' := 150) rfl (hb hby d1_145) rfl (flt (by decide : ¬ ((4 : Int32) < (3 : Int32)))).2.1 (by decide) (by decide) kq) ?_
    refine own_st (T' := T) (F' := (mkF m 151 #[.val (.ref a), .val (.int (0 : Int32)), .val (.int (x0 &&& (255 : Int32))), .val (.int (3 : Int32)), .val (.int y140k3_4), .val (.int y140k3_5), .unset, .unset] [(.ref a)])) (fun _ kq => XS.aloadN X.here hx rfl (hb hby d1_150) rfl rfl kq) ?_
    refine own_st (T' := T) (F' := (mkF m 152 #[.val (.ref a), .val (.int (0 : Int32)), .val (.int (x0 &&& (255 : Int32))), .val (.int (3 : Int32)), .val (.int y140k3_4), .val (.int y140k3_5), .unset, .unset] [(.int (0 : Int32)), (.ref a)])) (fun _ kq => XS.iloadN X.here hx rfl (hb hby d1_151) rfl kq) ?_
    refine own_st (T' := T) (F' := (mkF m 153 #[.val (.ref a), .val (.int (0 : Int32)), .val (.int (x0 &&& (255 : Int32))), .val (.int (3 : Int32)), .val (.int y140k3_4), .val (.int y140k3_5), .unset, .unset] [(.int (1 : Int32)), (.int (0 : Int32)), (.ref a)])) (fun _ kq => XS.iconst X.here hx rfl (hb hby d1_152) kq) ?_
    refine own_st (T' := T) (F' := (mkF m 154 #[.val (.ref a), .val (.int (0 : Int32)), .val (.int (x0 &&& (255 : Int32))), .val (.int (3 : Int32)), .val (.int y140k3_4), .val (.int y140k3_5), .unset, .unset] [(.int (1 : Int32)), (.ref a)])) (fun _ kq => XS.iadd X.here hx rfl (hb hby d1_153) rfl kq) ?_
    refine own_st (T' := T) (F' := (mkF m 155 #[.val (.ref a), .val (.int (0 : Int32)), .val (.int (x0 &&& (255 : Int32))), .val (.int (3 : Int32)), .val (.int y140k3_4), .val (.int y140k3_5), .unset, .unset] [(.int x1)])) (own_baload X hx hZ eT V (g := (mkF m 154 #[.val (.ref a), .val (.int (0 : Int32)), .val (.int (x0 &&& (255 : Int32))), .val (.int (3 : Int32)), .val (.int y140k3_4), .val (.int y140k3_5), .unset, .unset] [(.int (1 : Int32)), (.ref a)])) rfl rfl (hb hby d1_154) (by decide) (Nat.le_of_ble_eq_true rfl) (w := x1) rfl) ?_
    refine own_st (T' := T) (F' := (mkF m 158 #[.val (.ref a), .val (.int (0 : Int32)), .val (.int (x0 &&& (255 : Int32))), .val (.int (3 : Int32)), .val (.int y140k3_4), .val (.int y140k3_5), .unset, .unset] [(.int (255 : Int32)), (.int x1)])) (fun _ kq => XS.sipush X.here hx rfl (hb hby d1_155) kq) ?_
    refine own_st (T' := T) (F' := (mkF m 159 #[.val (.ref a), .val (.int (0 : Int32)), .val (.int (x0 &&& (255 : Int32))), .val (.int (3 : Int32)), .val (.int y140k3_4), .val (.int y140k3_5), .unset, .unset] [(.int (x1 &&& (255 : Int32)))])) (fun _ kq => XS.iand X.here hx rfl (hb hby d1_158) rfl kq) ?_
    refine own_st (T' := T) (F' := (mkF m 161 #[.val (.ref a), .val (.int (0 : Int32)), .val (.int (x0 &&& (255 : Int32))), .val (.int (3 : Int32)), .val (.int y140k3_4), .val (.int y140k3_5), .val (.int (x1 &&& (255 : Int32))), .unset] [])) (fun _ kq => XS.istore X.here hx rfl (hb hby d1_159) rfl (l' := #[.val (.ref a), .val (.int (0 : Int32)), .val (.int (x0 &&& (255 : Int32))), .val (.int (3 : Int32)), .val (.int y140k3_4), .val (.int y140k3_5), .val (.int (x1 &&& (255 : Int32))), .unset]) rfl kq) ?_
    refine own_st (T' := T) (F' := (mkF m 163 #[.val (.ref a), .val (.int (0 : Int32)), .val (.int (x0 &&& (255 : Int32))), .val (.int (3 : Int32)), .val (.int y140k3_4), .val (.int y140k3_5), .val (.int (x1 &&& (255 : Int32))), .unset] [(.int (x1 &&& (255 : Int32)))])) (fun _ kq => XS.iload X.here hx rfl (hb hby d1_161) rfl kq) ?_
    refine own_st (T' := T) (F' := (mkF m 165 #[.val (.ref a), .val (.int (0 : Int32)), .val (.int (x0 &&& (255 : Int32))), .val (.int (3 : Int32)), .val (.int y140k3_4), .val (.int y140k3_5), .val (.int (x1 &&& (255 : Int32))), .unset] [(.int y140k3_4), (.int (x1 &&& (255 : Int32)))])) (fun _ kq => XS.iload X.here hx rfl (hb hby d1_163) rfl kq) ?_
    by_cases hc165_68 : (x1 &&& (255 : Int32)) < y140k3_4
    ·
      rw [if_pos hc165_68]
      refine own_st (T' := T) (F' := (mkF m 175 #[.val (.ref a), .val (.int (0 : Int32)), .val (.int (x0 &&& (255 : Int32))), .val (.int (3 : Int32)), .val (.int y140k3_4), .val (.int y140k3_5), .val (.int (x1 &&& (255 : Int32))), .unset] [])) (fun _ kq => XS.icmpYes X.here hx rfl (pc0 := 165) (pc' := 175) rfl (hb hby d1_165) rfl (tlt hc165_68).1 (by decide) (by decide) kq) ?_
      refine own_st (T' := T) (F' := (mkF m 176 #[.val (.ref a), .val (.int (0 : Int32)), .val (.int (x0 &&& (255 : Int32))), .val (.int (3 : Int32)), .val (.int y140k3_4), .val (.int y140k3_5), .val (.int (x1 &&& (255 : Int32))), .unset] [(.int (0 : Int32))])) (fun _ kq => XS.iconst X.here hx rfl (hb hby d1_175) kq) ?_
      exact own_retI X hx hlk hret (hb hby d1_176) (by decide) (by decide) (own_PQi rfl N eT)
    ·
      rw [if_neg hc165_68]
      refine own_st (T' := T) (F' := (mkF m 168 #[.val (.ref a), .val (.int (0 : Int32)), .val (.int (x0 &&& (255 : Int32))), .val (.int (3 : Int32)), .val (.int y140k3_4), .val (.int y140k3_5), .val (.int (x1 &&& (255 : Int32))), .unset] [])) (fun _ kq => XS.icmpNo X.here hx rfl (hb hby d1_165) rfl (flt hc165_68).1 kq) ?_
      refine own_st (T' := T) (F' := (mkF m 170 #[.val (.ref a), .val (.int (0 : Int32)), .val (.int (x0 &&& (255 : Int32))), .val (.int (3 : Int32)), .val (.int y140k3_4), .val (.int y140k3_5), .val (.int (x1 &&& (255 : Int32))), .unset] [(.int (x1 &&& (255 : Int32)))])) (fun _ kq => XS.iload X.here hx rfl (hb hby d1_168) rfl kq) ?_
      refine own_st (T' := T) (F' := (mkF m 172 #[.val (.ref a), .val (.int (0 : Int32)), .val (.int (x0 &&& (255 : Int32))), .val (.int (3 : Int32)), .val (.int y140k3_4), .val (.int y140k3_5), .val (.int (x1 &&& (255 : Int32))), .unset] [(.int y140k3_5), (.int (x1 &&& (255 : Int32)))])) (fun _ kq => XS.iload X.here hx rfl (hb hby d1_170) rfl kq) ?_
      by_cases hc172_69 : y140k3_5 < (x1 &&& (255 : Int32))
      ·
        rw [if_pos hc172_69]
        refine own_st (T' := T) (F' := (mkF m 175 #[.val (.ref a), .val (.int (0 : Int32)), .val (.int (x0 &&& (255 : Int32))), .val (.int (3 : Int32)), .val (.int y140k3_4), .val (.int y140k3_5), .val (.int (x1 &&& (255 : Int32))), .unset] [])) (fun _ kq => XS.icmpNo X.here hx rfl (hb hby d1_172) rfl (tlt hc172_69).2.2.2 kq) ?_
        refine own_st (T' := T) (F' := (mkF m 176 #[.val (.ref a), .val (.int (0 : Int32)), .val (.int (x0 &&& (255 : Int32))), .val (.int (3 : Int32)), .val (.int y140k3_4), .val (.int y140k3_5), .val (.int (x1 &&& (255 : Int32))), .unset] [(.int (0 : Int32))])) (fun _ kq => XS.iconst X.here hx rfl (hb hby d1_175) kq) ?_
        exact own_retI X hx hlk hret (hb hby d1_176) (by decide) (by decide) (own_PQi rfl N eT)
      ·
        rw [if_neg hc172_69]
        refine own_st (T' := T) (F' := (mkF m 177 #[.val (.ref a), .val (.int (0 : Int32)), .val (.int (x0 &&& (255 : Int32))), .val (.int (3 : Int32)), .val (.int y140k3_4), .val (.int y140k3_5), .val (.int (x1 &&& (255 : Int32))), .unset] [])) (fun _ kq => XS.icmpYes X.here hx rfl (pc0 := 172) (pc' := 177) rfl (hb hby d1_172) rfl (flt hc172_69).2.2.2 (by decide) (by decide) kq) ?_
        refine own_st (T' := T) (F' := (mkF m 178 #[.val (.ref a), .val (.int (0 : Int32)), .val (.int (x0 &&& (255 : Int32))), .val (.int (3 : Int32)), .val (.int y140k3_4), .val (.int y140k3_5), .val (.int (x1 &&& (255 : Int32))), .unset] [(.int (2 : Int32))])) (fun _ kq => XS.iconst X.here hx rfl (hb hby d1_177) kq) ?_
        refine own_st (T' := T) (F' := (mkF m 180 #[.val (.ref a), .val (.int (0 : Int32)), .val (.int (x0 &&& (255 : Int32))), .val (.int (3 : Int32)), .val (.int y140k3_4), .val (.int y140k3_5), .val (.int (x1 &&& (255 : Int32))), .val (.int (2 : Int32))] [])) (fun _ kq => XS.istore X.here hx rfl (hb hby d1_178) rfl (l' := #[.val (.ref a), .val (.int (0 : Int32)), .val (.int (x0 &&& (255 : Int32))), .val (.int (3 : Int32)), .val (.int y140k3_4), .val (.int y140k3_5), .val (.int (x1 &&& (255 : Int32))), .val (.int (2 : Int32))]) rfl kq) ?_
        refine own_st (T' := T) (F' := (mkF m 182 #[.val (.ref a), .val (.int (0 : Int32)), .val (.int (x0 &&& (255 : Int32))), .val (.int (3 : Int32)), .val (.int y140k3_4), .val (.int y140k3_5), .val (.int (x1 &&& (255 : Int32))), .val (.int (2 : Int32))] [(.int (2 : Int32))])) (fun _ kq => XS.iload X.here hx rfl (hb hby d1_180) rfl kq) ?_
        refine own_st (T' := T) (F' := (mkF m 183 #[.val (.ref a), .val (.int (0 : Int32)), .val (.int (x0 &&& (255 : Int32))), .val (.int (3 : Int32)), .val (.int y140k3_4), .val (.int y140k3_5), .val (.int (x1 &&& (255 : Int32))), .val (.int (2 : Int32))] [(.int (3 : Int32)), (.int (2 : Int32))])) (fun _ kq => XS.iloadN X.here hx rfl (hb hby d1_182) rfl kq) ?_
        refine own_st (T' := T) (F' := (mkF m 186 #[.val (.ref a), .val (.int (0 : Int32)), .val (.int (x0 &&& (255 : Int32))), .val (.int (3 : Int32)), .val (.int y140k3_4), .val (.int y140k3_5), .val (.int (x1 &&& (255 : Int32))), .val (.int (2 : Int32))] [])) (fun _ kq => XS.icmpNo X.here hx rfl (hb hby d1_183) rfl (tlt (by decide : (2 : Int32) < (3 : Int32))).2.1 kq) ?_
        refine own_st (T' := T) (F' := (mkF m 187 #[.val (.ref a), .val (.int (0 : Int32)), .val (.int (x0 &&& (255 : Int32))), .val (.int (3 : Int32)), .val (.int y140k3_4), .val (.int y140k3_5), .val (.int (x1 &&& (255 : Int32))), .val (.int (2 : Int32))] [(.ref a)])) (fun _ kq => XS.aloadN X.here hx rfl (hb hby d1_186) rfl rfl kq) ?_
        refine own_st (T' := T) (F' := (mkF m 188 #[.val (.ref a), .val (.int (0 : Int32)), .val (.int (x0 &&& (255 : Int32))), .val (.int (3 : Int32)), .val (.int y140k3_4), .val (.int y140k3_5), .val (.int (x1 &&& (255 : Int32))), .val (.int (2 : Int32))] [(.int (0 : Int32)), (.ref a)])) (fun _ kq => XS.iloadN X.here hx rfl (hb hby d1_187) rfl kq) ?_
        refine own_st (T' := T) (F' := (mkF m 190 #[.val (.ref a), .val (.int (0 : Int32)), .val (.int (x0 &&& (255 : Int32))), .val (.int (3 : Int32)), .val (.int y140k3_4), .val (.int y140k3_5), .val (.int (x1 &&& (255 : Int32))), .val (.int (2 : Int32))] [(.int (2 : Int32)), (.int (0 : Int32)), (.ref a)])) (fun _ kq => XS.iload X.here hx rfl (hb hby d1_188) rfl kq) ?_
        refine own_st (T' := T) (F' := (mkF m 191 #[.val (.ref a), .val (.int (0 : Int32)), .val (.int (x0 &&& (255 : Int32))), .val (.int (3 : Int32)), .val (.int y140k3_4), .val (.int y140k3_5), .val (.int (x1 &&& (255 : Int32))), .val (.int (2 : Int32))] [(.int (2 : Int32)), (.ref a)])) (fun _ kq => XS.iadd X.here hx rfl (hb hby d1_190) rfl kq) ?_
        refine own_st (T' := T) (F' := (mkF m 192 #[.val (.ref a), .val (.int (0 : Int32)), .val (.int (x0 &&& (255 : Int32))), .val (.int (3 : Int32)), .val (.int y140k3_4), .val (.int y140k3_5), .val (.int (x1 &&& (255 : Int32))), .val (.int (2 : Int32))] [(.int x2)])) (own_baload X hx hZ eT V (g := (mkF m 191 #[.val (.ref a), .val (.int (0 : Int32)), .val (.int (x0 &&& (255 : Int32))), .val (.int (3 : Int32)), .val (.int y140k3_4), .val (.int y140k3_5), .val (.int (x1 &&& (255 : Int32))), .val (.int (2 : Int32))] [(.int (2 : Int32)), (.ref a)])) rfl rfl (hb hby d1_191) (by decide) (Nat.le_of_ble_eq_true rfl) (w := x2) rfl) ?_
        refine own_st (T' := T) (F' := (mkF m 195 #[.val (.ref a), .val (.int (0 : Int32)), .val (.int (x0 &&& (255 : Int32))), .val (.int (3 : Int32)), .val (.int y140k3_4), .val (.int y140k3_5), .val (.int (x1 &&& (255 : Int32))), .val (.int (2 : Int32))] [(.int (192 : Int32)), (.int x2)])) (fun _ kq => XS.sipush X.here hx rfl (hb hby d1_192) kq) ?_
        refine own_st (T' := T) (F' := (mkF m 196 #[.val (.ref a), .val (.int (0 : Int32)), .val (.int (x0 &&& (255 : Int32))), .val (.int (3 : Int32)), .val (.int y140k3_4), .val (.int y140k3_5), .val (.int (x1 &&& (255 : Int32))), .val (.int (2 : Int32))] [(.int (x2 &&& (192 : Int32)))])) (fun _ kq => XS.iand X.here hx rfl (hb hby d1_195) rfl kq) ?_
        refine own_st (T' := T) (F' := (mkF m 199 #[.val (.ref a), .val (.int (0 : Int32)), .val (.int (x0 &&& (255 : Int32))), .val (.int (3 : Int32)), .val (.int y140k3_4), .val (.int y140k3_5), .val (.int (x1 &&& (255 : Int32))), .val (.int (2 : Int32))] [(.int (128 : Int32)), (.int (x2 &&& (192 : Int32)))])) (fun _ kq => XS.sipush X.here hx rfl (hb hby d1_196) kq) ?_
        by_cases hc199_70 : (x2 &&& (192 : Int32)) = (128 : Int32)
        ·
          rw [if_pos hc199_70]
          refine own_st (T' := T) (F' := (mkF m 204 #[.val (.ref a), .val (.int (0 : Int32)), .val (.int (x0 &&& (255 : Int32))), .val (.int (3 : Int32)), .val (.int y140k3_4), .val (.int y140k3_5), .val (.int (x1 &&& (255 : Int32))), .val (.int (2 : Int32))] [])) (fun _ kq => XS.icmpYes X.here hx rfl (pc0 := 199) (pc' := 204) rfl (hb hby d1_199) rfl (teq hc199_70).1 (by decide) (by decide) kq) ?_
          refine own_st (T' := T) (F' := (mkF m 207 #[.val (.ref a), .val (.int (0 : Int32)), .val (.int (x0 &&& (255 : Int32))), .val (.int (3 : Int32)), .val (.int y140k3_4), .val (.int y140k3_5), .val (.int (x1 &&& (255 : Int32))), .val (.int (3 : Int32))] [])) (fun _ kq => XS.iinc X.here hx rfl (hb hby d1_204) rfl (l' := #[.val (.ref a), .val (.int (0 : Int32)), .val (.int (x0 &&& (255 : Int32))), .val (.int (3 : Int32)), .val (.int y140k3_4), .val (.int y140k3_5), .val (.int (x1 &&& (255 : Int32))), .val (.int (3 : Int32))]) rfl kq) ?_
          refine own_st (T' := T) (F' := (mkF m 180 #[.val (.ref a), .val (.int (0 : Int32)), .val (.int (x0 &&& (255 : Int32))), .val (.int (3 : Int32)), .val (.int y140k3_4), .val (.int y140k3_5), .val (.int (x1 &&& (255 : Int32))), .val (.int (3 : Int32))] [])) (fun _ kq => XS.goto X.here hx rfl (pc0 := 207) (pc' := 180) rfl (hb hby d1_207) (by decide) (by decide) kq) ?_
          refine own_st (T' := T) (F' := (mkF m 182 #[.val (.ref a), .val (.int (0 : Int32)), .val (.int (x0 &&& (255 : Int32))), .val (.int (3 : Int32)), .val (.int y140k3_4), .val (.int y140k3_5), .val (.int (x1 &&& (255 : Int32))), .val (.int (3 : Int32))] [(.int (3 : Int32))])) (fun _ kq => XS.iload X.here hx rfl (hb hby d1_180) rfl kq) ?_
          refine own_st (T' := T) (F' := (mkF m 183 #[.val (.ref a), .val (.int (0 : Int32)), .val (.int (x0 &&& (255 : Int32))), .val (.int (3 : Int32)), .val (.int y140k3_4), .val (.int y140k3_5), .val (.int (x1 &&& (255 : Int32))), .val (.int (3 : Int32))] [(.int (3 : Int32)), (.int (3 : Int32))])) (fun _ kq => XS.iloadN X.here hx rfl (hb hby d1_182) rfl kq) ?_
          refine own_st (T' := T) (F' := (mkF m 210 #[.val (.ref a), .val (.int (0 : Int32)), .val (.int (x0 &&& (255 : Int32))), .val (.int (3 : Int32)), .val (.int y140k3_4), .val (.int y140k3_5), .val (.int (x1 &&& (255 : Int32))), .val (.int (3 : Int32))] [])) (fun _ kq => XS.icmpYes X.here hx rfl (pc0 := 183) (pc' := 210) rfl (hb hby d1_183) rfl (flt (by decide : ¬ ((3 : Int32) < (3 : Int32)))).2.1 (by decide) (by decide) kq) ?_
          refine own_st (T' := T) (F' := (mkF m 211 #[.val (.ref a), .val (.int (0 : Int32)), .val (.int (x0 &&& (255 : Int32))), .val (.int (3 : Int32)), .val (.int y140k3_4), .val (.int y140k3_5), .val (.int (x1 &&& (255 : Int32))), .val (.int (3 : Int32))] [(.int (3 : Int32))])) (fun _ kq => XS.iloadN X.here hx rfl (hb hby d1_210) rfl kq) ?_
          exact own_retI X hx hlk hret (hb hby d1_211) (by decide) (by decide) (own_PQi rfl N eT)
        ·
          rw [if_neg hc199_70]
          refine own_st (T' := T) (F' := (mkF m 202 #[.val (.ref a), .val (.int (0 : Int32)), .val (.int (x0 &&& (255 : Int32))), .val (.int (3 : Int32)), .val (.int y140k3_4), .val (.int y140k3_5), .val (.int (x1 &&& (255 : Int32))), .val (.int (2 : Int32))] [])) (fun _ kq => XS.icmpNo X.here hx rfl (hb hby d1_199) rfl (feq hc199_70).1 kq) ?_
          refine own_st (T' := T) (F' := (mkF m 203 #[.val (.ref a), .val (.int (0 : Int32)), .val (.int (x0 &&& (255 : Int32))), .val (.int (3 : Int32)), .val (.int y140k3_4), .val (.int y140k3_5), .val (.int (x1 &&& (255 : Int32))), .val (.int (2 : Int32))] [(.int (0 : Int32))])) (fun _ kq => XS.iconst X.here hx rfl (hb hby d1_202) kq) ?_
          exact own_retI X hx hlk hret (hb hby d1_203) (by decide) (by decide) (own_PQi rfl N eT)
  have J140k2 : ∀ (T : State) (locs : List Loc) (X : Stand p l e ({ frames := 0, cells := 0, slots := 0, locals := 0 } : Room) s m #[(.ref a), (.int (0 : Int32))] below meth c T locs 0 0) (eT : T.heap = h0) (N : Fr n0 locs), own_Ends p e below s 0 0 (own_PQ (.int (sl4_140k2 x1)) h0 n0) T (mkF m 140 #[.val (.ref a), .val (.int (0 : Int32)), .val (.int (x0 &&& (255 : Int32))), .val (.int (2 : Int32)), .val (.int (128 : Int32)), .val (.int (191 : Int32)), .unset, .unset] []) := by
    intro T locs X eT N
    unfold sl4_140k2
    refine own_st (T' := T) (F' := (mkF m 141 #[.val (.ref a), .val (.int (0 : Int32)), .val (.int (x0 &&& (255 : Int32))), .val (.int (2 : Int32)), .val (.int (128 : Int32)), .val (.int (191 : Int32)), .unset, .unset] [(.ref a)])) (fun _ kq => XS.aloadN X.here hx rfl (hb hby d1_140) rfl rfl kq) ?_
    refine own_st (T' := T) (F' := (mkF m 142 #[.val (.ref a), .val (.int (0 : Int32)), .val (.int (x0 &&& (255 : Int32))), .val (.int (2 : Int32)), .val (.int (128 : Int32)), .val (.int (191 : Int32)), .unset, .unset] [(.int (4 : Int32))])) (own_lenI X hx hZ eT V (g := (mkF m 141 #[.val (.ref a), .val (.int (0 : Int32)), .val (.int (x0 &&& (255 : Int32))), .val (.int (2 : Int32)), .val (.int (128 : Int32)), .val (.int (191 : Int32)), .unset, .unset] [(.ref a)])) rfl rfl (hb hby d1_141)) ?_
    refine own_st (T' := T) (F' := (mkF m 143 #[.val (.ref a), .val (.int (0 : Int32)), .val (.int (x0 &&& (255 : Int32))), .val (.int (2 : Int32)), .val (.int (128 : Int32)), .val (.int (191 : Int32)), .unset, .unset] [(.int (0 : Int32)), (.int (4 : Int32))])) (fun _ kq => XS.iloadN X.here hx rfl (hb hby d1_142) rfl kq) ?_
    refine own_st (T' := T) (F' := (mkF m 144 #[.val (.ref a), .val (.int (0 : Int32)), .val (.int (x0 &&& (255 : Int32))), .val (.int (2 : Int32)), .val (.int (128 : Int32)), .val (.int (191 : Int32)), .unset, .unset] [(.int (4 : Int32))])) (fun _ kq => XS.isub X.here hx rfl (hb hby d1_143) rfl kq) ?_
    refine own_st (T' := T) (F' := (mkF m 145 #[.val (.ref a), .val (.int (0 : Int32)), .val (.int (x0 &&& (255 : Int32))), .val (.int (2 : Int32)), .val (.int (128 : Int32)), .val (.int (191 : Int32)), .unset, .unset] [(.int (2 : Int32)), (.int (4 : Int32))])) (fun _ kq => XS.iloadN X.here hx rfl (hb hby d1_144) rfl kq) ?_
    refine own_st (T' := T) (F' := (mkF m 150 #[.val (.ref a), .val (.int (0 : Int32)), .val (.int (x0 &&& (255 : Int32))), .val (.int (2 : Int32)), .val (.int (128 : Int32)), .val (.int (191 : Int32)), .unset, .unset] [])) (fun _ kq => XS.icmpYes X.here hx rfl (pc0 := 145) (pc' := 150) rfl (hb hby d1_145) rfl (flt (by decide : ¬ ((4 : Int32) < (2 : Int32)))).2.1 (by decide) (by decide) kq) ?_
    refine own_st (T' := T) (F' := (mkF m 151 #[.val (.ref a), .val (.int (0 : Int32)), .val (.int (x0 &&& (255 : Int32))), .val (.int (2 : Int32)), .val (.int (128 : Int32)), .val (.int (191 : Int32)), .unset, .unset] [(.ref a)])) (fun _ kq => XS.aloadN X.here hx rfl (hb hby d1_150) rfl rfl kq) ?_
    refine own_st (T' := T) (F' := (mkF m 152 #[.val (.ref a), .val (.int (0 : Int32)), .val (.int (x0 &&& (255 : Int32))), .val (.int (2 : Int32)), .val (.int (128 : Int32)), .val (.int (191 : Int32)), .unset, .unset] [(.int (0 : Int32)), (.ref a)])) (fun _ kq => XS.iloadN X.here hx rfl (hb hby d1_151) rfl kq) ?_
    refine own_st (T' := T) (F' := (mkF m 153 #[.val (.ref a), .val (.int (0 : Int32)), .val (.int (x0 &&& (255 : Int32))), .val (.int (2 : Int32)), .val (.int (128 : Int32)), .val (.int (191 : Int32)), .unset, .unset] [(.int (1 : Int32)), (.int (0 : Int32)), (.ref a)])) (fun _ kq => XS.iconst X.here hx rfl (hb hby d1_152) kq) ?_
    refine own_st (T' := T) (F' := (mkF m 154 #[.val (.ref a), .val (.int (0 : Int32)), .val (.int (x0 &&& (255 : Int32))), .val (.int (2 : Int32)), .val (.int (128 : Int32)), .val (.int (191 : Int32)), .unset, .unset] [(.int (1 : Int32)), (.ref a)])) (fun _ kq => XS.iadd X.here hx rfl (hb hby d1_153) rfl kq) ?_
    refine own_st (T' := T) (F' := (mkF m 155 #[.val (.ref a), .val (.int (0 : Int32)), .val (.int (x0 &&& (255 : Int32))), .val (.int (2 : Int32)), .val (.int (128 : Int32)), .val (.int (191 : Int32)), .unset, .unset] [(.int x1)])) (own_baload X hx hZ eT V (g := (mkF m 154 #[.val (.ref a), .val (.int (0 : Int32)), .val (.int (x0 &&& (255 : Int32))), .val (.int (2 : Int32)), .val (.int (128 : Int32)), .val (.int (191 : Int32)), .unset, .unset] [(.int (1 : Int32)), (.ref a)])) rfl rfl (hb hby d1_154) (by decide) (Nat.le_of_ble_eq_true rfl) (w := x1) rfl) ?_
    refine own_st (T' := T) (F' := (mkF m 158 #[.val (.ref a), .val (.int (0 : Int32)), .val (.int (x0 &&& (255 : Int32))), .val (.int (2 : Int32)), .val (.int (128 : Int32)), .val (.int (191 : Int32)), .unset, .unset] [(.int (255 : Int32)), (.int x1)])) (fun _ kq => XS.sipush X.here hx rfl (hb hby d1_155) kq) ?_
    refine own_st (T' := T) (F' := (mkF m 159 #[.val (.ref a), .val (.int (0 : Int32)), .val (.int (x0 &&& (255 : Int32))), .val (.int (2 : Int32)), .val (.int (128 : Int32)), .val (.int (191 : Int32)), .unset, .unset] [(.int (x1 &&& (255 : Int32)))])) (fun _ kq => XS.iand X.here hx rfl (hb hby d1_158) rfl kq) ?_
    refine own_st (T' := T) (F' := (mkF m 161 #[.val (.ref a), .val (.int (0 : Int32)), .val (.int (x0 &&& (255 : Int32))), .val (.int (2 : Int32)), .val (.int (128 : Int32)), .val (.int (191 : Int32)), .val (.int (x1 &&& (255 : Int32))), .unset] [])) (fun _ kq => XS.istore X.here hx rfl (hb hby d1_159) rfl (l' := #[.val (.ref a), .val (.int (0 : Int32)), .val (.int (x0 &&& (255 : Int32))), .val (.int (2 : Int32)), .val (.int (128 : Int32)), .val (.int (191 : Int32)), .val (.int (x1 &&& (255 : Int32))), .unset]) rfl kq) ?_
    refine own_st (T' := T) (F' := (mkF m 163 #[.val (.ref a), .val (.int (0 : Int32)), .val (.int (x0 &&& (255 : Int32))), .val (.int (2 : Int32)), .val (.int (128 : Int32)), .val (.int (191 : Int32)), .val (.int (x1 &&& (255 : Int32))), .unset] [(.int (x1 &&& (255 : Int32)))])) (fun _ kq => XS.iload X.here hx rfl (hb hby d1_161) rfl kq) ?_
    refine own_st (T' := T) (F' := (mkF m 165 #[.val (.ref a), .val (.int (0 : Int32)), .val (.int (x0 &&& (255 : Int32))), .val (.int (2 : Int32)), .val (.int (128 : Int32)), .val (.int (191 : Int32)), .val (.int (x1 &&& (255 : Int32))), .unset] [(.int (128 : Int32)), (.int (x1 &&& (255 : Int32)))])) (fun _ kq => XS.iload X.here hx rfl (hb hby d1_163) rfl kq) ?_
    by_cases hc165_71 : (x1 &&& (255 : Int32)) < (128 : Int32)
    ·
      rw [if_pos hc165_71]
      refine own_st (T' := T) (F' := (mkF m 175 #[.val (.ref a), .val (.int (0 : Int32)), .val (.int (x0 &&& (255 : Int32))), .val (.int (2 : Int32)), .val (.int (128 : Int32)), .val (.int (191 : Int32)), .val (.int (x1 &&& (255 : Int32))), .unset] [])) (fun _ kq => XS.icmpYes X.here hx rfl (pc0 := 165) (pc' := 175) rfl (hb hby d1_165) rfl (tlt hc165_71).1 (by decide) (by decide) kq) ?_
      refine own_st (T' := T) (F' := (mkF m 176 #[.val (.ref a), .val (.int (0 : Int32)), .val (.int (x0 &&& (255 : Int32))), .val (.int (2 : Int32)), .val (.int (128 : Int32)), .val (.int (191 : Int32)), .val (.int (x1 &&& (255 : Int32))), .unset] [(.int (0 : Int32))])) (fun _ kq => XS.iconst X.here hx rfl (hb hby d1_175) kq) ?_
      exact own_retI X hx hlk hret (hb hby d1_176) (by decide) (by decide) (own_PQi rfl N eT)
    ·
      rw [if_neg hc165_71]
      refine own_st (T' := T) (F' := (mkF m 168 #[.val (.ref a), .val (.int (0 : Int32)), .val (.int (x0 &&& (255 : Int32))), .val (.int (2 : Int32)), .val (.int (128 : Int32)), .val (.int (191 : Int32)), .val (.int (x1 &&& (255 : Int32))), .unset] [])) (fun _ kq => XS.icmpNo X.here hx rfl (hb hby d1_165) rfl (flt hc165_71).1 kq) ?_
      refine own_st (T' := T) (F' := (mkF m 170 #[.val (.ref a), .val (.int (0 : Int32)), .val (.int (x0 &&& (255 : Int32))), .val (.int (2 : Int32)), .val (.int (128 : Int32)), .val (.int (191 : Int32)), .val (.int (x1 &&& (255 : Int32))), .unset] [(.int (x1 &&& (255 : Int32)))])) (fun _ kq => XS.iload X.here hx rfl (hb hby d1_168) rfl kq) ?_
      refine own_st (T' := T) (F' := (mkF m 172 #[.val (.ref a), .val (.int (0 : Int32)), .val (.int (x0 &&& (255 : Int32))), .val (.int (2 : Int32)), .val (.int (128 : Int32)), .val (.int (191 : Int32)), .val (.int (x1 &&& (255 : Int32))), .unset] [(.int (191 : Int32)), (.int (x1 &&& (255 : Int32)))])) (fun _ kq => XS.iload X.here hx rfl (hb hby d1_170) rfl kq) ?_
      by_cases hc172_72 : (191 : Int32) < (x1 &&& (255 : Int32))
      ·
        rw [if_pos hc172_72]
        refine own_st (T' := T) (F' := (mkF m 175 #[.val (.ref a), .val (.int (0 : Int32)), .val (.int (x0 &&& (255 : Int32))), .val (.int (2 : Int32)), .val (.int (128 : Int32)), .val (.int (191 : Int32)), .val (.int (x1 &&& (255 : Int32))), .unset] [])) (fun _ kq => XS.icmpNo X.here hx rfl (hb hby d1_172) rfl (tlt hc172_72).2.2.2 kq) ?_
        refine own_st (T' := T) (F' := (mkF m 176 #[.val (.ref a), .val (.int (0 : Int32)), .val (.int (x0 &&& (255 : Int32))), .val (.int (2 : Int32)), .val (.int (128 : Int32)), .val (.int (191 : Int32)), .val (.int (x1 &&& (255 : Int32))), .unset] [(.int (0 : Int32))])) (fun _ kq => XS.iconst X.here hx rfl (hb hby d1_175) kq) ?_
        exact own_retI X hx hlk hret (hb hby d1_176) (by decide) (by decide) (own_PQi rfl N eT)
      ·
        rw [if_neg hc172_72]
        refine own_st (T' := T) (F' := (mkF m 177 #[.val (.ref a), .val (.int (0 : Int32)), .val (.int (x0 &&& (255 : Int32))), .val (.int (2 : Int32)), .val (.int (128 : Int32)), .val (.int (191 : Int32)), .val (.int (x1 &&& (255 : Int32))), .unset] [])) (fun _ kq => XS.icmpYes X.here hx rfl (pc0 := 172) (pc' := 177) rfl (hb hby d1_172) rfl (flt hc172_72).2.2.2 (by decide) (by decide) kq) ?_
        refine own_st (T' := T) (F' := (mkF m 178 #[.val (.ref a), .val (.int (0 : Int32)), .val (.int (x0 &&& (255 : Int32))), .val (.int (2 : Int32)), .val (.int (128 : Int32)), .val (.int (191 : Int32)), .val (.int (x1 &&& (255 : Int32))), .unset] [(.int (2 : Int32))])) (fun _ kq => XS.iconst X.here hx rfl (hb hby d1_177) kq) ?_
        refine own_st (T' := T) (F' := (mkF m 180 #[.val (.ref a), .val (.int (0 : Int32)), .val (.int (x0 &&& (255 : Int32))), .val (.int (2 : Int32)), .val (.int (128 : Int32)), .val (.int (191 : Int32)), .val (.int (x1 &&& (255 : Int32))), .val (.int (2 : Int32))] [])) (fun _ kq => XS.istore X.here hx rfl (hb hby d1_178) rfl (l' := #[.val (.ref a), .val (.int (0 : Int32)), .val (.int (x0 &&& (255 : Int32))), .val (.int (2 : Int32)), .val (.int (128 : Int32)), .val (.int (191 : Int32)), .val (.int (x1 &&& (255 : Int32))), .val (.int (2 : Int32))]) rfl kq) ?_
        refine own_st (T' := T) (F' := (mkF m 182 #[.val (.ref a), .val (.int (0 : Int32)), .val (.int (x0 &&& (255 : Int32))), .val (.int (2 : Int32)), .val (.int (128 : Int32)), .val (.int (191 : Int32)), .val (.int (x1 &&& (255 : Int32))), .val (.int (2 : Int32))] [(.int (2 : Int32))])) (fun _ kq => XS.iload X.here hx rfl (hb hby d1_180) rfl kq) ?_
        refine own_st (T' := T) (F' := (mkF m 183 #[.val (.ref a), .val (.int (0 : Int32)), .val (.int (x0 &&& (255 : Int32))), .val (.int (2 : Int32)), .val (.int (128 : Int32)), .val (.int (191 : Int32)), .val (.int (x1 &&& (255 : Int32))), .val (.int (2 : Int32))] [(.int (2 : Int32)), (.int (2 : Int32))])) (fun _ kq => XS.iloadN X.here hx rfl (hb hby d1_182) rfl kq) ?_
        refine own_st (T' := T) (F' := (mkF m 210 #[.val (.ref a), .val (.int (0 : Int32)), .val (.int (x0 &&& (255 : Int32))), .val (.int (2 : Int32)), .val (.int (128 : Int32)), .val (.int (191 : Int32)), .val (.int (x1 &&& (255 : Int32))), .val (.int (2 : Int32))] [])) (fun _ kq => XS.icmpYes X.here hx rfl (pc0 := 183) (pc' := 210) rfl (hb hby d1_183) rfl (flt (by decide : ¬ ((2 : Int32) < (2 : Int32)))).2.1 (by decide) (by decide) kq) ?_
        refine own_st (T' := T) (F' := (mkF m 211 #[.val (.ref a), .val (.int (0 : Int32)), .val (.int (x0 &&& (255 : Int32))), .val (.int (2 : Int32)), .val (.int (128 : Int32)), .val (.int (191 : Int32)), .val (.int (x1 &&& (255 : Int32))), .val (.int (2 : Int32))] [(.int (2 : Int32))])) (fun _ kq => XS.iloadN X.here hx rfl (hb hby d1_210) rfl kq) ?_
        exact own_retI X hx hlk hret (hb hby d1_211) (by decide) (by decide) (own_PQi rfl N eT)
  have J92 : ∀ (T : State) (locs : List Loc) (X : Stand p l e ({ frames := 0, cells := 0, slots := 0, locals := 0 } : Room) s m #[(.ref a), (.int (0 : Int32))] below meth c T locs 0 0) (eT : T.heap = h0) (N : Fr n0 locs), own_Ends p e below s 0 0 (own_PQ (.int (sl4_92 x0 x1 x2 x3)) h0 n0) T (mkF m 92 #[.val (.ref a), .val (.int (0 : Int32)), .val (.int (x0 &&& (255 : Int32))), .unset, .val (.int (128 : Int32)), .val (.int (191 : Int32)), .unset, .unset] []) := by
    intro T locs X eT N
    unfold sl4_92
    refine own_st (T' := T) (F' := (mkF m 93 #[.val (.ref a), .val (.int (0 : Int32)), .val (.int (x0 &&& (255 : Int32))), .unset, .val (.int (128 : Int32)), .val (.int (191 : Int32)), .unset, .unset] [(.int (x0 &&& (255 : Int32)))])) (fun _ kq => XS.iloadN X.here hx rfl (hb hby d1_92) rfl kq) ?_
    refine own_st (T' := T) (F' := (mkF m 96 #[.val (.ref a), .val (.int (0 : Int32)), .val (.int (x0 &&& (255 : Int32))), .unset, .val (.int (128 : Int32)), .val (.int (191 : Int32)), .unset, .unset] [(.int (240 : Int32)), (.int (x0 &&& (255 : Int32)))])) (fun _ kq => XS.sipush X.here hx rfl (hb hby d1_93) kq) ?_
    by_cases hc96_73 : (x0 &&& (255 : Int32)) < (240 : Int32)
    ·
      rw [if_pos hc96_73]
      refine own_st (T' := T) (F' := (mkF m 138 #[.val (.ref a), .val (.int (0 : Int32)), .val (.int (x0 &&& (255 : Int32))), .unset, .val (.int (128 : Int32)), .val (.int (191 : Int32)), .unset, .unset] [])) (fun _ kq => XS.icmpYes X.here hx rfl (pc0 := 96) (pc' := 138) rfl (hb hby d1_96) rfl (tlt hc96_73).1 (by decide) (by decide) kq) ?_
      refine own_st (T' := T) (F' := (mkF m 139 #[.val (.ref a), .val (.int (0 : Int32)), .val (.int (x0 &&& (255 : Int32))), .unset, .val (.int (128 : Int32)), .val (.int (191 : Int32)), .unset, .unset] [(.int (0 : Int32))])) (fun _ kq => XS.iconst X.here hx rfl (hb hby d1_138) kq) ?_
      exact own_retI X hx hlk hret (hb hby d1_139) (by decide) (by decide) (own_PQi rfl N eT)
    ·
      rw [if_neg hc96_73]
      refine own_st (T' := T) (F' := (mkF m 99 #[.val (.ref a), .val (.int (0 : Int32)), .val (.int (x0 &&& (255 : Int32))), .unset, .val (.int (128 : Int32)), .val (.int (191 : Int32)), .unset, .unset] [])) (fun _ kq => XS.icmpNo X.here hx rfl (hb hby d1_96) rfl (flt hc96_73).1 kq) ?_
      refine own_st (T' := T) (F' := (mkF m 100 #[.val (.ref a), .val (.int (0 : Int32)), .val (.int (x0 &&& (255 : Int32))), .unset, .val (.int (128 : Int32)), .val (.int (191 : Int32)), .unset, .unset] [(.int (x0 &&& (255 : Int32)))])) (fun _ kq => XS.iloadN X.here hx rfl (hb hby d1_99) rfl kq) ?_
      refine own_st (T' := T) (F' := (mkF m 103 #[.val (.ref a), .val (.int (0 : Int32)), .val (.int (x0 &&& (255 : Int32))), .unset, .val (.int (128 : Int32)), .val (.int (191 : Int32)), .unset, .unset] [(.int (244 : Int32)), (.int (x0 &&& (255 : Int32)))])) (fun _ kq => XS.sipush X.here hx rfl (hb hby d1_100) kq) ?_
      by_cases hc103_74 : (244 : Int32) < (x0 &&& (255 : Int32))
      ·
        rw [if_pos hc103_74]
        refine own_st (T' := T) (F' := (mkF m 138 #[.val (.ref a), .val (.int (0 : Int32)), .val (.int (x0 &&& (255 : Int32))), .unset, .val (.int (128 : Int32)), .val (.int (191 : Int32)), .unset, .unset] [])) (fun _ kq => XS.icmpYes X.here hx rfl (pc0 := 103) (pc' := 138) rfl (hb hby d1_103) rfl (tlt hc103_74).2.2.1 (by decide) (by decide) kq) ?_
        refine own_st (T' := T) (F' := (mkF m 139 #[.val (.ref a), .val (.int (0 : Int32)), .val (.int (x0 &&& (255 : Int32))), .unset, .val (.int (128 : Int32)), .val (.int (191 : Int32)), .unset, .unset] [(.int (0 : Int32))])) (fun _ kq => XS.iconst X.here hx rfl (hb hby d1_138) kq) ?_
        exact own_retI X hx hlk hret (hb hby d1_139) (by decide) (by decide) (own_PQi rfl N eT)
      ·
        rw [if_neg hc103_74]
        refine own_st (T' := T) (F' := (mkF m 106 #[.val (.ref a), .val (.int (0 : Int32)), .val (.int (x0 &&& (255 : Int32))), .unset, .val (.int (128 : Int32)), .val (.int (191 : Int32)), .unset, .unset] [])) (fun _ kq => XS.icmpNo X.here hx rfl (hb hby d1_103) rfl (flt hc103_74).2.2.1 kq) ?_
        refine own_st (T' := T) (F' := (mkF m 107 #[.val (.ref a), .val (.int (0 : Int32)), .val (.int (x0 &&& (255 : Int32))), .unset, .val (.int (128 : Int32)), .val (.int (191 : Int32)), .unset, .unset] [(.int (4 : Int32))])) (fun _ kq => XS.iconst X.here hx rfl (hb hby d1_106) kq) ?_
        refine own_st (T' := T) (F' := (mkF m 108 #[.val (.ref a), .val (.int (0 : Int32)), .val (.int (x0 &&& (255 : Int32))), .val (.int (4 : Int32)), .val (.int (128 : Int32)), .val (.int (191 : Int32)), .unset, .unset] [])) (fun _ kq => XS.istoreN X.here hx rfl (hb hby d1_107) rfl (l' := #[.val (.ref a), .val (.int (0 : Int32)), .val (.int (x0 &&& (255 : Int32))), .val (.int (4 : Int32)), .val (.int (128 : Int32)), .val (.int (191 : Int32)), .unset, .unset]) rfl kq) ?_
        refine own_st (T' := T) (F' := (mkF m 109 #[.val (.ref a), .val (.int (0 : Int32)), .val (.int (x0 &&& (255 : Int32))), .val (.int (4 : Int32)), .val (.int (128 : Int32)), .val (.int (191 : Int32)), .unset, .unset] [(.int (x0 &&& (255 : Int32)))])) (fun _ kq => XS.iloadN X.here hx rfl (hb hby d1_108) rfl kq) ?_
        refine own_st (T' := T) (F' := (mkF m 112 #[.val (.ref a), .val (.int (0 : Int32)), .val (.int (x0 &&& (255 : Int32))), .val (.int (4 : Int32)), .val (.int (128 : Int32)), .val (.int (191 : Int32)), .unset, .unset] [(.int (240 : Int32)), (.int (x0 &&& (255 : Int32)))])) (fun _ kq => XS.sipush X.here hx rfl (hb hby d1_109) kq) ?_
        by_cases hc112_75 : (x0 &&& (255 : Int32)) = (240 : Int32)
        ·
          rw [if_pos hc112_75]
          refine own_st (T' := T) (F' := (mkF m 115 #[.val (.ref a), .val (.int (0 : Int32)), .val (.int (x0 &&& (255 : Int32))), .val (.int (4 : Int32)), .val (.int (128 : Int32)), .val (.int (191 : Int32)), .unset, .unset] [])) (fun _ kq => XS.icmpNo X.here hx rfl (hb hby d1_112) rfl (teq hc112_75).2 kq) ?_
          refine own_st (T' := T) (F' := (mkF m 118 #[.val (.ref a), .val (.int (0 : Int32)), .val (.int (x0 &&& (255 : Int32))), .val (.int (4 : Int32)), .val (.int (128 : Int32)), .val (.int (191 : Int32)), .unset, .unset] [(.int (144 : Int32))])) (fun _ kq => XS.sipush X.here hx rfl (hb hby d1_115) kq) ?_
          refine own_st (T' := T) (F' := (mkF m 120 #[.val (.ref a), .val (.int (0 : Int32)), .val (.int (x0 &&& (255 : Int32))), .val (.int (4 : Int32)), .val (.int (144 : Int32)), .val (.int (191 : Int32)), .unset, .unset] [])) (fun _ kq => XS.istore X.here hx rfl (hb hby d1_118) rfl (l' := #[.val (.ref a), .val (.int (0 : Int32)), .val (.int (x0 &&& (255 : Int32))), .val (.int (4 : Int32)), .val (.int (144 : Int32)), .val (.int (191 : Int32)), .unset, .unset]) rfl kq) ?_
          refine own_st (T' := T) (F' := (mkF m 140 #[.val (.ref a), .val (.int (0 : Int32)), .val (.int (x0 &&& (255 : Int32))), .val (.int (4 : Int32)), .val (.int (144 : Int32)), .val (.int (191 : Int32)), .unset, .unset] [])) (fun _ kq => XS.goto X.here hx rfl (pc0 := 120) (pc' := 140) rfl (hb hby d1_120) (by decide) (by decide) kq) ?_
          exact J140k4 (144 : Int32) (191 : Int32) T _ X eT N
        ·
          rw [if_neg hc112_75]
          refine own_st (T' := T) (F' := (mkF m 123 #[.val (.ref a), .val (.int (0 : Int32)), .val (.int (x0 &&& (255 : Int32))), .val (.int (4 : Int32)), .val (.int (128 : Int32)), .val (.int (191 : Int32)), .unset, .unset] [])) (fun _ kq => XS.icmpYes X.here hx rfl (pc0 := 112) (pc' := 123) rfl (hb hby d1_112) rfl (feq hc112_75).2 (by decide) (by decide) kq) ?_
          refine own_st (T' := T) (F' := (mkF m 124 #[.val (.ref a), .val (.int (0 : Int32)), .val (.int (x0 &&& (255 : Int32))), .val (.int (4 : Int32)), .val (.int (128 : Int32)), .val (.int (191 : Int32)), .unset, .unset] [(.int (x0 &&& (255 : Int32)))])) (fun _ kq => XS.iloadN X.here hx rfl (hb hby d1_123) rfl kq) ?_
          refine own_st (T' := T) (F' := (mkF m 127 #[.val (.ref a), .val (.int (0 : Int32)), .val (.int (x0 &&& (255 : Int32))), .val (.int (4 : Int32)), .val (.int (128 : Int32)), .val (.int (191 : Int32)), .unset, .unset] [(.int (244 : Int32)), (.int (x0 &&& (255 : Int32)))])) (fun _ kq => XS.sipush X.here hx rfl (hb hby d1_124) kq) ?_
          by_cases hc127_76 : (x0 &&& (255 : Int32)) = (244 : Int32)
          ·
            rw [if_pos hc127_76]
            refine own_st (T' := T) (F' := (mkF m 130 #[.val (.ref a), .val (.int (0 : Int32)), .val (.int (x0 &&& (255 : Int32))), .val (.int (4 : Int32)), .val (.int (128 : Int32)), .val (.int (191 : Int32)), .unset, .unset] [])) (fun _ kq => XS.icmpNo X.here hx rfl (hb hby d1_127) rfl (teq hc127_76).2 kq) ?_
            refine own_st (T' := T) (F' := (mkF m 133 #[.val (.ref a), .val (.int (0 : Int32)), .val (.int (x0 &&& (255 : Int32))), .val (.int (4 : Int32)), .val (.int (128 : Int32)), .val (.int (191 : Int32)), .unset, .unset] [(.int (143 : Int32))])) (fun _ kq => XS.sipush X.here hx rfl (hb hby d1_130) kq) ?_
            refine own_st (T' := T) (F' := (mkF m 135 #[.val (.ref a), .val (.int (0 : Int32)), .val (.int (x0 &&& (255 : Int32))), .val (.int (4 : Int32)), .val (.int (128 : Int32)), .val (.int (143 : Int32)), .unset, .unset] [])) (fun _ kq => XS.istore X.here hx rfl (hb hby d1_133) rfl (l' := #[.val (.ref a), .val (.int (0 : Int32)), .val (.int (x0 &&& (255 : Int32))), .val (.int (4 : Int32)), .val (.int (128 : Int32)), .val (.int (143 : Int32)), .unset, .unset]) rfl kq) ?_
            refine own_st (T' := T) (F' := (mkF m 140 #[.val (.ref a), .val (.int (0 : Int32)), .val (.int (x0 &&& (255 : Int32))), .val (.int (4 : Int32)), .val (.int (128 : Int32)), .val (.int (143 : Int32)), .unset, .unset] [])) (fun _ kq => XS.goto X.here hx rfl (pc0 := 135) (pc' := 140) rfl (hb hby d1_135) (by decide) (by decide) kq) ?_
            exact J140k4 (128 : Int32) (143 : Int32) T _ X eT N
          ·
            rw [if_neg hc127_76]
            refine own_st (T' := T) (F' := (mkF m 140 #[.val (.ref a), .val (.int (0 : Int32)), .val (.int (x0 &&& (255 : Int32))), .val (.int (4 : Int32)), .val (.int (128 : Int32)), .val (.int (191 : Int32)), .unset, .unset] [])) (fun _ kq => XS.icmpYes X.here hx rfl (pc0 := 127) (pc' := 140) rfl (hb hby d1_127) rfl (feq hc127_76).2 (by decide) (by decide) kq) ?_
            exact J140k4 (128 : Int32) (191 : Int32) T _ X eT N
  have J46 : ∀ (T : State) (locs : List Loc) (X : Stand p l e ({ frames := 0, cells := 0, slots := 0, locals := 0 } : Room) s m #[(.ref a), (.int (0 : Int32))] below meth c T locs 0 0) (eT : T.heap = h0) (N : Fr n0 locs), own_Ends p e below s 0 0 (own_PQ (.int (sl4_46 x0 x1 x2 x3)) h0 n0) T (mkF m 46 #[.val (.ref a), .val (.int (0 : Int32)), .val (.int (x0 &&& (255 : Int32))), .unset, .val (.int (128 : Int32)), .val (.int (191 : Int32)), .unset, .unset] []) := by
    intro T locs X eT N
    unfold sl4_46
    refine own_st (T' := T) (F' := (mkF m 47 #[.val (.ref a), .val (.int (0 : Int32)), .val (.int (x0 &&& (255 : Int32))), .unset, .val (.int (128 : Int32)), .val (.int (191 : Int32)), .unset, .unset] [(.int (x0 &&& (255 : Int32)))])) (fun _ kq => XS.iloadN X.here hx rfl (hb hby d1_46) rfl kq) ?_
    refine own_st (T' := T) (F' := (mkF m 50 #[.val (.ref a), .val (.int (0 : Int32)), .val (.int (x0 &&& (255 : Int32))), .unset, .val (.int (128 : Int32)), .val (.int (191 : Int32)), .unset, .unset] [(.int (224 : Int32)), (.int (x0 &&& (255 : Int32)))])) (fun _ kq => XS.sipush X.here hx rfl (hb hby d1_47) kq) ?_
    by_cases hc50_77 : (x0 &&& (255 : Int32)) < (224 : Int32)
    ·
      rw [if_pos hc50_77]
      refine own_st (T' := T) (F' := (mkF m 92 #[.val (.ref a), .val (.int (0 : Int32)), .val (.int (x0 &&& (255 : Int32))), .unset, .val (.int (128 : Int32)), .val (.int (191 : Int32)), .unset, .unset] [])) (fun _ kq => XS.icmpYes X.here hx rfl (pc0 := 50) (pc' := 92) rfl (hb hby d1_50) rfl (tlt hc50_77).1 (by decide) (by decide) kq) ?_
      exact J92  T _ X eT N
    ·
      rw [if_neg hc50_77]
      refine own_st (T' := T) (F' := (mkF m 53 #[.val (.ref a), .val (.int (0 : Int32)), .val (.int (x0 &&& (255 : Int32))), .unset, .val (.int (128 : Int32)), .val (.int (191 : Int32)), .unset, .unset] [])) (fun _ kq => XS.icmpNo X.here hx rfl (hb hby d1_50) rfl (flt hc50_77).1 kq) ?_
      refine own_st (T' := T) (F' := (mkF m 54 #[.val (.ref a), .val (.int (0 : Int32)), .val (.int (x0 &&& (255 : Int32))), .unset, .val (.int (128 : Int32)), .val (.int (191 : Int32)), .unset, .unset] [(.int (x0 &&& (255 : Int32)))])) (fun _ kq => XS.iloadN X.here hx rfl (hb hby d1_53) rfl kq) ?_
      refine own_st (T' := T) (F' := (mkF m 57 #[.val (.ref a), .val (.int (0 : Int32)), .val (.int (x0 &&& (255 : Int32))), .unset, .val (.int (128 : Int32)), .val (.int (191 : Int32)), .unset, .unset] [(.int (239 : Int32)), (.int (x0 &&& (255 : Int32)))])) (fun _ kq => XS.sipush X.here hx rfl (hb hby d1_54) kq) ?_
      by_cases hc57_78 : (239 : Int32) < (x0 &&& (255 : Int32))
      ·
        rw [if_pos hc57_78]
        refine own_st (T' := T) (F' := (mkF m 92 #[.val (.ref a), .val (.int (0 : Int32)), .val (.int (x0 &&& (255 : Int32))), .unset, .val (.int (128 : Int32)), .val (.int (191 : Int32)), .unset, .unset] [])) (fun _ kq => XS.icmpYes X.here hx rfl (pc0 := 57) (pc' := 92) rfl (hb hby d1_57) rfl (tlt hc57_78).2.2.1 (by decide) (by decide) kq) ?_
        exact J92  T _ X eT N
      ·
        rw [if_neg hc57_78]
        refine own_st (T' := T) (F' := (mkF m 60 #[.val (.ref a), .val (.int (0 : Int32)), .val (.int (x0 &&& (255 : Int32))), .unset, .val (.int (128 : Int32)), .val (.int (191 : Int32)), .unset, .unset] [])) (fun _ kq => XS.icmpNo X.here hx rfl (hb hby d1_57) rfl (flt hc57_78).2.2.1 kq) ?_
        refine own_st (T' := T) (F' := (mkF m 61 #[.val (.ref a), .val (.int (0 : Int32)), .val (.int (x0 &&& (255 : Int32))), .unset, .val (.int (128 : Int32)), .val (.int (191 : Int32)), .unset, .unset] [(.int (3 : Int32))])) (fun _ kq => XS.iconst X.here hx rfl (hb hby d1_60) kq) ?_
        refine own_st (T' := T) (F' := (mkF m 62 #[.val (.ref a), .val (.int (0 : Int32)), .val (.int (x0 &&& (255 : Int32))), .val (.int (3 : Int32)), .val (.int (128 : Int32)), .val (.int (191 : Int32)), .unset, .unset] [])) (fun _ kq => XS.istoreN X.here hx rfl (hb hby d1_61) rfl (l' := #[.val (.ref a), .val (.int (0 : Int32)), .val (.int (x0 &&& (255 : Int32))), .val (.int (3 : Int32)), .val (.int (128 : Int32)), .val (.int (191 : Int32)), .unset, .unset]) rfl kq) ?_
        refine own_st (T' := T) (F' := (mkF m 63 #[.val (.ref a), .val (.int (0 : Int32)), .val (.int (x0 &&& (255 : Int32))), .val (.int (3 : Int32)), .val (.int (128 : Int32)), .val (.int (191 : Int32)), .unset, .unset] [(.int (x0 &&& (255 : Int32)))])) (fun _ kq => XS.iloadN X.here hx rfl (hb hby d1_62) rfl kq) ?_
        refine own_st (T' := T) (F' := (mkF m 66 #[.val (.ref a), .val (.int (0 : Int32)), .val (.int (x0 &&& (255 : Int32))), .val (.int (3 : Int32)), .val (.int (128 : Int32)), .val (.int (191 : Int32)), .unset, .unset] [(.int (224 : Int32)), (.int (x0 &&& (255 : Int32)))])) (fun _ kq => XS.sipush X.here hx rfl (hb hby d1_63) kq) ?_
        by_cases hc66_79 : (x0 &&& (255 : Int32)) = (224 : Int32)
        ·
          rw [if_pos hc66_79]
          refine own_st (T' := T) (F' := (mkF m 69 #[.val (.ref a), .val (.int (0 : Int32)), .val (.int (x0 &&& (255 : Int32))), .val (.int (3 : Int32)), .val (.int (128 : Int32)), .val (.int (191 : Int32)), .unset, .unset] [])) (fun _ kq => XS.icmpNo X.here hx rfl (hb hby d1_66) rfl (teq hc66_79).2 kq) ?_
          refine own_st (T' := T) (F' := (mkF m 72 #[.val (.ref a), .val (.int (0 : Int32)), .val (.int (x0 &&& (255 : Int32))), .val (.int (3 : Int32)), .val (.int (128 : Int32)), .val (.int (191 : Int32)), .unset, .unset] [(.int (160 : Int32))])) (fun _ kq => XS.sipush X.here hx rfl (hb hby d1_69) kq) ?_
          refine own_st (T' := T) (F' := (mkF m 74 #[.val (.ref a), .val (.int (0 : Int32)), .val (.int (x0 &&& (255 : Int32))), .val (.int (3 : Int32)), .val (.int (160 : Int32)), .val (.int (191 : Int32)), .unset, .unset] [])) (fun _ kq => XS.istore X.here hx rfl (hb hby d1_72) rfl (l' := #[.val (.ref a), .val (.int (0 : Int32)), .val (.int (x0 &&& (255 : Int32))), .val (.int (3 : Int32)), .val (.int (160 : Int32)), .val (.int (191 : Int32)), .unset, .unset]) rfl kq) ?_
          refine own_st (T' := T) (F' := (mkF m 140 #[.val (.ref a), .val (.int (0 : Int32)), .val (.int (x0 &&& (255 : Int32))), .val (.int (3 : Int32)), .val (.int (160 : Int32)), .val (.int (191 : Int32)), .unset, .unset] [])) (fun _ kq => XS.goto X.here hx rfl (pc0 := 74) (pc' := 140) rfl (hb hby d1_74) (by decide) (by decide) kq) ?_
          exact J140k3 (160 : Int32) (191 : Int32) T _ X eT N
        ·
          rw [if_neg hc66_79]
          refine own_st (T' := T) (F' := (mkF m 77 #[.val (.ref a), .val (.int (0 : Int32)), .val (.int (x0 &&& (255 : Int32))), .val (.int (3 : Int32)), .val (.int (128 : Int32)), .val (.int (191 : Int32)), .unset, .unset] [])) (fun _ kq => XS.icmpYes X.here hx rfl (pc0 := 66) (pc' := 77) rfl (hb hby d1_66) rfl (feq hc66_79).2 (by decide) (by decide) kq) ?_
          refine own_st (T' := T) (F' := (mkF m 78 #[.val (.ref a), .val (.int (0 : Int32)), .val (.int (x0 &&& (255 : Int32))), .val (.int (3 : Int32)), .val (.int (128 : Int32)), .val (.int (191 : Int32)), .unset, .unset] [(.int (x0 &&& (255 : Int32)))])) (fun _ kq => XS.iloadN X.here hx rfl (hb hby d1_77) rfl kq) ?_
          refine own_st (T' := T) (F' := (mkF m 81 #[.val (.ref a), .val (.int (0 : Int32)), .val (.int (x0 &&& (255 : Int32))), .val (.int (3 : Int32)), .val (.int (128 : Int32)), .val (.int (191 : Int32)), .unset, .unset] [(.int (237 : Int32)), (.int (x0 &&& (255 : Int32)))])) (fun _ kq => XS.sipush X.here hx rfl (hb hby d1_78) kq) ?_
          by_cases hc81_80 : (x0 &&& (255 : Int32)) = (237 : Int32)
          ·
            rw [if_pos hc81_80]
            refine own_st (T' := T) (F' := (mkF m 84 #[.val (.ref a), .val (.int (0 : Int32)), .val (.int (x0 &&& (255 : Int32))), .val (.int (3 : Int32)), .val (.int (128 : Int32)), .val (.int (191 : Int32)), .unset, .unset] [])) (fun _ kq => XS.icmpNo X.here hx rfl (hb hby d1_81) rfl (teq hc81_80).2 kq) ?_
            refine own_st (T' := T) (F' := (mkF m 87 #[.val (.ref a), .val (.int (0 : Int32)), .val (.int (x0 &&& (255 : Int32))), .val (.int (3 : Int32)), .val (.int (128 : Int32)), .val (.int (191 : Int32)), .unset, .unset] [(.int (159 : Int32))])) (fun _ kq => XS.sipush X.here hx rfl (hb hby d1_84) kq) ?_
            refine own_st (T' := T) (F' := (mkF m 89 #[.val (.ref a), .val (.int (0 : Int32)), .val (.int (x0 &&& (255 : Int32))), .val (.int (3 : Int32)), .val (.int (128 : Int32)), .val (.int (159 : Int32)), .unset, .unset] [])) (fun _ kq => XS.istore X.here hx rfl (hb hby d1_87) rfl (l' := #[.val (.ref a), .val (.int (0 : Int32)), .val (.int (x0 &&& (255 : Int32))), .val (.int (3 : Int32)), .val (.int (128 : Int32)), .val (.int (159 : Int32)), .unset, .unset]) rfl kq) ?_
            refine own_st (T' := T) (F' := (mkF m 140 #[.val (.ref a), .val (.int (0 : Int32)), .val (.int (x0 &&& (255 : Int32))), .val (.int (3 : Int32)), .val (.int (128 : Int32)), .val (.int (159 : Int32)), .unset, .unset] [])) (fun _ kq => XS.goto X.here hx rfl (pc0 := 89) (pc' := 140) rfl (hb hby d1_89) (by decide) (by decide) kq) ?_
            exact J140k3 (128 : Int32) (159 : Int32) T _ X eT N
          ·
            rw [if_neg hc81_80]
            refine own_st (T' := T) (F' := (mkF m 140 #[.val (.ref a), .val (.int (0 : Int32)), .val (.int (x0 &&& (255 : Int32))), .val (.int (3 : Int32)), .val (.int (128 : Int32)), .val (.int (191 : Int32)), .unset, .unset] [])) (fun _ kq => XS.icmpYes X.here hx rfl (pc0 := 81) (pc' := 140) rfl (hb hby d1_81) rfl (feq hc81_80).2 (by decide) (by decide) kq) ?_
            exact J140k3 (128 : Int32) (191 : Int32) T _ X eT N
  have N := Fr.nil n0
  refine own_entry (ef1 m a (0 : Int32)) ?_
  unfold sl4
  refine own_st (T' := T) (F' := (mkF m 1 #[.val (.ref a), .val (.int (0 : Int32)), .unset, .unset, .unset, .unset, .unset, .unset] [(.ref a)])) (fun _ kq => XS.aloadN X.here hx rfl (hb hby d1_0) rfl rfl kq) ?_
  refine own_st (T' := T) (F' := (mkF m 2 #[.val (.ref a), .val (.int (0 : Int32)), .unset, .unset, .unset, .unset, .unset, .unset] [(.int (0 : Int32)), (.ref a)])) (fun _ kq => XS.iloadN X.here hx rfl (hb hby d1_1) rfl kq) ?_
  refine own_st (T' := T) (F' := (mkF m 3 #[.val (.ref a), .val (.int (0 : Int32)), .unset, .unset, .unset, .unset, .unset, .unset] [(.int x0)])) (own_baload X hx hZ eT V (g := (mkF m 2 #[.val (.ref a), .val (.int (0 : Int32)), .unset, .unset, .unset, .unset, .unset, .unset] [(.int (0 : Int32)), (.ref a)])) rfl rfl (hb hby d1_2) (by decide) (Nat.le_of_ble_eq_true rfl) (w := x0) rfl) ?_
  refine own_st (T' := T) (F' := (mkF m 6 #[.val (.ref a), .val (.int (0 : Int32)), .unset, .unset, .unset, .unset, .unset, .unset] [(.int (255 : Int32)), (.int x0)])) (fun _ kq => XS.sipush X.here hx rfl (hb hby d1_3) kq) ?_
  refine own_st (T' := T) (F' := (mkF m 7 #[.val (.ref a), .val (.int (0 : Int32)), .unset, .unset, .unset, .unset, .unset, .unset] [(.int (x0 &&& (255 : Int32)))])) (fun _ kq => XS.iand X.here hx rfl (hb hby d1_6) rfl kq) ?_
  refine own_st (T' := T) (F' := (mkF m 8 #[.val (.ref a), .val (.int (0 : Int32)), .val (.int (x0 &&& (255 : Int32))), .unset, .unset, .unset, .unset, .unset] [])) (fun _ kq => XS.istoreN X.here hx rfl (hb hby d1_7) rfl (l' := #[.val (.ref a), .val (.int (0 : Int32)), .val (.int (x0 &&& (255 : Int32))), .unset, .unset, .unset, .unset, .unset]) rfl kq) ?_
  refine own_st (T' := T) (F' := (mkF m 9 #[.val (.ref a), .val (.int (0 : Int32)), .val (.int (x0 &&& (255 : Int32))), .unset, .unset, .unset, .unset, .unset] [(.int (x0 &&& (255 : Int32)))])) (fun _ kq => XS.iloadN X.here hx rfl (hb hby d1_8) rfl kq) ?_
  refine own_st (T' := T) (F' := (mkF m 12 #[.val (.ref a), .val (.int (0 : Int32)), .val (.int (x0 &&& (255 : Int32))), .unset, .unset, .unset, .unset, .unset] [(.int (128 : Int32)), (.int (x0 &&& (255 : Int32)))])) (fun _ kq => XS.sipush X.here hx rfl (hb hby d1_9) kq) ?_
  by_cases hc12_81 : (x0 &&& (255 : Int32)) < (128 : Int32)
  ·
    rw [if_pos hc12_81]
    refine own_st (T' := T) (F' := (mkF m 15 #[.val (.ref a), .val (.int (0 : Int32)), .val (.int (x0 &&& (255 : Int32))), .unset, .unset, .unset, .unset, .unset] [])) (fun _ kq => XS.icmpNo X.here hx rfl (hb hby d1_12) rfl (tlt hc12_81).2.1 kq) ?_
    refine own_st (T' := T) (F' := (mkF m 16 #[.val (.ref a), .val (.int (0 : Int32)), .val (.int (x0 &&& (255 : Int32))), .unset, .unset, .unset, .unset, .unset] [(.int (1 : Int32))])) (fun _ kq => XS.iconst X.here hx rfl (hb hby d1_15) kq) ?_
    exact own_retI X hx hlk hret (hb hby d1_16) (by decide) (by decide) (own_PQi rfl N eT)
  ·
    rw [if_neg hc12_81]
    refine own_st (T' := T) (F' := (mkF m 17 #[.val (.ref a), .val (.int (0 : Int32)), .val (.int (x0 &&& (255 : Int32))), .unset, .unset, .unset, .unset, .unset] [])) (fun _ kq => XS.icmpYes X.here hx rfl (pc0 := 12) (pc' := 17) rfl (hb hby d1_12) rfl (flt hc12_81).2.1 (by decide) (by decide) kq) ?_
    refine own_st (T' := T) (F' := (mkF m 20 #[.val (.ref a), .val (.int (0 : Int32)), .val (.int (x0 &&& (255 : Int32))), .unset, .unset, .unset, .unset, .unset] [(.int (128 : Int32))])) (fun _ kq => XS.sipush X.here hx rfl (hb hby d1_17) kq) ?_
    refine own_st (T' := T) (F' := (mkF m 22 #[.val (.ref a), .val (.int (0 : Int32)), .val (.int (x0 &&& (255 : Int32))), .unset, .val (.int (128 : Int32)), .unset, .unset, .unset] [])) (fun _ kq => XS.istore X.here hx rfl (hb hby d1_20) rfl (l' := #[.val (.ref a), .val (.int (0 : Int32)), .val (.int (x0 &&& (255 : Int32))), .unset, .val (.int (128 : Int32)), .unset, .unset, .unset]) rfl kq) ?_
    refine own_st (T' := T) (F' := (mkF m 25 #[.val (.ref a), .val (.int (0 : Int32)), .val (.int (x0 &&& (255 : Int32))), .unset, .val (.int (128 : Int32)), .unset, .unset, .unset] [(.int (191 : Int32))])) (fun _ kq => XS.sipush X.here hx rfl (hb hby d1_22) kq) ?_
    refine own_st (T' := T) (F' := (mkF m 27 #[.val (.ref a), .val (.int (0 : Int32)), .val (.int (x0 &&& (255 : Int32))), .unset, .val (.int (128 : Int32)), .val (.int (191 : Int32)), .unset, .unset] [])) (fun _ kq => XS.istore X.here hx rfl (hb hby d1_25) rfl (l' := #[.val (.ref a), .val (.int (0 : Int32)), .val (.int (x0 &&& (255 : Int32))), .unset, .val (.int (128 : Int32)), .val (.int (191 : Int32)), .unset, .unset]) rfl kq) ?_
    refine own_st (T' := T) (F' := (mkF m 28 #[.val (.ref a), .val (.int (0 : Int32)), .val (.int (x0 &&& (255 : Int32))), .unset, .val (.int (128 : Int32)), .val (.int (191 : Int32)), .unset, .unset] [(.int (x0 &&& (255 : Int32)))])) (fun _ kq => XS.iloadN X.here hx rfl (hb hby d1_27) rfl kq) ?_
    refine own_st (T' := T) (F' := (mkF m 31 #[.val (.ref a), .val (.int (0 : Int32)), .val (.int (x0 &&& (255 : Int32))), .unset, .val (.int (128 : Int32)), .val (.int (191 : Int32)), .unset, .unset] [(.int (194 : Int32)), (.int (x0 &&& (255 : Int32)))])) (fun _ kq => XS.sipush X.here hx rfl (hb hby d1_28) kq) ?_
    by_cases hc31_82 : (x0 &&& (255 : Int32)) < (194 : Int32)
    ·
      rw [if_pos hc31_82]
      refine own_st (T' := T) (F' := (mkF m 46 #[.val (.ref a), .val (.int (0 : Int32)), .val (.int (x0 &&& (255 : Int32))), .unset, .val (.int (128 : Int32)), .val (.int (191 : Int32)), .unset, .unset] [])) (fun _ kq => XS.icmpYes X.here hx rfl (pc0 := 31) (pc' := 46) rfl (hb hby d1_31) rfl (tlt hc31_82).1 (by decide) (by decide) kq) ?_
      exact J46  T _ X eT N
    ·
      rw [if_neg hc31_82]
      refine own_st (T' := T) (F' := (mkF m 34 #[.val (.ref a), .val (.int (0 : Int32)), .val (.int (x0 &&& (255 : Int32))), .unset, .val (.int (128 : Int32)), .val (.int (191 : Int32)), .unset, .unset] [])) (fun _ kq => XS.icmpNo X.here hx rfl (hb hby d1_31) rfl (flt hc31_82).1 kq) ?_
      refine own_st (T' := T) (F' := (mkF m 35 #[.val (.ref a), .val (.int (0 : Int32)), .val (.int (x0 &&& (255 : Int32))), .unset, .val (.int (128 : Int32)), .val (.int (191 : Int32)), .unset, .unset] [(.int (x0 &&& (255 : Int32)))])) (fun _ kq => XS.iloadN X.here hx rfl (hb hby d1_34) rfl kq) ?_
      refine own_st (T' := T) (F' := (mkF m 38 #[.val (.ref a), .val (.int (0 : Int32)), .val (.int (x0 &&& (255 : Int32))), .unset, .val (.int (128 : Int32)), .val (.int (191 : Int32)), .unset, .unset] [(.int (223 : Int32)), (.int (x0 &&& (255 : Int32)))])) (fun _ kq => XS.sipush X.here hx rfl (hb hby d1_35) kq) ?_
      by_cases hc38_83 : (223 : Int32) < (x0 &&& (255 : Int32))
      ·
        rw [if_pos hc38_83]
        refine own_st (T' := T) (F' := (mkF m 46 #[.val (.ref a), .val (.int (0 : Int32)), .val (.int (x0 &&& (255 : Int32))), .unset, .val (.int (128 : Int32)), .val (.int (191 : Int32)), .unset, .unset] [])) (fun _ kq => XS.icmpYes X.here hx rfl (pc0 := 38) (pc' := 46) rfl (hb hby d1_38) rfl (tlt hc38_83).2.2.1 (by decide) (by decide) kq) ?_
        exact J46  T _ X eT N
      ·
        rw [if_neg hc38_83]
        refine own_st (T' := T) (F' := (mkF m 41 #[.val (.ref a), .val (.int (0 : Int32)), .val (.int (x0 &&& (255 : Int32))), .unset, .val (.int (128 : Int32)), .val (.int (191 : Int32)), .unset, .unset] [])) (fun _ kq => XS.icmpNo X.here hx rfl (hb hby d1_38) rfl (flt hc38_83).2.2.1 kq) ?_
        refine own_st (T' := T) (F' := (mkF m 42 #[.val (.ref a), .val (.int (0 : Int32)), .val (.int (x0 &&& (255 : Int32))), .unset, .val (.int (128 : Int32)), .val (.int (191 : Int32)), .unset, .unset] [(.int (2 : Int32))])) (fun _ kq => XS.iconst X.here hx rfl (hb hby d1_41) kq) ?_
        refine own_st (T' := T) (F' := (mkF m 43 #[.val (.ref a), .val (.int (0 : Int32)), .val (.int (x0 &&& (255 : Int32))), .val (.int (2 : Int32)), .val (.int (128 : Int32)), .val (.int (191 : Int32)), .unset, .unset] [])) (fun _ kq => XS.istoreN X.here hx rfl (hb hby d1_42) rfl (l' := #[.val (.ref a), .val (.int (0 : Int32)), .val (.int (x0 &&& (255 : Int32))), .val (.int (2 : Int32)), .val (.int (128 : Int32)), .val (.int (191 : Int32)), .unset, .unset]) rfl kq) ?_
        refine own_st (T' := T) (F' := (mkF m 140 #[.val (.ref a), .val (.int (0 : Int32)), .val (.int (x0 &&& (255 : Int32))), .val (.int (2 : Int32)), .val (.int (128 : Int32)), .val (.int (191 : Int32)), .unset, .unset] [])) (fun _ kq => XS.goto X.here hx rfl (pc0 := 43) (pc' := 140) rfl (hb hby d1_43) (by decide) (by decide) kq) ?_
        exact J140k2  T _ X eT N
set_option maxRecDepth 65536 in
set_option maxHeartbeats 40000000 in
theorem rm1_1_1 (l : Launch) (Z : State) (a0 : Array Value) (hw : ∀ d ∈ tables_1, d.before a0 Z = true) (ws : List Jvm.Cond) (a : Addr) (w : Int32) (x0 : Int32) (h0 : Heap) (n0 : Nat) (V : own_AI Z h0 a .byte (2 : Int32) [w, x0]) :
    own_Met l Z (⟨"com/example/ogma/ogma/canon/Utf8", "sequenceLength", "([BI)I"⟩ : MethodName) prog_73_method_7_code 8 (some .int) ws ({ frames := 0, cells := 0, slots := 0, locals := 0 } : Room) #[(.ref a), (.int (1 : Int32))] h0 (own_PQ (.int (sl1 x0)) h0 n0) := by
  refine own_body (plainFor_of_name pn1) ?_
  intro p e s m below meth c T X hx hby hml hret hlk hZ hown hnm eT
  have J140k4 : ∀ (y140k4_4 : Int32) (y140k4_5 : Int32) (T : State) (locs : List Loc) (X : Stand p l e ({ frames := 0, cells := 0, slots := 0, locals := 0 } : Room) s m #[(.ref a), (.int (1 : Int32))] below meth c T locs 0 0) (eT : T.heap = h0) (N : Fr n0 locs), own_Ends p e below s 0 0 (own_PQ (.int (sl1_140k4 y140k4_4 y140k4_5)) h0 n0) T (mkF m 140 #[.val (.ref a), .val (.int (1 : Int32)), .val (.int (x0 &&& (255 : Int32))), .val (.int (4 : Int32)), .val (.int y140k4_4), .val (.int y140k4_5), .unset, .unset] []) := by
    intro y140k4_4 y140k4_5 T locs X eT N
    unfold sl1_140k4
    refine own_st (T' := T) (F' := (mkF m 141 #[.val (.ref a), .val (.int (1 : Int32)), .val (.int (x0 &&& (255 : Int32))), .val (.int (4 : Int32)), .val (.int y140k4_4), .val (.int y140k4_5), .unset, .unset] [(.ref a)])) (fun _ kq => XS.aloadN X.here hx rfl (hb hby d1_140) rfl rfl kq) ?_
    refine own_st (T' := T) (F' := (mkF m 142 #[.val (.ref a), .val (.int (1 : Int32)), .val (.int (x0 &&& (255 : Int32))), .val (.int (4 : Int32)), .val (.int y140k4_4), .val (.int y140k4_5), .unset, .unset] [(.int (2 : Int32))])) (own_lenI X hx hZ eT V (g := (mkF m 141 #[.val (.ref a), .val (.int (1 : Int32)), .val (.int (x0 &&& (255 : Int32))), .val (.int (4 : Int32)), .val (.int y140k4_4), .val (.int y140k4_5), .unset, .unset] [(.ref a)])) rfl rfl (hb hby d1_141)) ?_
    refine own_st (T' := T) (F' := (mkF m 143 #[.val (.ref a), .val (.int (1 : Int32)), .val (.int (x0 &&& (255 : Int32))), .val (.int (4 : Int32)), .val (.int y140k4_4), .val (.int y140k4_5), .unset, .unset] [(.int (1 : Int32)), (.int (2 : Int32))])) (fun _ kq => XS.iloadN X.here hx rfl (hb hby d1_142) rfl kq) ?_
    refine own_st (T' := T) (F' := (mkF m 144 #[.val (.ref a), .val (.int (1 : Int32)), .val (.int (x0 &&& (255 : Int32))), .val (.int (4 : Int32)), .val (.int y140k4_4), .val (.int y140k4_5), .unset, .unset] [(.int (1 : Int32))])) (fun _ kq => XS.isub X.here hx rfl (hb hby d1_143) rfl kq) ?_
    refine own_st (T' := T) (F' := (mkF m 145 #[.val (.ref a), .val (.int (1 : Int32)), .val (.int (x0 &&& (255 : Int32))), .val (.int (4 : Int32)), .val (.int y140k4_4), .val (.int y140k4_5), .unset, .unset] [(.int (4 : Int32)), (.int (1 : Int32))])) (fun _ kq => XS.iloadN X.here hx rfl (hb hby d1_144) rfl kq) ?_
    refine own_st (T' := T) (F' := (mkF m 148 #[.val (.ref a), .val (.int (1 : Int32)), .val (.int (x0 &&& (255 : Int32))), .val (.int (4 : Int32)), .val (.int y140k4_4), .val (.int y140k4_5), .unset, .unset] [])) (fun _ kq => XS.icmpNo X.here hx rfl (hb hby d1_145) rfl (tlt (by decide : (1 : Int32) < (4 : Int32))).2.1 kq) ?_
    refine own_st (T' := T) (F' := (mkF m 149 #[.val (.ref a), .val (.int (1 : Int32)), .val (.int (x0 &&& (255 : Int32))), .val (.int (4 : Int32)), .val (.int y140k4_4), .val (.int y140k4_5), .unset, .unset] [(.int (0 : Int32))])) (fun _ kq => XS.iconst X.here hx rfl (hb hby d1_148) kq) ?_
    exact own_retI X hx hlk hret (hb hby d1_149) (by decide) (by decide) (own_PQi rfl N eT)
  have J140k3 : ∀ (y140k3_4 : Int32) (y140k3_5 : Int32) (T : State) (locs : List Loc) (X : Stand p l e ({ frames := 0, cells := 0, slots := 0, locals := 0 } : Room) s m #[(.ref a), (.int (1 : Int32))] below meth c T locs 0 0) (eT : T.heap = h0) (N : Fr n0 locs), own_Ends p e below s 0 0 (own_PQ (.int (sl1_140k3 y140k3_4 y140k3_5)) h0 n0) T (mkF m 140 #[.val (.ref a), .val (.int (1 : Int32)), .val (.int (x0 &&& (255 : Int32))), .val (.int (3 : Int32)), .val (.int y140k3_4), .val (.int y140k3_5), .unset, .unset] []) := by
    intro y140k3_4 y140k3_5 T locs X eT N
    unfold sl1_140k3
    refine own_st (T' := T) (F' := (mkF m 141 #[.val (.ref a), .val (.int (1 : Int32)), .val (.int (x0 &&& (255 : Int32))), .val (.int (3 : Int32)), .val (.int y140k3_4), .val (.int y140k3_5), .unset, .unset] [(.ref a)])) (fun _ kq => XS.aloadN X.here hx rfl (hb hby d1_140) rfl rfl kq) ?_
    refine own_st (T' := T) (F' := (mkF m 142 #[.val (.ref a), .val (.int (1 : Int32)), .val (.int (x0 &&& (255 : Int32))), .val (.int (3 : Int32)), .val (.int y140k3_4), .val (.int y140k3_5), .unset, .unset] [(.int (2 : Int32))])) (own_lenI X hx hZ eT V (g := (mkF m 141 #[.val (.ref a), .val (.int (1 : Int32)), .val (.int (x0 &&& (255 : Int32))), .val (.int (3 : Int32)), .val (.int y140k3_4), .val (.int y140k3_5), .unset, .unset] [(.ref a)])) rfl rfl (hb hby d1_141)) ?_
    refine own_st (T' := T) (F' := (mkF m 143 #[.val (.ref a), .val (.int (1 : Int32)), .val (.int (x0 &&& (255 : Int32))), .val (.int (3 : Int32)), .val (.int y140k3_4), .val (.int y140k3_5), .unset, .unset] [(.int (1 : Int32)), (.int (2 : Int32))])) (fun _ kq => XS.iloadN X.here hx rfl (hb hby d1_142) rfl kq) ?_
    refine own_st (T' := T) (F' := (mkF m 144 #[.val (.ref a), .val (.int (1 : Int32)), .val (.int (x0 &&& (255 : Int32))), .val (.int (3 : Int32)), .val (.int y140k3_4), .val (.int y140k3_5), .unset, .unset] [(.int (1 : Int32))])) (fun _ kq => XS.isub X.here hx rfl (hb hby d1_143) rfl kq) ?_
    refine own_st (T' := T) (F' := (mkF m 145 #[.val (.ref a), .val (.int (1 : Int32)), .val (.int (x0 &&& (255 : Int32))), .val (.int (3 : Int32)), .val (.int y140k3_4), .val (.int y140k3_5), .unset, .unset] [(.int (3 : Int32)), (.int (1 : Int32))])) (fun _ kq => XS.iloadN X.here hx rfl (hb hby d1_144) rfl kq) ?_
    refine own_st (T' := T) (F' := (mkF m 148 #[.val (.ref a), .val (.int (1 : Int32)), .val (.int (x0 &&& (255 : Int32))), .val (.int (3 : Int32)), .val (.int y140k3_4), .val (.int y140k3_5), .unset, .unset] [])) (fun _ kq => XS.icmpNo X.here hx rfl (hb hby d1_145) rfl (tlt (by decide : (1 : Int32) < (3 : Int32))).2.1 kq) ?_
    refine own_st (T' := T) (F' := (mkF m 149 #[.val (.ref a), .val (.int (1 : Int32)), .val (.int (x0 &&& (255 : Int32))), .val (.int (3 : Int32)), .val (.int y140k3_4), .val (.int y140k3_5), .unset, .unset] [(.int (0 : Int32))])) (fun _ kq => XS.iconst X.here hx rfl (hb hby d1_148) kq) ?_
    exact own_retI X hx hlk hret (hb hby d1_149) (by decide) (by decide) (own_PQi rfl N eT)
  have J140k2 : ∀ (T : State) (locs : List Loc) (X : Stand p l e ({ frames := 0, cells := 0, slots := 0, locals := 0 } : Room) s m #[(.ref a), (.int (1 : Int32))] below meth c T locs 0 0) (eT : T.heap = h0) (N : Fr n0 locs), own_Ends p e below s 0 0 (own_PQ (.int (sl1_140k2 )) h0 n0) T (mkF m 140 #[.val (.ref a), .val (.int (1 : Int32)), .val (.int (x0 &&& (255 : Int32))), .val (.int (2 : Int32)), .val (.int (128 : Int32)), .val (.int (191 : Int32)), .unset, .unset] []) := by
    intro T locs X eT N
    unfold sl1_140k2
    refine own_st (T' := T) (F' := (mkF m 141 #[.val (.ref a), .val (.int (1 : Int32)), .val (.int (x0 &&& (255 : Int32))), .val (.int (2 : Int32)), .val (.int (128 : Int32)), .val (.int (191 : Int32)), .unset, .unset] [(.ref a)])) (fun _ kq => XS.aloadN X.here hx rfl (hb hby d1_140) rfl rfl kq) ?_
    refine own_st (T' := T) (F' := (mkF m 142 #[.val (.ref a), .val (.int (1 : Int32)), .val (.int (x0 &&& (255 : Int32))), .val (.int (2 : Int32)), .val (.int (128 : Int32)), .val (.int (191 : Int32)), .unset, .unset] [(.int (2 : Int32))])) (own_lenI X hx hZ eT V (g := (mkF m 141 #[.val (.ref a), .val (.int (1 : Int32)), .val (.int (x0 &&& (255 : Int32))), .val (.int (2 : Int32)), .val (.int (128 : Int32)), .val (.int (191 : Int32)), .unset, .unset] [(.ref a)])) rfl rfl (hb hby d1_141)) ?_
    refine own_st (T' := T) (F' := (mkF m 143 #[.val (.ref a), .val (.int (1 : Int32)), .val (.int (x0 &&& (255 : Int32))), .val (.int (2 : Int32)), .val (.int (128 : Int32)), .val (.int (191 : Int32)), .unset, .unset] [(.int (1 : Int32)), (.int (2 : Int32))])) (fun _ kq => XS.iloadN X.here hx rfl (hb hby d1_142) rfl kq) ?_
    refine own_st (T' := T) (F' := (mkF m 144 #[.val (.ref a), .val (.int (1 : Int32)), .val (.int (x0 &&& (255 : Int32))), .val (.int (2 : Int32)), .val (.int (128 : Int32)), .val (.int (191 : Int32)), .unset, .unset] [(.int (1 : Int32))])) (fun _ kq => XS.isub X.here hx rfl (hb hby d1_143) rfl kq) ?_
    refine own_st (T' := T) (F' := (mkF m 145 #[.val (.ref a), .val (.int (1 : Int32)), .val (.int (x0 &&& (255 : Int32))), .val (.int (2 : Int32)), .val (.int (128 : Int32)), .val (.int (191 : Int32)), .unset, .unset] [(.int (2 : Int32)), (.int (1 : Int32))])) (fun _ kq => XS.iloadN X.here hx rfl (hb hby d1_144) rfl kq) ?_
    refine own_st (T' := T) (F' := (mkF m 148 #[.val (.ref a), .val (.int (1 : Int32)), .val (.int (x0 &&& (255 : Int32))), .val (.int (2 : Int32)), .val (.int (128 : Int32)), .val (.int (191 : Int32)), .unset, .unset] [])) (fun _ kq => XS.icmpNo X.here hx rfl (hb hby d1_145) rfl (tlt (by decide : (1 : Int32) < (2 : Int32))).2.1 kq) ?_
    refine own_st (T' := T) (F' := (mkF m 149 #[.val (.ref a), .val (.int (1 : Int32)), .val (.int (x0 &&& (255 : Int32))), .val (.int (2 : Int32)), .val (.int (128 : Int32)), .val (.int (191 : Int32)), .unset, .unset] [(.int (0 : Int32))])) (fun _ kq => XS.iconst X.here hx rfl (hb hby d1_148) kq) ?_
    exact own_retI X hx hlk hret (hb hby d1_149) (by decide) (by decide) (own_PQi rfl N eT)
  have J92 : ∀ (T : State) (locs : List Loc) (X : Stand p l e ({ frames := 0, cells := 0, slots := 0, locals := 0 } : Room) s m #[(.ref a), (.int (1 : Int32))] below meth c T locs 0 0) (eT : T.heap = h0) (N : Fr n0 locs), own_Ends p e below s 0 0 (own_PQ (.int (sl1_92 x0)) h0 n0) T (mkF m 92 #[.val (.ref a), .val (.int (1 : Int32)), .val (.int (x0 &&& (255 : Int32))), .unset, .val (.int (128 : Int32)), .val (.int (191 : Int32)), .unset, .unset] []) := by
    intro T locs X eT N
    unfold sl1_92
    refine own_st (T' := T) (F' := (mkF m 93 #[.val (.ref a), .val (.int (1 : Int32)), .val (.int (x0 &&& (255 : Int32))), .unset, .val (.int (128 : Int32)), .val (.int (191 : Int32)), .unset, .unset] [(.int (x0 &&& (255 : Int32)))])) (fun _ kq => XS.iloadN X.here hx rfl (hb hby d1_92) rfl kq) ?_
    refine own_st (T' := T) (F' := (mkF m 96 #[.val (.ref a), .val (.int (1 : Int32)), .val (.int (x0 &&& (255 : Int32))), .unset, .val (.int (128 : Int32)), .val (.int (191 : Int32)), .unset, .unset] [(.int (240 : Int32)), (.int (x0 &&& (255 : Int32)))])) (fun _ kq => XS.sipush X.here hx rfl (hb hby d1_93) kq) ?_
    by_cases hc96_84 : (x0 &&& (255 : Int32)) < (240 : Int32)
    ·
      rw [if_pos hc96_84]
      refine own_st (T' := T) (F' := (mkF m 138 #[.val (.ref a), .val (.int (1 : Int32)), .val (.int (x0 &&& (255 : Int32))), .unset, .val (.int (128 : Int32)), .val (.int (191 : Int32)), .unset, .unset] [])) (fun _ kq => XS.icmpYes X.here hx rfl (pc0 := 96) (pc' := 138) rfl (hb hby d1_96) rfl (tlt hc96_84).1 (by decide) (by decide) kq) ?_
      refine own_st (T' := T) (F' := (mkF m 139 #[.val (.ref a), .val (.int (1 : Int32)), .val (.int (x0 &&& (255 : Int32))), .unset, .val (.int (128 : Int32)), .val (.int (191 : Int32)), .unset, .unset] [(.int (0 : Int32))])) (fun _ kq => XS.iconst X.here hx rfl (hb hby d1_138) kq) ?_
      exact own_retI X hx hlk hret (hb hby d1_139) (by decide) (by decide) (own_PQi rfl N eT)
    ·
      rw [if_neg hc96_84]
      refine own_st (T' := T) (F' := (mkF m 99 #[.val (.ref a), .val (.int (1 : Int32)), .val (.int (x0 &&& (255 : Int32))), .unset, .val (.int (128 : Int32)), .val (.int (191 : Int32)), .unset, .unset] [])) (fun _ kq => XS.icmpNo X.here hx rfl (hb hby d1_96) rfl (flt hc96_84).1 kq) ?_
      refine own_st (T' := T) (F' := (mkF m 100 #[.val (.ref a), .val (.int (1 : Int32)), .val (.int (x0 &&& (255 : Int32))), .unset, .val (.int (128 : Int32)), .val (.int (191 : Int32)), .unset, .unset] [(.int (x0 &&& (255 : Int32)))])) (fun _ kq => XS.iloadN X.here hx rfl (hb hby d1_99) rfl kq) ?_
      refine own_st (T' := T) (F' := (mkF m 103 #[.val (.ref a), .val (.int (1 : Int32)), .val (.int (x0 &&& (255 : Int32))), .unset, .val (.int (128 : Int32)), .val (.int (191 : Int32)), .unset, .unset] [(.int (244 : Int32)), (.int (x0 &&& (255 : Int32)))])) (fun _ kq => XS.sipush X.here hx rfl (hb hby d1_100) kq) ?_
      by_cases hc103_85 : (244 : Int32) < (x0 &&& (255 : Int32))
      ·
        rw [if_pos hc103_85]
        refine own_st (T' := T) (F' := (mkF m 138 #[.val (.ref a), .val (.int (1 : Int32)), .val (.int (x0 &&& (255 : Int32))), .unset, .val (.int (128 : Int32)), .val (.int (191 : Int32)), .unset, .unset] [])) (fun _ kq => XS.icmpYes X.here hx rfl (pc0 := 103) (pc' := 138) rfl (hb hby d1_103) rfl (tlt hc103_85).2.2.1 (by decide) (by decide) kq) ?_
        refine own_st (T' := T) (F' := (mkF m 139 #[.val (.ref a), .val (.int (1 : Int32)), .val (.int (x0 &&& (255 : Int32))), .unset, .val (.int (128 : Int32)), .val (.int (191 : Int32)), .unset, .unset] [(.int (0 : Int32))])) (fun _ kq => XS.iconst X.here hx rfl (hb hby d1_138) kq) ?_
        exact own_retI X hx hlk hret (hb hby d1_139) (by decide) (by decide) (own_PQi rfl N eT)
      ·
        rw [if_neg hc103_85]
        refine own_st (T' := T) (F' := (mkF m 106 #[.val (.ref a), .val (.int (1 : Int32)), .val (.int (x0 &&& (255 : Int32))), .unset, .val (.int (128 : Int32)), .val (.int (191 : Int32)), .unset, .unset] [])) (fun _ kq => XS.icmpNo X.here hx rfl (hb hby d1_103) rfl (flt hc103_85).2.2.1 kq) ?_
        refine own_st (T' := T) (F' := (mkF m 107 #[.val (.ref a), .val (.int (1 : Int32)), .val (.int (x0 &&& (255 : Int32))), .unset, .val (.int (128 : Int32)), .val (.int (191 : Int32)), .unset, .unset] [(.int (4 : Int32))])) (fun _ kq => XS.iconst X.here hx rfl (hb hby d1_106) kq) ?_
        refine own_st (T' := T) (F' := (mkF m 108 #[.val (.ref a), .val (.int (1 : Int32)), .val (.int (x0 &&& (255 : Int32))), .val (.int (4 : Int32)), .val (.int (128 : Int32)), .val (.int (191 : Int32)), .unset, .unset] [])) (fun _ kq => XS.istoreN X.here hx rfl (hb hby d1_107) rfl (l' := #[.val (.ref a), .val (.int (1 : Int32)), .val (.int (x0 &&& (255 : Int32))), .val (.int (4 : Int32)), .val (.int (128 : Int32)), .val (.int (191 : Int32)), .unset, .unset]) rfl kq) ?_
        refine own_st (T' := T) (F' := (mkF m 109 #[.val (.ref a), .val (.int (1 : Int32)), .val (.int (x0 &&& (255 : Int32))), .val (.int (4 : Int32)), .val (.int (128 : Int32)), .val (.int (191 : Int32)), .unset, .unset] [(.int (x0 &&& (255 : Int32)))])) (fun _ kq => XS.iloadN X.here hx rfl (hb hby d1_108) rfl kq) ?_
        refine own_st (T' := T) (F' := (mkF m 112 #[.val (.ref a), .val (.int (1 : Int32)), .val (.int (x0 &&& (255 : Int32))), .val (.int (4 : Int32)), .val (.int (128 : Int32)), .val (.int (191 : Int32)), .unset, .unset] [(.int (240 : Int32)), (.int (x0 &&& (255 : Int32)))])) (fun _ kq => XS.sipush X.here hx rfl (hb hby d1_109) kq) ?_
        by_cases hc112_86 : (x0 &&& (255 : Int32)) = (240 : Int32)
        ·
          rw [if_pos hc112_86]
          refine own_st (T' := T) (F' := (mkF m 115 #[.val (.ref a), .val (.int (1 : Int32)), .val (.int (x0 &&& (255 : Int32))), .val (.int (4 : Int32)), .val (.int (128 : Int32)), .val (.int (191 : Int32)), .unset, .unset] [])) (fun _ kq => XS.icmpNo X.here hx rfl (hb hby d1_112) rfl (teq hc112_86).2 kq) ?_
          refine own_st (T' := T) (F' := (mkF m 118 #[.val (.ref a), .val (.int (1 : Int32)), .val (.int (x0 &&& (255 : Int32))), .val (.int (4 : Int32)), .val (.int (128 : Int32)), .val (.int (191 : Int32)), .unset, .unset] [(.int (144 : Int32))])) (fun _ kq => XS.sipush X.here hx rfl (hb hby d1_115) kq) ?_
          refine own_st (T' := T) (F' := (mkF m 120 #[.val (.ref a), .val (.int (1 : Int32)), .val (.int (x0 &&& (255 : Int32))), .val (.int (4 : Int32)), .val (.int (144 : Int32)), .val (.int (191 : Int32)), .unset, .unset] [])) (fun _ kq => XS.istore X.here hx rfl (hb hby d1_118) rfl (l' := #[.val (.ref a), .val (.int (1 : Int32)), .val (.int (x0 &&& (255 : Int32))), .val (.int (4 : Int32)), .val (.int (144 : Int32)), .val (.int (191 : Int32)), .unset, .unset]) rfl kq) ?_
          refine own_st (T' := T) (F' := (mkF m 140 #[.val (.ref a), .val (.int (1 : Int32)), .val (.int (x0 &&& (255 : Int32))), .val (.int (4 : Int32)), .val (.int (144 : Int32)), .val (.int (191 : Int32)), .unset, .unset] [])) (fun _ kq => XS.goto X.here hx rfl (pc0 := 120) (pc' := 140) rfl (hb hby d1_120) (by decide) (by decide) kq) ?_
          exact J140k4 (144 : Int32) (191 : Int32) T _ X eT N
        ·
          rw [if_neg hc112_86]
          refine own_st (T' := T) (F' := (mkF m 123 #[.val (.ref a), .val (.int (1 : Int32)), .val (.int (x0 &&& (255 : Int32))), .val (.int (4 : Int32)), .val (.int (128 : Int32)), .val (.int (191 : Int32)), .unset, .unset] [])) (fun _ kq => XS.icmpYes X.here hx rfl (pc0 := 112) (pc' := 123) rfl (hb hby d1_112) rfl (feq hc112_86).2 (by decide) (by decide) kq) ?_
          refine own_st (T' := T) (F' := (mkF m 124 #[.val (.ref a), .val (.int (1 : Int32)), .val (.int (x0 &&& (255 : Int32))), .val (.int (4 : Int32)), .val (.int (128 : Int32)), .val (.int (191 : Int32)), .unset, .unset] [(.int (x0 &&& (255 : Int32)))])) (fun _ kq => XS.iloadN X.here hx rfl (hb hby d1_123) rfl kq) ?_
          refine own_st (T' := T) (F' := (mkF m 127 #[.val (.ref a), .val (.int (1 : Int32)), .val (.int (x0 &&& (255 : Int32))), .val (.int (4 : Int32)), .val (.int (128 : Int32)), .val (.int (191 : Int32)), .unset, .unset] [(.int (244 : Int32)), (.int (x0 &&& (255 : Int32)))])) (fun _ kq => XS.sipush X.here hx rfl (hb hby d1_124) kq) ?_
          by_cases hc127_87 : (x0 &&& (255 : Int32)) = (244 : Int32)
          ·
            rw [if_pos hc127_87]
            refine own_st (T' := T) (F' := (mkF m 130 #[.val (.ref a), .val (.int (1 : Int32)), .val (.int (x0 &&& (255 : Int32))), .val (.int (4 : Int32)), .val (.int (128 : Int32)), .val (.int (191 : Int32)), .unset, .unset] [])) (fun _ kq => XS.icmpNo X.here hx rfl (hb hby d1_127) rfl (teq hc127_87).2 kq) ?_
            refine own_st (T' := T) (F' := (mkF m 133 #[.val (.ref a), .val (.int (1 : Int32)), .val (.int (x0 &&& (255 : Int32))), .val (.int (4 : Int32)), .val (.int (128 : Int32)), .val (.int (191 : Int32)), .unset, .unset] [(.int (143 : Int32))])) (fun _ kq => XS.sipush X.here hx rfl (hb hby d1_130) kq) ?_
            refine own_st (T' := T) (F' := (mkF m 135 #[.val (.ref a), .val (.int (1 : Int32)), .val (.int (x0 &&& (255 : Int32))), .val (.int (4 : Int32)), .val (.int (128 : Int32)), .val (.int (143 : Int32)), .unset, .unset] [])) (fun _ kq => XS.istore X.here hx rfl (hb hby d1_133) rfl (l' := #[.val (.ref a), .val (.int (1 : Int32)), .val (.int (x0 &&& (255 : Int32))), .val (.int (4 : Int32)), .val (.int (128 : Int32)), .val (.int (143 : Int32)), .unset, .unset]) rfl kq) ?_
            refine own_st (T' := T) (F' := (mkF m 140 #[.val (.ref a), .val (.int (1 : Int32)), .val (.int (x0 &&& (255 : Int32))), .val (.int (4 : Int32)), .val (.int (128 : Int32)), .val (.int (143 : Int32)), .unset, .unset] [])) (fun _ kq => XS.goto X.here hx rfl (pc0 := 135) (pc' := 140) rfl (hb hby d1_135) (by decide) (by decide) kq) ?_
            exact J140k4 (128 : Int32) (143 : Int32) T _ X eT N
          ·
            rw [if_neg hc127_87]
            refine own_st (T' := T) (F' := (mkF m 140 #[.val (.ref a), .val (.int (1 : Int32)), .val (.int (x0 &&& (255 : Int32))), .val (.int (4 : Int32)), .val (.int (128 : Int32)), .val (.int (191 : Int32)), .unset, .unset] [])) (fun _ kq => XS.icmpYes X.here hx rfl (pc0 := 127) (pc' := 140) rfl (hb hby d1_127) rfl (feq hc127_87).2 (by decide) (by decide) kq) ?_
            exact J140k4 (128 : Int32) (191 : Int32) T _ X eT N
  have J46 : ∀ (T : State) (locs : List Loc) (X : Stand p l e ({ frames := 0, cells := 0, slots := 0, locals := 0 } : Room) s m #[(.ref a), (.int (1 : Int32))] below meth c T locs 0 0) (eT : T.heap = h0) (N : Fr n0 locs), own_Ends p e below s 0 0 (own_PQ (.int (sl1_46 x0)) h0 n0) T (mkF m 46 #[.val (.ref a), .val (.int (1 : Int32)), .val (.int (x0 &&& (255 : Int32))), .unset, .val (.int (128 : Int32)), .val (.int (191 : Int32)), .unset, .unset] []) := by
    intro T locs X eT N
    unfold sl1_46
    refine own_st (T' := T) (F' := (mkF m 47 #[.val (.ref a), .val (.int (1 : Int32)), .val (.int (x0 &&& (255 : Int32))), .unset, .val (.int (128 : Int32)), .val (.int (191 : Int32)), .unset, .unset] [(.int (x0 &&& (255 : Int32)))])) (fun _ kq => XS.iloadN X.here hx rfl (hb hby d1_46) rfl kq) ?_
    refine own_st (T' := T) (F' := (mkF m 50 #[.val (.ref a), .val (.int (1 : Int32)), .val (.int (x0 &&& (255 : Int32))), .unset, .val (.int (128 : Int32)), .val (.int (191 : Int32)), .unset, .unset] [(.int (224 : Int32)), (.int (x0 &&& (255 : Int32)))])) (fun _ kq => XS.sipush X.here hx rfl (hb hby d1_47) kq) ?_
    by_cases hc50_88 : (x0 &&& (255 : Int32)) < (224 : Int32)
    ·
      rw [if_pos hc50_88]
      refine own_st (T' := T) (F' := (mkF m 92 #[.val (.ref a), .val (.int (1 : Int32)), .val (.int (x0 &&& (255 : Int32))), .unset, .val (.int (128 : Int32)), .val (.int (191 : Int32)), .unset, .unset] [])) (fun _ kq => XS.icmpYes X.here hx rfl (pc0 := 50) (pc' := 92) rfl (hb hby d1_50) rfl (tlt hc50_88).1 (by decide) (by decide) kq) ?_
      exact J92  T _ X eT N
    ·
      rw [if_neg hc50_88]
      refine own_st (T' := T) (F' := (mkF m 53 #[.val (.ref a), .val (.int (1 : Int32)), .val (.int (x0 &&& (255 : Int32))), .unset, .val (.int (128 : Int32)), .val (.int (191 : Int32)), .unset, .unset] [])) (fun _ kq => XS.icmpNo X.here hx rfl (hb hby d1_50) rfl (flt hc50_88).1 kq) ?_
      refine own_st (T' := T) (F' := (mkF m 54 #[.val (.ref a), .val (.int (1 : Int32)), .val (.int (x0 &&& (255 : Int32))), .unset, .val (.int (128 : Int32)), .val (.int (191 : Int32)), .unset, .unset] [(.int (x0 &&& (255 : Int32)))])) (fun _ kq => XS.iloadN X.here hx rfl (hb hby d1_53) rfl kq) ?_
      refine own_st (T' := T) (F' := (mkF m 57 #[.val (.ref a), .val (.int (1 : Int32)), .val (.int (x0 &&& (255 : Int32))), .unset, .val (.int (128 : Int32)), .val (.int (191 : Int32)), .unset, .unset] [(.int (239 : Int32)), (.int (x0 &&& (255 : Int32)))])) (fun _ kq => XS.sipush X.here hx rfl (hb hby d1_54) kq) ?_
      by_cases hc57_89 : (239 : Int32) < (x0 &&& (255 : Int32))
      ·
        rw [if_pos hc57_89]
        refine own_st (T' := T) (F' := (mkF m 92 #[.val (.ref a), .val (.int (1 : Int32)), .val (.int (x0 &&& (255 : Int32))), .unset, .val (.int (128 : Int32)), .val (.int (191 : Int32)), .unset, .unset] [])) (fun _ kq => XS.icmpYes X.here hx rfl (pc0 := 57) (pc' := 92) rfl (hb hby d1_57) rfl (tlt hc57_89).2.2.1 (by decide) (by decide) kq) ?_
        exact J92  T _ X eT N
      ·
        rw [if_neg hc57_89]
        refine own_st (T' := T) (F' := (mkF m 60 #[.val (.ref a), .val (.int (1 : Int32)), .val (.int (x0 &&& (255 : Int32))), .unset, .val (.int (128 : Int32)), .val (.int (191 : Int32)), .unset, .unset] [])) (fun _ kq => XS.icmpNo X.here hx rfl (hb hby d1_57) rfl (flt hc57_89).2.2.1 kq) ?_
        refine own_st (T' := T) (F' := (mkF m 61 #[.val (.ref a), .val (.int (1 : Int32)), .val (.int (x0 &&& (255 : Int32))), .unset, .val (.int (128 : Int32)), .val (.int (191 : Int32)), .unset, .unset] [(.int (3 : Int32))])) (fun _ kq => XS.iconst X.here hx rfl (hb hby d1_60) kq) ?_
        refine own_st (T' := T) (F' := (mkF m 62 #[.val (.ref a), .val (.int (1 : Int32)), .val (.int (x0 &&& (255 : Int32))), .val (.int (3 : Int32)), .val (.int (128 : Int32)), .val (.int (191 : Int32)), .unset, .unset] [])) (fun _ kq => XS.istoreN X.here hx rfl (hb hby d1_61) rfl (l' := #[.val (.ref a), .val (.int (1 : Int32)), .val (.int (x0 &&& (255 : Int32))), .val (.int (3 : Int32)), .val (.int (128 : Int32)), .val (.int (191 : Int32)), .unset, .unset]) rfl kq) ?_
        refine own_st (T' := T) (F' := (mkF m 63 #[.val (.ref a), .val (.int (1 : Int32)), .val (.int (x0 &&& (255 : Int32))), .val (.int (3 : Int32)), .val (.int (128 : Int32)), .val (.int (191 : Int32)), .unset, .unset] [(.int (x0 &&& (255 : Int32)))])) (fun _ kq => XS.iloadN X.here hx rfl (hb hby d1_62) rfl kq) ?_
        refine own_st (T' := T) (F' := (mkF m 66 #[.val (.ref a), .val (.int (1 : Int32)), .val (.int (x0 &&& (255 : Int32))), .val (.int (3 : Int32)), .val (.int (128 : Int32)), .val (.int (191 : Int32)), .unset, .unset] [(.int (224 : Int32)), (.int (x0 &&& (255 : Int32)))])) (fun _ kq => XS.sipush X.here hx rfl (hb hby d1_63) kq) ?_
        by_cases hc66_90 : (x0 &&& (255 : Int32)) = (224 : Int32)
        ·
          rw [if_pos hc66_90]
          refine own_st (T' := T) (F' := (mkF m 69 #[.val (.ref a), .val (.int (1 : Int32)), .val (.int (x0 &&& (255 : Int32))), .val (.int (3 : Int32)), .val (.int (128 : Int32)), .val (.int (191 : Int32)), .unset, .unset] [])) (fun _ kq => XS.icmpNo X.here hx rfl (hb hby d1_66) rfl (teq hc66_90).2 kq) ?_
          refine own_st (T' := T) (F' := (mkF m 72 #[.val (.ref a), .val (.int (1 : Int32)), .val (.int (x0 &&& (255 : Int32))), .val (.int (3 : Int32)), .val (.int (128 : Int32)), .val (.int (191 : Int32)), .unset, .unset] [(.int (160 : Int32))])) (fun _ kq => XS.sipush X.here hx rfl (hb hby d1_69) kq) ?_
          refine own_st (T' := T) (F' := (mkF m 74 #[.val (.ref a), .val (.int (1 : Int32)), .val (.int (x0 &&& (255 : Int32))), .val (.int (3 : Int32)), .val (.int (160 : Int32)), .val (.int (191 : Int32)), .unset, .unset] [])) (fun _ kq => XS.istore X.here hx rfl (hb hby d1_72) rfl (l' := #[.val (.ref a), .val (.int (1 : Int32)), .val (.int (x0 &&& (255 : Int32))), .val (.int (3 : Int32)), .val (.int (160 : Int32)), .val (.int (191 : Int32)), .unset, .unset]) rfl kq) ?_
          refine own_st (T' := T) (F' := (mkF m 140 #[.val (.ref a), .val (.int (1 : Int32)), .val (.int (x0 &&& (255 : Int32))), .val (.int (3 : Int32)), .val (.int (160 : Int32)), .val (.int (191 : Int32)), .unset, .unset] [])) (fun _ kq => XS.goto X.here hx rfl (pc0 := 74) (pc' := 140) rfl (hb hby d1_74) (by decide) (by decide) kq) ?_
          exact J140k3 (160 : Int32) (191 : Int32) T _ X eT N
        ·
          rw [if_neg hc66_90]
          refine own_st (T' := T) (F' := (mkF m 77 #[.val (.ref a), .val (.int (1 : Int32)), .val (.int (x0 &&& (255 : Int32))), .val (.int (3 : Int32)), .val (.int (128 : Int32)), .val (.int (191 : Int32)), .unset, .unset] [])) (fun _ kq => XS.icmpYes X.here hx rfl (pc0 := 66) (pc' := 77) rfl (hb hby d1_66) rfl (feq hc66_90).2 (by decide) (by decide) kq) ?_
          refine own_st (T' := T) (F' := (mkF m 78 #[.val (.ref a), .val (.int (1 : Int32)), .val (.int (x0 &&& (255 : Int32))), .val (.int (3 : Int32)), .val (.int (128 : Int32)), .val (.int (191 : Int32)), .unset, .unset] [(.int (x0 &&& (255 : Int32)))])) (fun _ kq => XS.iloadN X.here hx rfl (hb hby d1_77) rfl kq) ?_
          refine own_st (T' := T) (F' := (mkF m 81 #[.val (.ref a), .val (.int (1 : Int32)), .val (.int (x0 &&& (255 : Int32))), .val (.int (3 : Int32)), .val (.int (128 : Int32)), .val (.int (191 : Int32)), .unset, .unset] [(.int (237 : Int32)), (.int (x0 &&& (255 : Int32)))])) (fun _ kq => XS.sipush X.here hx rfl (hb hby d1_78) kq) ?_
          by_cases hc81_91 : (x0 &&& (255 : Int32)) = (237 : Int32)
          ·
            rw [if_pos hc81_91]
            refine own_st (T' := T) (F' := (mkF m 84 #[.val (.ref a), .val (.int (1 : Int32)), .val (.int (x0 &&& (255 : Int32))), .val (.int (3 : Int32)), .val (.int (128 : Int32)), .val (.int (191 : Int32)), .unset, .unset] [])) (fun _ kq => XS.icmpNo X.here hx rfl (hb hby d1_81) rfl (teq hc81_91).2 kq) ?_
            refine own_st (T' := T) (F' := (mkF m 87 #[.val (.ref a), .val (.int (1 : Int32)), .val (.int (x0 &&& (255 : Int32))), .val (.int (3 : Int32)), .val (.int (128 : Int32)), .val (.int (191 : Int32)), .unset, .unset] [(.int (159 : Int32))])) (fun _ kq => XS.sipush X.here hx rfl (hb hby d1_84) kq) ?_
            refine own_st (T' := T) (F' := (mkF m 89 #[.val (.ref a), .val (.int (1 : Int32)), .val (.int (x0 &&& (255 : Int32))), .val (.int (3 : Int32)), .val (.int (128 : Int32)), .val (.int (159 : Int32)), .unset, .unset] [])) (fun _ kq => XS.istore X.here hx rfl (hb hby d1_87) rfl (l' := #[.val (.ref a), .val (.int (1 : Int32)), .val (.int (x0 &&& (255 : Int32))), .val (.int (3 : Int32)), .val (.int (128 : Int32)), .val (.int (159 : Int32)), .unset, .unset]) rfl kq) ?_
            refine own_st (T' := T) (F' := (mkF m 140 #[.val (.ref a), .val (.int (1 : Int32)), .val (.int (x0 &&& (255 : Int32))), .val (.int (3 : Int32)), .val (.int (128 : Int32)), .val (.int (159 : Int32)), .unset, .unset] [])) (fun _ kq => XS.goto X.here hx rfl (pc0 := 89) (pc' := 140) rfl (hb hby d1_89) (by decide) (by decide) kq) ?_
            exact J140k3 (128 : Int32) (159 : Int32) T _ X eT N
          ·
            rw [if_neg hc81_91]
            refine own_st (T' := T) (F' := (mkF m 140 #[.val (.ref a), .val (.int (1 : Int32)), .val (.int (x0 &&& (255 : Int32))), .val (.int (3 : Int32)), .val (.int (128 : Int32)), .val (.int (191 : Int32)), .unset, .unset] [])) (fun _ kq => XS.icmpYes X.here hx rfl (pc0 := 81) (pc' := 140) rfl (hb hby d1_81) rfl (feq hc81_91).2 (by decide) (by decide) kq) ?_
            exact J140k3 (128 : Int32) (191 : Int32) T _ X eT N
  have N := Fr.nil n0
  refine own_entry (ef1 m a (1 : Int32)) ?_
  unfold sl1
  refine own_st (T' := T) (F' := (mkF m 1 #[.val (.ref a), .val (.int (1 : Int32)), .unset, .unset, .unset, .unset, .unset, .unset] [(.ref a)])) (fun _ kq => XS.aloadN X.here hx rfl (hb hby d1_0) rfl rfl kq) ?_
  refine own_st (T' := T) (F' := (mkF m 2 #[.val (.ref a), .val (.int (1 : Int32)), .unset, .unset, .unset, .unset, .unset, .unset] [(.int (1 : Int32)), (.ref a)])) (fun _ kq => XS.iloadN X.here hx rfl (hb hby d1_1) rfl kq) ?_
  refine own_st (T' := T) (F' := (mkF m 3 #[.val (.ref a), .val (.int (1 : Int32)), .unset, .unset, .unset, .unset, .unset, .unset] [(.int x0)])) (own_baload X hx hZ eT V (g := (mkF m 2 #[.val (.ref a), .val (.int (1 : Int32)), .unset, .unset, .unset, .unset, .unset, .unset] [(.int (1 : Int32)), (.ref a)])) rfl rfl (hb hby d1_2) (by decide) (Nat.le_of_ble_eq_true rfl) (w := x0) rfl) ?_
  refine own_st (T' := T) (F' := (mkF m 6 #[.val (.ref a), .val (.int (1 : Int32)), .unset, .unset, .unset, .unset, .unset, .unset] [(.int (255 : Int32)), (.int x0)])) (fun _ kq => XS.sipush X.here hx rfl (hb hby d1_3) kq) ?_
  refine own_st (T' := T) (F' := (mkF m 7 #[.val (.ref a), .val (.int (1 : Int32)), .unset, .unset, .unset, .unset, .unset, .unset] [(.int (x0 &&& (255 : Int32)))])) (fun _ kq => XS.iand X.here hx rfl (hb hby d1_6) rfl kq) ?_
  refine own_st (T' := T) (F' := (mkF m 8 #[.val (.ref a), .val (.int (1 : Int32)), .val (.int (x0 &&& (255 : Int32))), .unset, .unset, .unset, .unset, .unset] [])) (fun _ kq => XS.istoreN X.here hx rfl (hb hby d1_7) rfl (l' := #[.val (.ref a), .val (.int (1 : Int32)), .val (.int (x0 &&& (255 : Int32))), .unset, .unset, .unset, .unset, .unset]) rfl kq) ?_
  refine own_st (T' := T) (F' := (mkF m 9 #[.val (.ref a), .val (.int (1 : Int32)), .val (.int (x0 &&& (255 : Int32))), .unset, .unset, .unset, .unset, .unset] [(.int (x0 &&& (255 : Int32)))])) (fun _ kq => XS.iloadN X.here hx rfl (hb hby d1_8) rfl kq) ?_
  refine own_st (T' := T) (F' := (mkF m 12 #[.val (.ref a), .val (.int (1 : Int32)), .val (.int (x0 &&& (255 : Int32))), .unset, .unset, .unset, .unset, .unset] [(.int (128 : Int32)), (.int (x0 &&& (255 : Int32)))])) (fun _ kq => XS.sipush X.here hx rfl (hb hby d1_9) kq) ?_
  by_cases hc12_92 : (x0 &&& (255 : Int32)) < (128 : Int32)
  ·
    rw [if_pos hc12_92]
    refine own_st (T' := T) (F' := (mkF m 15 #[.val (.ref a), .val (.int (1 : Int32)), .val (.int (x0 &&& (255 : Int32))), .unset, .unset, .unset, .unset, .unset] [])) (fun _ kq => XS.icmpNo X.here hx rfl (hb hby d1_12) rfl (tlt hc12_92).2.1 kq) ?_
    refine own_st (T' := T) (F' := (mkF m 16 #[.val (.ref a), .val (.int (1 : Int32)), .val (.int (x0 &&& (255 : Int32))), .unset, .unset, .unset, .unset, .unset] [(.int (1 : Int32))])) (fun _ kq => XS.iconst X.here hx rfl (hb hby d1_15) kq) ?_
    exact own_retI X hx hlk hret (hb hby d1_16) (by decide) (by decide) (own_PQi rfl N eT)
  ·
    rw [if_neg hc12_92]
    refine own_st (T' := T) (F' := (mkF m 17 #[.val (.ref a), .val (.int (1 : Int32)), .val (.int (x0 &&& (255 : Int32))), .unset, .unset, .unset, .unset, .unset] [])) (fun _ kq => XS.icmpYes X.here hx rfl (pc0 := 12) (pc' := 17) rfl (hb hby d1_12) rfl (flt hc12_92).2.1 (by decide) (by decide) kq) ?_
    refine own_st (T' := T) (F' := (mkF m 20 #[.val (.ref a), .val (.int (1 : Int32)), .val (.int (x0 &&& (255 : Int32))), .unset, .unset, .unset, .unset, .unset] [(.int (128 : Int32))])) (fun _ kq => XS.sipush X.here hx rfl (hb hby d1_17) kq) ?_
    refine own_st (T' := T) (F' := (mkF m 22 #[.val (.ref a), .val (.int (1 : Int32)), .val (.int (x0 &&& (255 : Int32))), .unset, .val (.int (128 : Int32)), .unset, .unset, .unset] [])) (fun _ kq => XS.istore X.here hx rfl (hb hby d1_20) rfl (l' := #[.val (.ref a), .val (.int (1 : Int32)), .val (.int (x0 &&& (255 : Int32))), .unset, .val (.int (128 : Int32)), .unset, .unset, .unset]) rfl kq) ?_
    refine own_st (T' := T) (F' := (mkF m 25 #[.val (.ref a), .val (.int (1 : Int32)), .val (.int (x0 &&& (255 : Int32))), .unset, .val (.int (128 : Int32)), .unset, .unset, .unset] [(.int (191 : Int32))])) (fun _ kq => XS.sipush X.here hx rfl (hb hby d1_22) kq) ?_
    refine own_st (T' := T) (F' := (mkF m 27 #[.val (.ref a), .val (.int (1 : Int32)), .val (.int (x0 &&& (255 : Int32))), .unset, .val (.int (128 : Int32)), .val (.int (191 : Int32)), .unset, .unset] [])) (fun _ kq => XS.istore X.here hx rfl (hb hby d1_25) rfl (l' := #[.val (.ref a), .val (.int (1 : Int32)), .val (.int (x0 &&& (255 : Int32))), .unset, .val (.int (128 : Int32)), .val (.int (191 : Int32)), .unset, .unset]) rfl kq) ?_
    refine own_st (T' := T) (F' := (mkF m 28 #[.val (.ref a), .val (.int (1 : Int32)), .val (.int (x0 &&& (255 : Int32))), .unset, .val (.int (128 : Int32)), .val (.int (191 : Int32)), .unset, .unset] [(.int (x0 &&& (255 : Int32)))])) (fun _ kq => XS.iloadN X.here hx rfl (hb hby d1_27) rfl kq) ?_
    refine own_st (T' := T) (F' := (mkF m 31 #[.val (.ref a), .val (.int (1 : Int32)), .val (.int (x0 &&& (255 : Int32))), .unset, .val (.int (128 : Int32)), .val (.int (191 : Int32)), .unset, .unset] [(.int (194 : Int32)), (.int (x0 &&& (255 : Int32)))])) (fun _ kq => XS.sipush X.here hx rfl (hb hby d1_28) kq) ?_
    by_cases hc31_93 : (x0 &&& (255 : Int32)) < (194 : Int32)
    ·
      rw [if_pos hc31_93]
      refine own_st (T' := T) (F' := (mkF m 46 #[.val (.ref a), .val (.int (1 : Int32)), .val (.int (x0 &&& (255 : Int32))), .unset, .val (.int (128 : Int32)), .val (.int (191 : Int32)), .unset, .unset] [])) (fun _ kq => XS.icmpYes X.here hx rfl (pc0 := 31) (pc' := 46) rfl (hb hby d1_31) rfl (tlt hc31_93).1 (by decide) (by decide) kq) ?_
      exact J46  T _ X eT N
    ·
      rw [if_neg hc31_93]
      refine own_st (T' := T) (F' := (mkF m 34 #[.val (.ref a), .val (.int (1 : Int32)), .val (.int (x0 &&& (255 : Int32))), .unset, .val (.int (128 : Int32)), .val (.int (191 : Int32)), .unset, .unset] [])) (fun _ kq => XS.icmpNo X.here hx rfl (hb hby d1_31) rfl (flt hc31_93).1 kq) ?_
      refine own_st (T' := T) (F' := (mkF m 35 #[.val (.ref a), .val (.int (1 : Int32)), .val (.int (x0 &&& (255 : Int32))), .unset, .val (.int (128 : Int32)), .val (.int (191 : Int32)), .unset, .unset] [(.int (x0 &&& (255 : Int32)))])) (fun _ kq => XS.iloadN X.here hx rfl (hb hby d1_34) rfl kq) ?_
      refine own_st (T' := T) (F' := (mkF m 38 #[.val (.ref a), .val (.int (1 : Int32)), .val (.int (x0 &&& (255 : Int32))), .unset, .val (.int (128 : Int32)), .val (.int (191 : Int32)), .unset, .unset] [(.int (223 : Int32)), (.int (x0 &&& (255 : Int32)))])) (fun _ kq => XS.sipush X.here hx rfl (hb hby d1_35) kq) ?_
      by_cases hc38_94 : (223 : Int32) < (x0 &&& (255 : Int32))
      ·
        rw [if_pos hc38_94]
        refine own_st (T' := T) (F' := (mkF m 46 #[.val (.ref a), .val (.int (1 : Int32)), .val (.int (x0 &&& (255 : Int32))), .unset, .val (.int (128 : Int32)), .val (.int (191 : Int32)), .unset, .unset] [])) (fun _ kq => XS.icmpYes X.here hx rfl (pc0 := 38) (pc' := 46) rfl (hb hby d1_38) rfl (tlt hc38_94).2.2.1 (by decide) (by decide) kq) ?_
        exact J46  T _ X eT N
      ·
        rw [if_neg hc38_94]
        refine own_st (T' := T) (F' := (mkF m 41 #[.val (.ref a), .val (.int (1 : Int32)), .val (.int (x0 &&& (255 : Int32))), .unset, .val (.int (128 : Int32)), .val (.int (191 : Int32)), .unset, .unset] [])) (fun _ kq => XS.icmpNo X.here hx rfl (hb hby d1_38) rfl (flt hc38_94).2.2.1 kq) ?_
        refine own_st (T' := T) (F' := (mkF m 42 #[.val (.ref a), .val (.int (1 : Int32)), .val (.int (x0 &&& (255 : Int32))), .unset, .val (.int (128 : Int32)), .val (.int (191 : Int32)), .unset, .unset] [(.int (2 : Int32))])) (fun _ kq => XS.iconst X.here hx rfl (hb hby d1_41) kq) ?_
        refine own_st (T' := T) (F' := (mkF m 43 #[.val (.ref a), .val (.int (1 : Int32)), .val (.int (x0 &&& (255 : Int32))), .val (.int (2 : Int32)), .val (.int (128 : Int32)), .val (.int (191 : Int32)), .unset, .unset] [])) (fun _ kq => XS.istoreN X.here hx rfl (hb hby d1_42) rfl (l' := #[.val (.ref a), .val (.int (1 : Int32)), .val (.int (x0 &&& (255 : Int32))), .val (.int (2 : Int32)), .val (.int (128 : Int32)), .val (.int (191 : Int32)), .unset, .unset]) rfl kq) ?_
        refine own_st (T' := T) (F' := (mkF m 140 #[.val (.ref a), .val (.int (1 : Int32)), .val (.int (x0 &&& (255 : Int32))), .val (.int (2 : Int32)), .val (.int (128 : Int32)), .val (.int (191 : Int32)), .unset, .unset] [])) (fun _ kq => XS.goto X.here hx rfl (pc0 := 43) (pc' := 140) rfl (hb hby d1_43) (by decide) (by decide) kq) ?_
        exact J140k2  T _ X eT N
set_option maxRecDepth 65536 in
set_option maxHeartbeats 40000000 in
theorem rm1_1_2 (l : Launch) (Z : State) (a0 : Array Value) (hw : ∀ d ∈ tables_1, d.before a0 Z = true) (ws : List Jvm.Cond) (a : Addr) (w : Int32) (x0 : Int32) (x1 : Int32) (h0 : Heap) (n0 : Nat) (V : own_AI Z h0 a .byte (3 : Int32) [w, x0, x1]) :
    own_Met l Z (⟨"com/example/ogma/ogma/canon/Utf8", "sequenceLength", "([BI)I"⟩ : MethodName) prog_73_method_7_code 8 (some .int) ws ({ frames := 0, cells := 0, slots := 0, locals := 0 } : Room) #[(.ref a), (.int (1 : Int32))] h0 (own_PQ (.int (sl2 x0 x1)) h0 n0) := by
  refine own_body (plainFor_of_name pn1) ?_
  intro p e s m below meth c T X hx hby hml hret hlk hZ hown hnm eT
  have J140k4 : ∀ (y140k4_4 : Int32) (y140k4_5 : Int32) (T : State) (locs : List Loc) (X : Stand p l e ({ frames := 0, cells := 0, slots := 0, locals := 0 } : Room) s m #[(.ref a), (.int (1 : Int32))] below meth c T locs 0 0) (eT : T.heap = h0) (N : Fr n0 locs), own_Ends p e below s 0 0 (own_PQ (.int (sl2_140k4 y140k4_4 y140k4_5)) h0 n0) T (mkF m 140 #[.val (.ref a), .val (.int (1 : Int32)), .val (.int (x0 &&& (255 : Int32))), .val (.int (4 : Int32)), .val (.int y140k4_4), .val (.int y140k4_5), .unset, .unset] []) := by
    intro y140k4_4 y140k4_5 T locs X eT N
    unfold sl2_140k4
    refine own_st (T' := T) (F' := (mkF m 141 #[.val (.ref a), .val (.int (1 : Int32)), .val (.int (x0 &&& (255 : Int32))), .val (.int (4 : Int32)), .val (.int y140k4_4), .val (.int y140k4_5), .unset, .unset] [(.ref a)])) (fun _ kq => XS.aloadN X.here hx rfl (hb hby d1_140) rfl rfl kq) ?_
    refine own_st (T' := T) (F' := (mkF m 142 #[.val (.ref a), .val (.int (1 : Int32)), .val (.int (x0 &&& (255 : Int32))), .val (.int (4 : Int32)), .val (.int y140k4_4), .val (.int y140k4_5), .unset, .unset] [(.int (3 : Int32))])) (own_lenI X hx hZ eT V (g := (mkF m 141 #[.val (.ref a), .val (.int (1 : Int32)), .val (.int (x0 &&& (255 : Int32))), .val (.int (4 : Int32)), .val (.int y140k4_4), .val (.int y140k4_5), .unset, .unset] [(.ref a)])) rfl rfl (hb hby d1_141)) ?_
    refine own_st (T' := T) (F' := (mkF m 143 #[.val (.ref a), .val (.int (1 : Int32)), .val (.int (x0 &&& (255 : Int32))), .val (.int (4 : Int32)), .val (.int y140k4_4), .val (.int y140k4_5), .unset, .unset] [(.int (1 : Int32)), (.int (3 : Int32))])) (fun _ kq => XS.iloadN X.here hx rfl (hb hby d1_142) rfl kq) ?_
    refine own_st (T' := T) (F' := (mkF m 144 #[.val (.ref a), .val (.int (1 : Int32)), .val (.int (x0 &&& (255 : Int32))), .val (.int (4 : Int32)), .val (.int y140k4_4), .val (.int y140k4_5), .unset, .unset] [(.int (2 : Int32))])) (fun _ kq => XS.isub X.here hx rfl (hb hby d1_143) rfl kq) ?_
    refine own_st (T' := T) (F' := (mkF m 145 #[.val (.ref a), .val (.int (1 : Int32)), .val (.int (x0 &&& (255 : Int32))), .val (.int (4 : Int32)), .val (.int y140k4_4), .val (.int y140k4_5), .unset, .unset] [(.int (4 : Int32)), (.int (2 : Int32))])) (fun _ kq => XS.iloadN X.here hx rfl (hb hby d1_144) rfl kq) ?_
    refine own_st (T' := T) (F' := (mkF m 148 #[.val (.ref a), .val (.int (1 : Int32)), .val (.int (x0 &&& (255 : Int32))), .val (.int (4 : Int32)), .val (.int y140k4_4), .val (.int y140k4_5), .unset, .unset] [])) (fun _ kq => XS.icmpNo X.here hx rfl (hb hby d1_145) rfl (tlt (by decide : (2 : Int32) < (4 : Int32))).2.1 kq) ?_
    refine own_st (T' := T) (F' := (mkF m 149 #[.val (.ref a), .val (.int (1 : Int32)), .val (.int (x0 &&& (255 : Int32))), .val (.int (4 : Int32)), .val (.int y140k4_4), .val (.int y140k4_5), .unset, .unset] [(.int (0 : Int32))])) (fun _ kq => XS.iconst X.here hx rfl (hb hby d1_148) kq) ?_
    exact own_retI X hx hlk hret (hb hby d1_149) (by decide) (by decide) (own_PQi rfl N eT)
  have J140k3 : ∀ (y140k3_4 : Int32) (y140k3_5 : Int32) (T : State) (locs : List Loc) (X : Stand p l e ({ frames := 0, cells := 0, slots := 0, locals := 0 } : Room) s m #[(.ref a), (.int (1 : Int32))] below meth c T locs 0 0) (eT : T.heap = h0) (N : Fr n0 locs), own_Ends p e below s 0 0 (own_PQ (.int (sl2_140k3 y140k3_4 y140k3_5)) h0 n0) T (mkF m 140 #[.val (.ref a), .val (.int (1 : Int32)), .val (.int (x0 &&& (255 : Int32))), .val (.int (3 : Int32)), .val (.int y140k3_4), .val (.int y140k3_5), .unset, .unset] []) := by
    intro y140k3_4 y140k3_5 T locs X eT N
    unfold sl2_140k3
    refine own_st (T' := T) (F' := (mkF m 141 #[.val (.ref a), .val (.int (1 : Int32)), .val (.int (x0 &&& (255 : Int32))), .val (.int (3 : Int32)), .val (.int y140k3_4), .val (.int y140k3_5), .unset, .unset] [(.ref a)])) (fun _ kq => XS.aloadN X.here hx rfl (hb hby d1_140) rfl rfl kq) ?_
    refine own_st (T' := T) (F' := (mkF m 142 #[.val (.ref a), .val (.int (1 : Int32)), .val (.int (x0 &&& (255 : Int32))), .val (.int (3 : Int32)), .val (.int y140k3_4), .val (.int y140k3_5), .unset, .unset] [(.int (3 : Int32))])) (own_lenI X hx hZ eT V (g := (mkF m 141 #[.val (.ref a), .val (.int (1 : Int32)), .val (.int (x0 &&& (255 : Int32))), .val (.int (3 : Int32)), .val (.int y140k3_4), .val (.int y140k3_5), .unset, .unset] [(.ref a)])) rfl rfl (hb hby d1_141)) ?_
    refine own_st (T' := T) (F' := (mkF m 143 #[.val (.ref a), .val (.int (1 : Int32)), .val (.int (x0 &&& (255 : Int32))), .val (.int (3 : Int32)), .val (.int y140k3_4), .val (.int y140k3_5), .unset, .unset] [(.int (1 : Int32)), (.int (3 : Int32))])) (fun _ kq => XS.iloadN X.here hx rfl (hb hby d1_142) rfl kq) ?_
    refine own_st (T' := T) (F' := (mkF m 144 #[.val (.ref a), .val (.int (1 : Int32)), .val (.int (x0 &&& (255 : Int32))), .val (.int (3 : Int32)), .val (.int y140k3_4), .val (.int y140k3_5), .unset, .unset] [(.int (2 : Int32))])) (fun _ kq => XS.isub X.here hx rfl (hb hby d1_143) rfl kq) ?_
    refine own_st (T' := T) (F' := (mkF m 145 #[.val (.ref a), .val (.int (1 : Int32)), .val (.int (x0 &&& (255 : Int32))), .val (.int (3 : Int32)), .val (.int y140k3_4), .val (.int y140k3_5), .unset, .unset] [(.int (3 : Int32)), (.int (2 : Int32))])) (fun _ kq => XS.iloadN X.here hx rfl (hb hby d1_144) rfl kq) ?_
    refine own_st (T' := T) (F' := (mkF m 148 #[.val (.ref a), .val (.int (1 : Int32)), .val (.int (x0 &&& (255 : Int32))), .val (.int (3 : Int32)), .val (.int y140k3_4), .val (.int y140k3_5), .unset, .unset] [])) (fun _ kq => XS.icmpNo X.here hx rfl (hb hby d1_145) rfl (tlt (by decide : (2 : Int32) < (3 : Int32))).2.1 kq) ?_
    refine own_st (T' := T) (F' := (mkF m 149 #[.val (.ref a), .val (.int (1 : Int32)), .val (.int (x0 &&& (255 : Int32))), .val (.int (3 : Int32)), .val (.int y140k3_4), .val (.int y140k3_5), .unset, .unset] [(.int (0 : Int32))])) (fun _ kq => XS.iconst X.here hx rfl (hb hby d1_148) kq) ?_
    exact own_retI X hx hlk hret (hb hby d1_149) (by decide) (by decide) (own_PQi rfl N eT)
  have J140k2 : ∀ (T : State) (locs : List Loc) (X : Stand p l e ({ frames := 0, cells := 0, slots := 0, locals := 0 } : Room) s m #[(.ref a), (.int (1 : Int32))] below meth c T locs 0 0) (eT : T.heap = h0) (N : Fr n0 locs), own_Ends p e below s 0 0 (own_PQ (.int (sl2_140k2 x1)) h0 n0) T (mkF m 140 #[.val (.ref a), .val (.int (1 : Int32)), .val (.int (x0 &&& (255 : Int32))), .val (.int (2 : Int32)), .val (.int (128 : Int32)), .val (.int (191 : Int32)), .unset, .unset] []) := by
    intro T locs X eT N
    unfold sl2_140k2
    refine own_st (T' := T) (F' := (mkF m 141 #[.val (.ref a), .val (.int (1 : Int32)), .val (.int (x0 &&& (255 : Int32))), .val (.int (2 : Int32)), .val (.int (128 : Int32)), .val (.int (191 : Int32)), .unset, .unset] [(.ref a)])) (fun _ kq => XS.aloadN X.here hx rfl (hb hby d1_140) rfl rfl kq) ?_
    refine own_st (T' := T) (F' := (mkF m 142 #[.val (.ref a), .val (.int (1 : Int32)), .val (.int (x0 &&& (255 : Int32))), .val (.int (2 : Int32)), .val (.int (128 : Int32)), .val (.int (191 : Int32)), .unset, .unset] [(.int (3 : Int32))])) (own_lenI X hx hZ eT V (g := (mkF m 141 #[.val (.ref a), .val (.int (1 : Int32)), .val (.int (x0 &&& (255 : Int32))), .val (.int (2 : Int32)), .val (.int (128 : Int32)), .val (.int (191 : Int32)), .unset, .unset] [(.ref a)])) rfl rfl (hb hby d1_141)) ?_
    refine own_st (T' := T) (F' := (mkF m 143 #[.val (.ref a), .val (.int (1 : Int32)), .val (.int (x0 &&& (255 : Int32))), .val (.int (2 : Int32)), .val (.int (128 : Int32)), .val (.int (191 : Int32)), .unset, .unset] [(.int (1 : Int32)), (.int (3 : Int32))])) (fun _ kq => XS.iloadN X.here hx rfl (hb hby d1_142) rfl kq) ?_
    refine own_st (T' := T) (F' := (mkF m 144 #[.val (.ref a), .val (.int (1 : Int32)), .val (.int (x0 &&& (255 : Int32))), .val (.int (2 : Int32)), .val (.int (128 : Int32)), .val (.int (191 : Int32)), .unset, .unset] [(.int (2 : Int32))])) (fun _ kq => XS.isub X.here hx rfl (hb hby d1_143) rfl kq) ?_
    refine own_st (T' := T) (F' := (mkF m 145 #[.val (.ref a), .val (.int (1 : Int32)), .val (.int (x0 &&& (255 : Int32))), .val (.int (2 : Int32)), .val (.int (128 : Int32)), .val (.int (191 : Int32)), .unset, .unset] [(.int (2 : Int32)), (.int (2 : Int32))])) (fun _ kq => XS.iloadN X.here hx rfl (hb hby d1_144) rfl kq) ?_
    refine own_st (T' := T) (F' := (mkF m 150 #[.val (.ref a), .val (.int (1 : Int32)), .val (.int (x0 &&& (255 : Int32))), .val (.int (2 : Int32)), .val (.int (128 : Int32)), .val (.int (191 : Int32)), .unset, .unset] [])) (fun _ kq => XS.icmpYes X.here hx rfl (pc0 := 145) (pc' := 150) rfl (hb hby d1_145) rfl (flt (by decide : ¬ ((2 : Int32) < (2 : Int32)))).2.1 (by decide) (by decide) kq) ?_
    refine own_st (T' := T) (F' := (mkF m 151 #[.val (.ref a), .val (.int (1 : Int32)), .val (.int (x0 &&& (255 : Int32))), .val (.int (2 : Int32)), .val (.int (128 : Int32)), .val (.int (191 : Int32)), .unset, .unset] [(.ref a)])) (fun _ kq => XS.aloadN X.here hx rfl (hb hby d1_150) rfl rfl kq) ?_
    refine own_st (T' := T) (F' := (mkF m 152 #[.val (.ref a), .val (.int (1 : Int32)), .val (.int (x0 &&& (255 : Int32))), .val (.int (2 : Int32)), .val (.int (128 : Int32)), .val (.int (191 : Int32)), .unset, .unset] [(.int (1 : Int32)), (.ref a)])) (fun _ kq => XS.iloadN X.here hx rfl (hb hby d1_151) rfl kq) ?_
    refine own_st (T' := T) (F' := (mkF m 153 #[.val (.ref a), .val (.int (1 : Int32)), .val (.int (x0 &&& (255 : Int32))), .val (.int (2 : Int32)), .val (.int (128 : Int32)), .val (.int (191 : Int32)), .unset, .unset] [(.int (1 : Int32)), (.int (1 : Int32)), (.ref a)])) (fun _ kq => XS.iconst X.here hx rfl (hb hby d1_152) kq) ?_
    refine own_st (T' := T) (F' := (mkF m 154 #[.val (.ref a), .val (.int (1 : Int32)), .val (.int (x0 &&& (255 : Int32))), .val (.int (2 : Int32)), .val (.int (128 : Int32)), .val (.int (191 : Int32)), .unset, .unset] [(.int (2 : Int32)), (.ref a)])) (fun _ kq => XS.iadd X.here hx rfl (hb hby d1_153) rfl kq) ?_
    refine own_st (T' := T) (F' := (mkF m 155 #[.val (.ref a), .val (.int (1 : Int32)), .val (.int (x0 &&& (255 : Int32))), .val (.int (2 : Int32)), .val (.int (128 : Int32)), .val (.int (191 : Int32)), .unset, .unset] [(.int x1)])) (own_baload X hx hZ eT V (g := (mkF m 154 #[.val (.ref a), .val (.int (1 : Int32)), .val (.int (x0 &&& (255 : Int32))), .val (.int (2 : Int32)), .val (.int (128 : Int32)), .val (.int (191 : Int32)), .unset, .unset] [(.int (2 : Int32)), (.ref a)])) rfl rfl (hb hby d1_154) (by decide) (Nat.le_of_ble_eq_true rfl) (w := x1) rfl) ?_
    refine own_st (T' := T) (F' := (mkF m 158 #[.val (.ref a), .val (.int (1 : Int32)), .val (.int (x0 &&& (255 : Int32))), .val (.int (2 : Int32)), .val (.int (128 : Int32)), .val (.int (191 : Int32)), .unset, .unset] [(.int (255 : Int32)), (.int x1)])) (fun _ kq => XS.sipush X.here hx rfl (hb hby d1_155) kq) ?_
    refine own_st (T' := T) (F' := (mkF m 159 #[.val (.ref a), .val (.int (1 : Int32)), .val (.int (x0 &&& (255 : Int32))), .val (.int (2 : Int32)), .val (.int (128 : Int32)), .val (.int (191 : Int32)), .unset, .unset] [(.int (x1 &&& (255 : Int32)))])) (fun _ kq => XS.iand X.here hx rfl (hb hby d1_158) rfl kq) ?_
    refine own_st (T' := T) (F' := (mkF m 161 #[.val (.ref a), .val (.int (1 : Int32)), .val (.int (x0 &&& (255 : Int32))), .val (.int (2 : Int32)), .val (.int (128 : Int32)), .val (.int (191 : Int32)), .val (.int (x1 &&& (255 : Int32))), .unset] [])) (fun _ kq => XS.istore X.here hx rfl (hb hby d1_159) rfl (l' := #[.val (.ref a), .val (.int (1 : Int32)), .val (.int (x0 &&& (255 : Int32))), .val (.int (2 : Int32)), .val (.int (128 : Int32)), .val (.int (191 : Int32)), .val (.int (x1 &&& (255 : Int32))), .unset]) rfl kq) ?_
    refine own_st (T' := T) (F' := (mkF m 163 #[.val (.ref a), .val (.int (1 : Int32)), .val (.int (x0 &&& (255 : Int32))), .val (.int (2 : Int32)), .val (.int (128 : Int32)), .val (.int (191 : Int32)), .val (.int (x1 &&& (255 : Int32))), .unset] [(.int (x1 &&& (255 : Int32)))])) (fun _ kq => XS.iload X.here hx rfl (hb hby d1_161) rfl kq) ?_
    refine own_st (T' := T) (F' := (mkF m 165 #[.val (.ref a), .val (.int (1 : Int32)), .val (.int (x0 &&& (255 : Int32))), .val (.int (2 : Int32)), .val (.int (128 : Int32)), .val (.int (191 : Int32)), .val (.int (x1 &&& (255 : Int32))), .unset] [(.int (128 : Int32)), (.int (x1 &&& (255 : Int32)))])) (fun _ kq => XS.iload X.here hx rfl (hb hby d1_163) rfl kq) ?_
    by_cases hc165_95 : (x1 &&& (255 : Int32)) < (128 : Int32)
    ·
      rw [if_pos hc165_95]
      refine own_st (T' := T) (F' := (mkF m 175 #[.val (.ref a), .val (.int (1 : Int32)), .val (.int (x0 &&& (255 : Int32))), .val (.int (2 : Int32)), .val (.int (128 : Int32)), .val (.int (191 : Int32)), .val (.int (x1 &&& (255 : Int32))), .unset] [])) (fun _ kq => XS.icmpYes X.here hx rfl (pc0 := 165) (pc' := 175) rfl (hb hby d1_165) rfl (tlt hc165_95).1 (by decide) (by decide) kq) ?_
      refine own_st (T' := T) (F' := (mkF m 176 #[.val (.ref a), .val (.int (1 : Int32)), .val (.int (x0 &&& (255 : Int32))), .val (.int (2 : Int32)), .val (.int (128 : Int32)), .val (.int (191 : Int32)), .val (.int (x1 &&& (255 : Int32))), .unset] [(.int (0 : Int32))])) (fun _ kq => XS.iconst X.here hx rfl (hb hby d1_175) kq) ?_
      exact own_retI X hx hlk hret (hb hby d1_176) (by decide) (by decide) (own_PQi rfl N eT)
    ·
      rw [if_neg hc165_95]
      refine own_st (T' := T) (F' := (mkF m 168 #[.val (.ref a), .val (.int (1 : Int32)), .val (.int (x0 &&& (255 : Int32))), .val (.int (2 : Int32)), .val (.int (128 : Int32)), .val (.int (191 : Int32)), .val (.int (x1 &&& (255 : Int32))), .unset] [])) (fun _ kq => XS.icmpNo X.here hx rfl (hb hby d1_165) rfl (flt hc165_95).1 kq) ?_
      refine own_st (T' := T) (F' := (mkF m 170 #[.val (.ref a), .val (.int (1 : Int32)), .val (.int (x0 &&& (255 : Int32))), .val (.int (2 : Int32)), .val (.int (128 : Int32)), .val (.int (191 : Int32)), .val (.int (x1 &&& (255 : Int32))), .unset] [(.int (x1 &&& (255 : Int32)))])) (fun _ kq => XS.iload X.here hx rfl (hb hby d1_168) rfl kq) ?_
      refine own_st (T' := T) (F' := (mkF m 172 #[.val (.ref a), .val (.int (1 : Int32)), .val (.int (x0 &&& (255 : Int32))), .val (.int (2 : Int32)), .val (.int (128 : Int32)), .val (.int (191 : Int32)), .val (.int (x1 &&& (255 : Int32))), .unset] [(.int (191 : Int32)), (.int (x1 &&& (255 : Int32)))])) (fun _ kq => XS.iload X.here hx rfl (hb hby d1_170) rfl kq) ?_
      by_cases hc172_96 : (191 : Int32) < (x1 &&& (255 : Int32))
      ·
        rw [if_pos hc172_96]
        refine own_st (T' := T) (F' := (mkF m 175 #[.val (.ref a), .val (.int (1 : Int32)), .val (.int (x0 &&& (255 : Int32))), .val (.int (2 : Int32)), .val (.int (128 : Int32)), .val (.int (191 : Int32)), .val (.int (x1 &&& (255 : Int32))), .unset] [])) (fun _ kq => XS.icmpNo X.here hx rfl (hb hby d1_172) rfl (tlt hc172_96).2.2.2 kq) ?_
        refine own_st (T' := T) (F' := (mkF m 176 #[.val (.ref a), .val (.int (1 : Int32)), .val (.int (x0 &&& (255 : Int32))), .val (.int (2 : Int32)), .val (.int (128 : Int32)), .val (.int (191 : Int32)), .val (.int (x1 &&& (255 : Int32))), .unset] [(.int (0 : Int32))])) (fun _ kq => XS.iconst X.here hx rfl (hb hby d1_175) kq) ?_
        exact own_retI X hx hlk hret (hb hby d1_176) (by decide) (by decide) (own_PQi rfl N eT)
      ·
        rw [if_neg hc172_96]
        refine own_st (T' := T) (F' := (mkF m 177 #[.val (.ref a), .val (.int (1 : Int32)), .val (.int (x0 &&& (255 : Int32))), .val (.int (2 : Int32)), .val (.int (128 : Int32)), .val (.int (191 : Int32)), .val (.int (x1 &&& (255 : Int32))), .unset] [])) (fun _ kq => XS.icmpYes X.here hx rfl (pc0 := 172) (pc' := 177) rfl (hb hby d1_172) rfl (flt hc172_96).2.2.2 (by decide) (by decide) kq) ?_
        refine own_st (T' := T) (F' := (mkF m 178 #[.val (.ref a), .val (.int (1 : Int32)), .val (.int (x0 &&& (255 : Int32))), .val (.int (2 : Int32)), .val (.int (128 : Int32)), .val (.int (191 : Int32)), .val (.int (x1 &&& (255 : Int32))), .unset] [(.int (2 : Int32))])) (fun _ kq => XS.iconst X.here hx rfl (hb hby d1_177) kq) ?_
        refine own_st (T' := T) (F' := (mkF m 180 #[.val (.ref a), .val (.int (1 : Int32)), .val (.int (x0 &&& (255 : Int32))), .val (.int (2 : Int32)), .val (.int (128 : Int32)), .val (.int (191 : Int32)), .val (.int (x1 &&& (255 : Int32))), .val (.int (2 : Int32))] [])) (fun _ kq => XS.istore X.here hx rfl (hb hby d1_178) rfl (l' := #[.val (.ref a), .val (.int (1 : Int32)), .val (.int (x0 &&& (255 : Int32))), .val (.int (2 : Int32)), .val (.int (128 : Int32)), .val (.int (191 : Int32)), .val (.int (x1 &&& (255 : Int32))), .val (.int (2 : Int32))]) rfl kq) ?_
        refine own_st (T' := T) (F' := (mkF m 182 #[.val (.ref a), .val (.int (1 : Int32)), .val (.int (x0 &&& (255 : Int32))), .val (.int (2 : Int32)), .val (.int (128 : Int32)), .val (.int (191 : Int32)), .val (.int (x1 &&& (255 : Int32))), .val (.int (2 : Int32))] [(.int (2 : Int32))])) (fun _ kq => XS.iload X.here hx rfl (hb hby d1_180) rfl kq) ?_
        refine own_st (T' := T) (F' := (mkF m 183 #[.val (.ref a), .val (.int (1 : Int32)), .val (.int (x0 &&& (255 : Int32))), .val (.int (2 : Int32)), .val (.int (128 : Int32)), .val (.int (191 : Int32)), .val (.int (x1 &&& (255 : Int32))), .val (.int (2 : Int32))] [(.int (2 : Int32)), (.int (2 : Int32))])) (fun _ kq => XS.iloadN X.here hx rfl (hb hby d1_182) rfl kq) ?_
        refine own_st (T' := T) (F' := (mkF m 210 #[.val (.ref a), .val (.int (1 : Int32)), .val (.int (x0 &&& (255 : Int32))), .val (.int (2 : Int32)), .val (.int (128 : Int32)), .val (.int (191 : Int32)), .val (.int (x1 &&& (255 : Int32))), .val (.int (2 : Int32))] [])) (fun _ kq => XS.icmpYes X.here hx rfl (pc0 := 183) (pc' := 210) rfl (hb hby d1_183) rfl (flt (by decide : ¬ ((2 : Int32) < (2 : Int32)))).2.1 (by decide) (by decide) kq) ?_
        refine own_st (T' := T) (F' := (mkF m 211 #[.val (.ref a), .val (.int (1 : Int32)), .val (.int (x0 &&& (255 : Int32))), .val (.int (2 : Int32)), .val (.int (128 : Int32)), .val (.int (191 : Int32)), .val (.int (x1 &&& (255 : Int32))), .val (.int (2 : Int32))] [(.int (2 : Int32))])) (fun _ kq => XS.iloadN X.here hx rfl (hb hby d1_210) rfl kq) ?_
        exact own_retI X hx hlk hret (hb hby d1_211) (by decide) (by decide) (own_PQi rfl N eT)
  have J92 : ∀ (T : State) (locs : List Loc) (X : Stand p l e ({ frames := 0, cells := 0, slots := 0, locals := 0 } : Room) s m #[(.ref a), (.int (1 : Int32))] below meth c T locs 0 0) (eT : T.heap = h0) (N : Fr n0 locs), own_Ends p e below s 0 0 (own_PQ (.int (sl2_92 x0)) h0 n0) T (mkF m 92 #[.val (.ref a), .val (.int (1 : Int32)), .val (.int (x0 &&& (255 : Int32))), .unset, .val (.int (128 : Int32)), .val (.int (191 : Int32)), .unset, .unset] []) := by
    intro T locs X eT N
    unfold sl2_92
    refine own_st (T' := T) (F' := (mkF m 93 #[.val (.ref a), .val (.int (1 : Int32)), .val (.int (x0 &&& (255 : Int32))), .unset, .val (.int (128 : Int32)), .val (.int (191 : Int32)), .unset, .unset] [(.int (x0 &&& (255 : Int32)))])) (fun _ kq => XS.iloadN X.here hx rfl (hb hby d1_92) rfl kq) ?_
    refine own_st (T' := T) (F' := (mkF m 96 #[.val (.ref a), .val (.int (1 : Int32)), .val (.int (x0 &&& (255 : Int32))), .unset, .val (.int (128 : Int32)), .val (.int (191 : Int32)), .unset, .unset] [(.int (240 : Int32)), (.int (x0 &&& (255 : Int32)))])) (fun _ kq => XS.sipush X.here hx rfl (hb hby d1_93) kq) ?_
    by_cases hc96_97 : (x0 &&& (255 : Int32)) < (240 : Int32)
    ·
      rw [if_pos hc96_97]
      refine own_st (T' := T) (F' := (mkF m 138 #[.val (.ref a), .val (.int (1 : Int32)), .val (.int (x0 &&& (255 : Int32))), .unset, .val (.int (128 : Int32)), .val (.int (191 : Int32)), .unset, .unset] [])) (fun _ kq => XS.icmpYes X.here hx rfl (pc0 := 96) (pc' := 138) rfl (hb hby d1_96) rfl (tlt hc96_97).1 (by decide) (by decide) kq) ?_
      refine own_st (T' := T) (F' := (mkF m 139 #[.val (.ref a), .val (.int (1 : Int32)), .val (.int (x0 &&& (255 : Int32))), .unset, .val (.int (128 : Int32)), .val (.int (191 : Int32)), .unset, .unset] [(.int (0 : Int32))])) (fun _ kq => XS.iconst X.here hx rfl (hb hby d1_138) kq) ?_
      exact own_retI X hx hlk hret (hb hby d1_139) (by decide) (by decide) (own_PQi rfl N eT)
    ·
      rw [if_neg hc96_97]
      refine own_st (T' := T) (F' := (mkF m 99 #[.val (.ref a), .val (.int (1 : Int32)), .val (.int (x0 &&& (255 : Int32))), .unset, .val (.int (128 : Int32)), .val (.int (191 : Int32)), .unset, .unset] [])) (fun _ kq => XS.icmpNo X.here hx rfl (hb hby d1_96) rfl (flt hc96_97).1 kq) ?_
      refine own_st (T' := T) (F' := (mkF m 100 #[.val (.ref a), .val (.int (1 : Int32)), .val (.int (x0 &&& (255 : Int32))), .unset, .val (.int (128 : Int32)), .val (.int (191 : Int32)), .unset, .unset] [(.int (x0 &&& (255 : Int32)))])) (fun _ kq => XS.iloadN X.here hx rfl (hb hby d1_99) rfl kq) ?_
      refine own_st (T' := T) (F' := (mkF m 103 #[.val (.ref a), .val (.int (1 : Int32)), .val (.int (x0 &&& (255 : Int32))), .unset, .val (.int (128 : Int32)), .val (.int (191 : Int32)), .unset, .unset] [(.int (244 : Int32)), (.int (x0 &&& (255 : Int32)))])) (fun _ kq => XS.sipush X.here hx rfl (hb hby d1_100) kq) ?_
      by_cases hc103_98 : (244 : Int32) < (x0 &&& (255 : Int32))
      ·
        rw [if_pos hc103_98]
        refine own_st (T' := T) (F' := (mkF m 138 #[.val (.ref a), .val (.int (1 : Int32)), .val (.int (x0 &&& (255 : Int32))), .unset, .val (.int (128 : Int32)), .val (.int (191 : Int32)), .unset, .unset] [])) (fun _ kq => XS.icmpYes X.here hx rfl (pc0 := 103) (pc' := 138) rfl (hb hby d1_103) rfl (tlt hc103_98).2.2.1 (by decide) (by decide) kq) ?_
        refine own_st (T' := T) (F' := (mkF m 139 #[.val (.ref a), .val (.int (1 : Int32)), .val (.int (x0 &&& (255 : Int32))), .unset, .val (.int (128 : Int32)), .val (.int (191 : Int32)), .unset, .unset] [(.int (0 : Int32))])) (fun _ kq => XS.iconst X.here hx rfl (hb hby d1_138) kq) ?_
        exact own_retI X hx hlk hret (hb hby d1_139) (by decide) (by decide) (own_PQi rfl N eT)
      ·
        rw [if_neg hc103_98]
        refine own_st (T' := T) (F' := (mkF m 106 #[.val (.ref a), .val (.int (1 : Int32)), .val (.int (x0 &&& (255 : Int32))), .unset, .val (.int (128 : Int32)), .val (.int (191 : Int32)), .unset, .unset] [])) (fun _ kq => XS.icmpNo X.here hx rfl (hb hby d1_103) rfl (flt hc103_98).2.2.1 kq) ?_
        refine own_st (T' := T) (F' := (mkF m 107 #[.val (.ref a), .val (.int (1 : Int32)), .val (.int (x0 &&& (255 : Int32))), .unset, .val (.int (128 : Int32)), .val (.int (191 : Int32)), .unset, .unset] [(.int (4 : Int32))])) (fun _ kq => XS.iconst X.here hx rfl (hb hby d1_106) kq) ?_
        refine own_st (T' := T) (F' := (mkF m 108 #[.val (.ref a), .val (.int (1 : Int32)), .val (.int (x0 &&& (255 : Int32))), .val (.int (4 : Int32)), .val (.int (128 : Int32)), .val (.int (191 : Int32)), .unset, .unset] [])) (fun _ kq => XS.istoreN X.here hx rfl (hb hby d1_107) rfl (l' := #[.val (.ref a), .val (.int (1 : Int32)), .val (.int (x0 &&& (255 : Int32))), .val (.int (4 : Int32)), .val (.int (128 : Int32)), .val (.int (191 : Int32)), .unset, .unset]) rfl kq) ?_
        refine own_st (T' := T) (F' := (mkF m 109 #[.val (.ref a), .val (.int (1 : Int32)), .val (.int (x0 &&& (255 : Int32))), .val (.int (4 : Int32)), .val (.int (128 : Int32)), .val (.int (191 : Int32)), .unset, .unset] [(.int (x0 &&& (255 : Int32)))])) (fun _ kq => XS.iloadN X.here hx rfl (hb hby d1_108) rfl kq) ?_
        refine own_st (T' := T) (F' := (mkF m 112 #[.val (.ref a), .val (.int (1 : Int32)), .val (.int (x0 &&& (255 : Int32))), .val (.int (4 : Int32)), .val (.int (128 : Int32)), .val (.int (191 : Int32)), .unset, .unset] [(.int (240 : Int32)), (.int (x0 &&& (255 : Int32)))])) (fun _ kq => XS.sipush X.here hx rfl (hb hby d1_109) kq) ?_
        by_cases hc112_99 : (x0 &&& (255 : Int32)) = (240 : Int32)
        ·
          rw [if_pos hc112_99]
          refine own_st (T' := T) (F' := (mkF m 115 #[.val (.ref a), .val (.int (1 : Int32)), .val (.int (x0 &&& (255 : Int32))), .val (.int (4 : Int32)), .val (.int (128 : Int32)), .val (.int (191 : Int32)), .unset, .unset] [])) (fun _ kq => XS.icmpNo X.here hx rfl (hb hby d1_112) rfl (teq hc112_99).2 kq) ?_
          refine own_st (T' := T) (F' := (mkF m 118 #[.val (.ref a), .val (.int (1 : Int32)), .val (.int (x0 &&& (255 : Int32))), .val (.int (4 : Int32)), .val (.int (128 : Int32)), .val (.int (191 : Int32)), .unset, .unset] [(.int (144 : Int32))])) (fun _ kq => XS.sipush X.here hx rfl (hb hby d1_115) kq) ?_
          refine own_st (T' := T) (F' := (mkF m 120 #[.val (.ref a), .val (.int (1 : Int32)), .val (.int (x0 &&& (255 : Int32))), .val (.int (4 : Int32)), .val (.int (144 : Int32)), .val (.int (191 : Int32)), .unset, .unset] [])) (fun _ kq => XS.istore X.here hx rfl (hb hby d1_118) rfl (l' := #[.val (.ref a), .val (.int (1 : Int32)), .val (.int (x0 &&& (255 : Int32))), .val (.int (4 : Int32)), .val (.int (144 : Int32)), .val (.int (191 : Int32)), .unset, .unset]) rfl kq) ?_
          refine own_st (T' := T) (F' := (mkF m 140 #[.val (.ref a), .val (.int (1 : Int32)), .val (.int (x0 &&& (255 : Int32))), .val (.int (4 : Int32)), .val (.int (144 : Int32)), .val (.int (191 : Int32)), .unset, .unset] [])) (fun _ kq => XS.goto X.here hx rfl (pc0 := 120) (pc' := 140) rfl (hb hby d1_120) (by decide) (by decide) kq) ?_
          exact J140k4 (144 : Int32) (191 : Int32) T _ X eT N
        ·
          rw [if_neg hc112_99]
          refine own_st (T' := T) (F' := (mkF m 123 #[.val (.ref a), .val (.int (1 : Int32)), .val (.int (x0 &&& (255 : Int32))), .val (.int (4 : Int32)), .val (.int (128 : Int32)), .val (.int (191 : Int32)), .unset, .unset] [])) (fun _ kq => XS.icmpYes X.here hx rfl (pc0 := 112) (pc' := 123) rfl (hb hby d1_112) rfl (feq hc112_99).2 (by decide) (by decide) kq) ?_
          refine own_st (T' := T) (F' := (mkF m 124 #[.val (.ref a), .val (.int (1 : Int32)), .val (.int (x0 &&& (255 : Int32))), .val (.int (4 : Int32)), .val (.int (128 : Int32)), .val (.int (191 : Int32)), .unset, .unset] [(.int (x0 &&& (255 : Int32)))])) (fun _ kq => XS.iloadN X.here hx rfl (hb hby d1_123) rfl kq) ?_
          refine own_st (T' := T) (F' := (mkF m 127 #[.val (.ref a), .val (.int (1 : Int32)), .val (.int (x0 &&& (255 : Int32))), .val (.int (4 : Int32)), .val (.int (128 : Int32)), .val (.int (191 : Int32)), .unset, .unset] [(.int (244 : Int32)), (.int (x0 &&& (255 : Int32)))])) (fun _ kq => XS.sipush X.here hx rfl (hb hby d1_124) kq) ?_
          by_cases hc127_100 : (x0 &&& (255 : Int32)) = (244 : Int32)
          ·
            rw [if_pos hc127_100]
            refine own_st (T' := T) (F' := (mkF m 130 #[.val (.ref a), .val (.int (1 : Int32)), .val (.int (x0 &&& (255 : Int32))), .val (.int (4 : Int32)), .val (.int (128 : Int32)), .val (.int (191 : Int32)), .unset, .unset] [])) (fun _ kq => XS.icmpNo X.here hx rfl (hb hby d1_127) rfl (teq hc127_100).2 kq) ?_
            refine own_st (T' := T) (F' := (mkF m 133 #[.val (.ref a), .val (.int (1 : Int32)), .val (.int (x0 &&& (255 : Int32))), .val (.int (4 : Int32)), .val (.int (128 : Int32)), .val (.int (191 : Int32)), .unset, .unset] [(.int (143 : Int32))])) (fun _ kq => XS.sipush X.here hx rfl (hb hby d1_130) kq) ?_
            refine own_st (T' := T) (F' := (mkF m 135 #[.val (.ref a), .val (.int (1 : Int32)), .val (.int (x0 &&& (255 : Int32))), .val (.int (4 : Int32)), .val (.int (128 : Int32)), .val (.int (143 : Int32)), .unset, .unset] [])) (fun _ kq => XS.istore X.here hx rfl (hb hby d1_133) rfl (l' := #[.val (.ref a), .val (.int (1 : Int32)), .val (.int (x0 &&& (255 : Int32))), .val (.int (4 : Int32)), .val (.int (128 : Int32)), .val (.int (143 : Int32)), .unset, .unset]) rfl kq) ?_
            refine own_st (T' := T) (F' := (mkF m 140 #[.val (.ref a), .val (.int (1 : Int32)), .val (.int (x0 &&& (255 : Int32))), .val (.int (4 : Int32)), .val (.int (128 : Int32)), .val (.int (143 : Int32)), .unset, .unset] [])) (fun _ kq => XS.goto X.here hx rfl (pc0 := 135) (pc' := 140) rfl (hb hby d1_135) (by decide) (by decide) kq) ?_
            exact J140k4 (128 : Int32) (143 : Int32) T _ X eT N
          ·
            rw [if_neg hc127_100]
            refine own_st (T' := T) (F' := (mkF m 140 #[.val (.ref a), .val (.int (1 : Int32)), .val (.int (x0 &&& (255 : Int32))), .val (.int (4 : Int32)), .val (.int (128 : Int32)), .val (.int (191 : Int32)), .unset, .unset] [])) (fun _ kq => XS.icmpYes X.here hx rfl (pc0 := 127) (pc' := 140) rfl (hb hby d1_127) rfl (feq hc127_100).2 (by decide) (by decide) kq) ?_
            exact J140k4 (128 : Int32) (191 : Int32) T _ X eT N
  have J46 : ∀ (T : State) (locs : List Loc) (X : Stand p l e ({ frames := 0, cells := 0, slots := 0, locals := 0 } : Room) s m #[(.ref a), (.int (1 : Int32))] below meth c T locs 0 0) (eT : T.heap = h0) (N : Fr n0 locs), own_Ends p e below s 0 0 (own_PQ (.int (sl2_46 x0)) h0 n0) T (mkF m 46 #[.val (.ref a), .val (.int (1 : Int32)), .val (.int (x0 &&& (255 : Int32))), .unset, .val (.int (128 : Int32)), .val (.int (191 : Int32)), .unset, .unset] []) := by
    intro T locs X eT N
    unfold sl2_46
    refine own_st (T' := T) (F' := (mkF m 47 #[.val (.ref a), .val (.int (1 : Int32)), .val (.int (x0 &&& (255 : Int32))), .unset, .val (.int (128 : Int32)), .val (.int (191 : Int32)), .unset, .unset] [(.int (x0 &&& (255 : Int32)))])) (fun _ kq => XS.iloadN X.here hx rfl (hb hby d1_46) rfl kq) ?_
    refine own_st (T' := T) (F' := (mkF m 50 #[.val (.ref a), .val (.int (1 : Int32)), .val (.int (x0 &&& (255 : Int32))), .unset, .val (.int (128 : Int32)), .val (.int (191 : Int32)), .unset, .unset] [(.int (224 : Int32)), (.int (x0 &&& (255 : Int32)))])) (fun _ kq => XS.sipush X.here hx rfl (hb hby d1_47) kq) ?_
    by_cases hc50_101 : (x0 &&& (255 : Int32)) < (224 : Int32)
    ·
      rw [if_pos hc50_101]
      refine own_st (T' := T) (F' := (mkF m 92 #[.val (.ref a), .val (.int (1 : Int32)), .val (.int (x0 &&& (255 : Int32))), .unset, .val (.int (128 : Int32)), .val (.int (191 : Int32)), .unset, .unset] [])) (fun _ kq => XS.icmpYes X.here hx rfl (pc0 := 50) (pc' := 92) rfl (hb hby d1_50) rfl (tlt hc50_101).1 (by decide) (by decide) kq) ?_
      exact J92  T _ X eT N
    ·
      rw [if_neg hc50_101]
      refine own_st (T' := T) (F' := (mkF m 53 #[.val (.ref a), .val (.int (1 : Int32)), .val (.int (x0 &&& (255 : Int32))), .unset, .val (.int (128 : Int32)), .val (.int (191 : Int32)), .unset, .unset] [])) (fun _ kq => XS.icmpNo X.here hx rfl (hb hby d1_50) rfl (flt hc50_101).1 kq) ?_
      refine own_st (T' := T) (F' := (mkF m 54 #[.val (.ref a), .val (.int (1 : Int32)), .val (.int (x0 &&& (255 : Int32))), .unset, .val (.int (128 : Int32)), .val (.int (191 : Int32)), .unset, .unset] [(.int (x0 &&& (255 : Int32)))])) (fun _ kq => XS.iloadN X.here hx rfl (hb hby d1_53) rfl kq) ?_
      refine own_st (T' := T) (F' := (mkF m 57 #[.val (.ref a), .val (.int (1 : Int32)), .val (.int (x0 &&& (255 : Int32))), .unset, .val (.int (128 : Int32)), .val (.int (191 : Int32)), .unset, .unset] [(.int (239 : Int32)), (.int (x0 &&& (255 : Int32)))])) (fun _ kq => XS.sipush X.here hx rfl (hb hby d1_54) kq) ?_
      by_cases hc57_102 : (239 : Int32) < (x0 &&& (255 : Int32))
      ·
        rw [if_pos hc57_102]
        refine own_st (T' := T) (F' := (mkF m 92 #[.val (.ref a), .val (.int (1 : Int32)), .val (.int (x0 &&& (255 : Int32))), .unset, .val (.int (128 : Int32)), .val (.int (191 : Int32)), .unset, .unset] [])) (fun _ kq => XS.icmpYes X.here hx rfl (pc0 := 57) (pc' := 92) rfl (hb hby d1_57) rfl (tlt hc57_102).2.2.1 (by decide) (by decide) kq) ?_
        exact J92  T _ X eT N
      ·
        rw [if_neg hc57_102]
        refine own_st (T' := T) (F' := (mkF m 60 #[.val (.ref a), .val (.int (1 : Int32)), .val (.int (x0 &&& (255 : Int32))), .unset, .val (.int (128 : Int32)), .val (.int (191 : Int32)), .unset, .unset] [])) (fun _ kq => XS.icmpNo X.here hx rfl (hb hby d1_57) rfl (flt hc57_102).2.2.1 kq) ?_
        refine own_st (T' := T) (F' := (mkF m 61 #[.val (.ref a), .val (.int (1 : Int32)), .val (.int (x0 &&& (255 : Int32))), .unset, .val (.int (128 : Int32)), .val (.int (191 : Int32)), .unset, .unset] [(.int (3 : Int32))])) (fun _ kq => XS.iconst X.here hx rfl (hb hby d1_60) kq) ?_
        refine own_st (T' := T) (F' := (mkF m 62 #[.val (.ref a), .val (.int (1 : Int32)), .val (.int (x0 &&& (255 : Int32))), .val (.int (3 : Int32)), .val (.int (128 : Int32)), .val (.int (191 : Int32)), .unset, .unset] [])) (fun _ kq => XS.istoreN X.here hx rfl (hb hby d1_61) rfl (l' := #[.val (.ref a), .val (.int (1 : Int32)), .val (.int (x0 &&& (255 : Int32))), .val (.int (3 : Int32)), .val (.int (128 : Int32)), .val (.int (191 : Int32)), .unset, .unset]) rfl kq) ?_
        refine own_st (T' := T) (F' := (mkF m 63 #[.val (.ref a), .val (.int (1 : Int32)), .val (.int (x0 &&& (255 : Int32))), .val (.int (3 : Int32)), .val (.int (128 : Int32)), .val (.int (191 : Int32)), .unset, .unset] [(.int (x0 &&& (255 : Int32)))])) (fun _ kq => XS.iloadN X.here hx rfl (hb hby d1_62) rfl kq) ?_
        refine own_st (T' := T) (F' := (mkF m 66 #[.val (.ref a), .val (.int (1 : Int32)), .val (.int (x0 &&& (255 : Int32))), .val (.int (3 : Int32)), .val (.int (128 : Int32)), .val (.int (191 : Int32)), .unset, .unset] [(.int (224 : Int32)), (.int (x0 &&& (255 : Int32)))])) (fun _ kq => XS.sipush X.here hx rfl (hb hby d1_63) kq) ?_
        by_cases hc66_103 : (x0 &&& (255 : Int32)) = (224 : Int32)
        ·
          rw [if_pos hc66_103]
          refine own_st (T' := T) (F' := (mkF m 69 #[.val (.ref a), .val (.int (1 : Int32)), .val (.int (x0 &&& (255 : Int32))), .val (.int (3 : Int32)), .val (.int (128 : Int32)), .val (.int (191 : Int32)), .unset, .unset] [])) (fun _ kq => XS.icmpNo X.here hx rfl (hb hby d1_66) rfl (teq hc66_103).2 kq) ?_
          refine own_st (T' := T) (F' := (mkF m 72 #[.val (.ref a), .val (.int (1 : Int32)), .val (.int (x0 &&& (255 : Int32))), .val (.int (3 : Int32)), .val (.int (128 : Int32)), .val (.int (191 : Int32)), .unset, .unset] [(.int (160 : Int32))])) (fun _ kq => XS.sipush X.here hx rfl (hb hby d1_69) kq) ?_
          refine own_st (T' := T) (F' := (mkF m 74 #[.val (.ref a), .val (.int (1 : Int32)), .val (.int (x0 &&& (255 : Int32))), .val (.int (3 : Int32)), .val (.int (160 : Int32)), .val (.int (191 : Int32)), .unset, .unset] [])) (fun _ kq => XS.istore X.here hx rfl (hb hby d1_72) rfl (l' := #[.val (.ref a), .val (.int (1 : Int32)), .val (.int (x0 &&& (255 : Int32))), .val (.int (3 : Int32)), .val (.int (160 : Int32)), .val (.int (191 : Int32)), .unset, .unset]) rfl kq) ?_
          refine own_st (T' := T) (F' := (mkF m 140 #[.val (.ref a), .val (.int (1 : Int32)), .val (.int (x0 &&& (255 : Int32))), .val (.int (3 : Int32)), .val (.int (160 : Int32)), .val (.int (191 : Int32)), .unset, .unset] [])) (fun _ kq => XS.goto X.here hx rfl (pc0 := 74) (pc' := 140) rfl (hb hby d1_74) (by decide) (by decide) kq) ?_
          exact J140k3 (160 : Int32) (191 : Int32) T _ X eT N
        ·
          rw [if_neg hc66_103]
          refine own_st (T' := T) (F' := (mkF m 77 #[.val (.ref a), .val (.int (1 : Int32)), .val (.int (x0 &&& (255 : Int32))), .val (.int (3 : Int32)), .val (.int (128 : Int32)), .val (.int (191 : Int32)), .unset, .unset] [])) (fun _ kq => XS.icmpYes X.here hx rfl (pc0 := 66) (pc' := 77) rfl (hb hby d1_66) rfl (feq hc66_103).2 (by decide) (by decide) kq) ?_
          refine own_st (T' := T) (F' := (mkF m 78 #[.val (.ref a), .val (.int (1 : Int32)), .val (.int (x0 &&& (255 : Int32))), .val (.int (3 : Int32)), .val (.int (128 : Int32)), .val (.int (191 : Int32)), .unset, .unset] [(.int (x0 &&& (255 : Int32)))])) (fun _ kq => XS.iloadN X.here hx rfl (hb hby d1_77) rfl kq) ?_
          refine own_st (T' := T) (F' := (mkF m 81 #[.val (.ref a), .val (.int (1 : Int32)), .val (.int (x0 &&& (255 : Int32))), .val (.int (3 : Int32)), .val (.int (128 : Int32)), .val (.int (191 : Int32)), .unset, .unset] [(.int (237 : Int32)), (.int (x0 &&& (255 : Int32)))])) (fun _ kq => XS.sipush X.here hx rfl (hb hby d1_78) kq) ?_
          by_cases hc81_104 : (x0 &&& (255 : Int32)) = (237 : Int32)
          ·
            rw [if_pos hc81_104]
            refine own_st (T' := T) (F' := (mkF m 84 #[.val (.ref a), .val (.int (1 : Int32)), .val (.int (x0 &&& (255 : Int32))), .val (.int (3 : Int32)), .val (.int (128 : Int32)), .val (.int (191 : Int32)), .unset, .unset] [])) (fun _ kq => XS.icmpNo X.here hx rfl (hb hby d1_81) rfl (teq hc81_104).2 kq) ?_
            refine own_st (T' := T) (F' := (mkF m 87 #[.val (.ref a), .val (.int (1 : Int32)), .val (.int (x0 &&& (255 : Int32))), .val (.int (3 : Int32)), .val (.int (128 : Int32)), .val (.int (191 : Int32)), .unset, .unset] [(.int (159 : Int32))])) (fun _ kq => XS.sipush X.here hx rfl (hb hby d1_84) kq) ?_
            refine own_st (T' := T) (F' := (mkF m 89 #[.val (.ref a), .val (.int (1 : Int32)), .val (.int (x0 &&& (255 : Int32))), .val (.int (3 : Int32)), .val (.int (128 : Int32)), .val (.int (159 : Int32)), .unset, .unset] [])) (fun _ kq => XS.istore X.here hx rfl (hb hby d1_87) rfl (l' := #[.val (.ref a), .val (.int (1 : Int32)), .val (.int (x0 &&& (255 : Int32))), .val (.int (3 : Int32)), .val (.int (128 : Int32)), .val (.int (159 : Int32)), .unset, .unset]) rfl kq) ?_
            refine own_st (T' := T) (F' := (mkF m 140 #[.val (.ref a), .val (.int (1 : Int32)), .val (.int (x0 &&& (255 : Int32))), .val (.int (3 : Int32)), .val (.int (128 : Int32)), .val (.int (159 : Int32)), .unset, .unset] [])) (fun _ kq => XS.goto X.here hx rfl (pc0 := 89) (pc' := 140) rfl (hb hby d1_89) (by decide) (by decide) kq) ?_
            exact J140k3 (128 : Int32) (159 : Int32) T _ X eT N
          ·
            rw [if_neg hc81_104]
            refine own_st (T' := T) (F' := (mkF m 140 #[.val (.ref a), .val (.int (1 : Int32)), .val (.int (x0 &&& (255 : Int32))), .val (.int (3 : Int32)), .val (.int (128 : Int32)), .val (.int (191 : Int32)), .unset, .unset] [])) (fun _ kq => XS.icmpYes X.here hx rfl (pc0 := 81) (pc' := 140) rfl (hb hby d1_81) rfl (feq hc81_104).2 (by decide) (by decide) kq) ?_
            exact J140k3 (128 : Int32) (191 : Int32) T _ X eT N
  have N := Fr.nil n0
  refine own_entry (ef1 m a (1 : Int32)) ?_
  unfold sl2
  refine own_st (T' := T) (F' := (mkF m 1 #[.val (.ref a), .val (.int (1 : Int32)), .unset, .unset, .unset, .unset, .unset, .unset] [(.ref a)])) (fun _ kq => XS.aloadN X.here hx rfl (hb hby d1_0) rfl rfl kq) ?_
  refine own_st (T' := T) (F' := (mkF m 2 #[.val (.ref a), .val (.int (1 : Int32)), .unset, .unset, .unset, .unset, .unset, .unset] [(.int (1 : Int32)), (.ref a)])) (fun _ kq => XS.iloadN X.here hx rfl (hb hby d1_1) rfl kq) ?_
  refine own_st (T' := T) (F' := (mkF m 3 #[.val (.ref a), .val (.int (1 : Int32)), .unset, .unset, .unset, .unset, .unset, .unset] [(.int x0)])) (own_baload X hx hZ eT V (g := (mkF m 2 #[.val (.ref a), .val (.int (1 : Int32)), .unset, .unset, .unset, .unset, .unset, .unset] [(.int (1 : Int32)), (.ref a)])) rfl rfl (hb hby d1_2) (by decide) (Nat.le_of_ble_eq_true rfl) (w := x0) rfl) ?_
  refine own_st (T' := T) (F' := (mkF m 6 #[.val (.ref a), .val (.int (1 : Int32)), .unset, .unset, .unset, .unset, .unset, .unset] [(.int (255 : Int32)), (.int x0)])) (fun _ kq => XS.sipush X.here hx rfl (hb hby d1_3) kq) ?_
  refine own_st (T' := T) (F' := (mkF m 7 #[.val (.ref a), .val (.int (1 : Int32)), .unset, .unset, .unset, .unset, .unset, .unset] [(.int (x0 &&& (255 : Int32)))])) (fun _ kq => XS.iand X.here hx rfl (hb hby d1_6) rfl kq) ?_
  refine own_st (T' := T) (F' := (mkF m 8 #[.val (.ref a), .val (.int (1 : Int32)), .val (.int (x0 &&& (255 : Int32))), .unset, .unset, .unset, .unset, .unset] [])) (fun _ kq => XS.istoreN X.here hx rfl (hb hby d1_7) rfl (l' := #[.val (.ref a), .val (.int (1 : Int32)), .val (.int (x0 &&& (255 : Int32))), .unset, .unset, .unset, .unset, .unset]) rfl kq) ?_
  refine own_st (T' := T) (F' := (mkF m 9 #[.val (.ref a), .val (.int (1 : Int32)), .val (.int (x0 &&& (255 : Int32))), .unset, .unset, .unset, .unset, .unset] [(.int (x0 &&& (255 : Int32)))])) (fun _ kq => XS.iloadN X.here hx rfl (hb hby d1_8) rfl kq) ?_
  refine own_st (T' := T) (F' := (mkF m 12 #[.val (.ref a), .val (.int (1 : Int32)), .val (.int (x0 &&& (255 : Int32))), .unset, .unset, .unset, .unset, .unset] [(.int (128 : Int32)), (.int (x0 &&& (255 : Int32)))])) (fun _ kq => XS.sipush X.here hx rfl (hb hby d1_9) kq) ?_
  by_cases hc12_105 : (x0 &&& (255 : Int32)) < (128 : Int32)
  ·
    rw [if_pos hc12_105]
    refine own_st (T' := T) (F' := (mkF m 15 #[.val (.ref a), .val (.int (1 : Int32)), .val (.int (x0 &&& (255 : Int32))), .unset, .unset, .unset, .unset, .unset] [])) (fun _ kq => XS.icmpNo X.here hx rfl (hb hby d1_12) rfl (tlt hc12_105).2.1 kq) ?_
    refine own_st (T' := T) (F' := (mkF m 16 #[.val (.ref a), .val (.int (1 : Int32)), .val (.int (x0 &&& (255 : Int32))), .unset, .unset, .unset, .unset, .unset] [(.int (1 : Int32))])) (fun _ kq => XS.iconst X.here hx rfl (hb hby d1_15) kq) ?_
    exact own_retI X hx hlk hret (hb hby d1_16) (by decide) (by decide) (own_PQi rfl N eT)
  ·
    rw [if_neg hc12_105]
    refine own_st (T' := T) (F' := (mkF m 17 #[.val (.ref a), .val (.int (1 : Int32)), .val (.int (x0 &&& (255 : Int32))), .unset, .unset, .unset, .unset, .unset] [])) (fun _ kq => XS.icmpYes X.here hx rfl (pc0 := 12) (pc' := 17) rfl (hb hby d1_12) rfl (flt hc12_105).2.1 (by decide) (by decide) kq) ?_
    refine own_st (T' := T) (F' := (mkF m 20 #[.val (.ref a), .val (.int (1 : Int32)), .val (.int (x0 &&& (255 : Int32))), .unset, .unset, .unset, .unset, .unset] [(.int (128 : Int32))])) (fun _ kq => XS.sipush X.here hx rfl (hb hby d1_17) kq) ?_
    refine own_st (T' := T) (F' := (mkF m 22 #[.val (.ref a), .val (.int (1 : Int32)), .val (.int (x0 &&& (255 : Int32))), .unset, .val (.int (128 : Int32)), .unset, .unset, .unset] [])) (fun _ kq => XS.istore X.here hx rfl (hb hby d1_20) rfl (l' := #[.val (.ref a), .val (.int (1 : Int32)), .val (.int (x0 &&& (255 : Int32))), .unset, .val (.int (128 : Int32)), .unset, .unset, .unset]) rfl kq) ?_
    refine own_st (T' := T) (F' := (mkF m 25 #[.val (.ref a), .val (.int (1 : Int32)), .val (.int (x0 &&& (255 : Int32))), .unset, .val (.int (128 : Int32)), .unset, .unset, .unset] [(.int (191 : Int32))])) (fun _ kq => XS.sipush X.here hx rfl (hb hby d1_22) kq) ?_
    refine own_st (T' := T) (F' := (mkF m 27 #[.val (.ref a), .val (.int (1 : Int32)), .val (.int (x0 &&& (255 : Int32))), .unset, .val (.int (128 : Int32)), .val (.int (191 : Int32)), .unset, .unset] [])) (fun _ kq => XS.istore X.here hx rfl (hb hby d1_25) rfl (l' := #[.val (.ref a), .val (.int (1 : Int32)), .val (.int (x0 &&& (255 : Int32))), .unset, .val (.int (128 : Int32)), .val (.int (191 : Int32)), .unset, .unset]) rfl kq) ?_
    refine own_st (T' := T) (F' := (mkF m 28 #[.val (.ref a), .val (.int (1 : Int32)), .val (.int (x0 &&& (255 : Int32))), .unset, .val (.int (128 : Int32)), .val (.int (191 : Int32)), .unset, .unset] [(.int (x0 &&& (255 : Int32)))])) (fun _ kq => XS.iloadN X.here hx rfl (hb hby d1_27) rfl kq) ?_
    refine own_st (T' := T) (F' := (mkF m 31 #[.val (.ref a), .val (.int (1 : Int32)), .val (.int (x0 &&& (255 : Int32))), .unset, .val (.int (128 : Int32)), .val (.int (191 : Int32)), .unset, .unset] [(.int (194 : Int32)), (.int (x0 &&& (255 : Int32)))])) (fun _ kq => XS.sipush X.here hx rfl (hb hby d1_28) kq) ?_
    by_cases hc31_106 : (x0 &&& (255 : Int32)) < (194 : Int32)
    ·
      rw [if_pos hc31_106]
      refine own_st (T' := T) (F' := (mkF m 46 #[.val (.ref a), .val (.int (1 : Int32)), .val (.int (x0 &&& (255 : Int32))), .unset, .val (.int (128 : Int32)), .val (.int (191 : Int32)), .unset, .unset] [])) (fun _ kq => XS.icmpYes X.here hx rfl (pc0 := 31) (pc' := 46) rfl (hb hby d1_31) rfl (tlt hc31_106).1 (by decide) (by decide) kq) ?_
      exact J46  T _ X eT N
    ·
      rw [if_neg hc31_106]
      refine own_st (T' := T) (F' := (mkF m 34 #[.val (.ref a), .val (.int (1 : Int32)), .val (.int (x0 &&& (255 : Int32))), .unset, .val (.int (128 : Int32)), .val (.int (191 : Int32)), .unset, .unset] [])) (fun _ kq => XS.icmpNo X.here hx rfl (hb hby d1_31) rfl (flt hc31_106).1 kq) ?_
      refine own_st (T' := T) (F' := (mkF m 35 #[.val (.ref a), .val (.int (1 : Int32)), .val (.int (x0 &&& (255 : Int32))), .unset, .val (.int (128 : Int32)), .val (.int (191 : Int32)), .unset, .unset] [(.int (x0 &&& (255 : Int32)))])) (fun _ kq => XS.iloadN X.here hx rfl (hb hby d1_34) rfl kq) ?_
      refine own_st (T' := T) (F' := (mkF m 38 #[.val (.ref a), .val (.int (1 : Int32)), .val (.int (x0 &&& (255 : Int32))), .unset, .val (.int (128 : Int32)), .val (.int (191 : Int32)), .unset, .unset] [(.int (223 : Int32)), (.int (x0 &&& (255 : Int32)))])) (fun _ kq => XS.sipush X.here hx rfl (hb hby d1_35) kq) ?_
      by_cases hc38_107 : (223 : Int32) < (x0 &&& (255 : Int32))
      ·
        rw [if_pos hc38_107]
        refine own_st (T' := T) (F' := (mkF m 46 #[.val (.ref a), .val (.int (1 : Int32)), .val (.int (x0 &&& (255 : Int32))), .unset, .val (.int (128 : Int32)), .val (.int (191 : Int32)), .unset, .unset] [])) (fun _ kq => XS.icmpYes X.here hx rfl (pc0 := 38) (pc' := 46) rfl (hb hby d1_38) rfl (tlt hc38_107).2.2.1 (by decide) (by decide) kq) ?_
        exact J46  T _ X eT N
      ·
        rw [if_neg hc38_107]
        refine own_st (T' := T) (F' := (mkF m 41 #[.val (.ref a), .val (.int (1 : Int32)), .val (.int (x0 &&& (255 : Int32))), .unset, .val (.int (128 : Int32)), .val (.int (191 : Int32)), .unset, .unset] [])) (fun _ kq => XS.icmpNo X.here hx rfl (hb hby d1_38) rfl (flt hc38_107).2.2.1 kq) ?_
        refine own_st (T' := T) (F' := (mkF m 42 #[.val (.ref a), .val (.int (1 : Int32)), .val (.int (x0 &&& (255 : Int32))), .unset, .val (.int (128 : Int32)), .val (.int (191 : Int32)), .unset, .unset] [(.int (2 : Int32))])) (fun _ kq => XS.iconst X.here hx rfl (hb hby d1_41) kq) ?_
        refine own_st (T' := T) (F' := (mkF m 43 #[.val (.ref a), .val (.int (1 : Int32)), .val (.int (x0 &&& (255 : Int32))), .val (.int (2 : Int32)), .val (.int (128 : Int32)), .val (.int (191 : Int32)), .unset, .unset] [])) (fun _ kq => XS.istoreN X.here hx rfl (hb hby d1_42) rfl (l' := #[.val (.ref a), .val (.int (1 : Int32)), .val (.int (x0 &&& (255 : Int32))), .val (.int (2 : Int32)), .val (.int (128 : Int32)), .val (.int (191 : Int32)), .unset, .unset]) rfl kq) ?_
        refine own_st (T' := T) (F' := (mkF m 140 #[.val (.ref a), .val (.int (1 : Int32)), .val (.int (x0 &&& (255 : Int32))), .val (.int (2 : Int32)), .val (.int (128 : Int32)), .val (.int (191 : Int32)), .unset, .unset] [])) (fun _ kq => XS.goto X.here hx rfl (pc0 := 43) (pc' := 140) rfl (hb hby d1_43) (by decide) (by decide) kq) ?_
        exact J140k2  T _ X eT N
set_option maxRecDepth 65536 in
set_option maxHeartbeats 40000000 in
theorem rm1_1_3 (l : Launch) (Z : State) (a0 : Array Value) (hw : ∀ d ∈ tables_1, d.before a0 Z = true) (ws : List Jvm.Cond) (a : Addr) (w : Int32) (x0 : Int32) (x1 : Int32) (x2 : Int32) (h0 : Heap) (n0 : Nat) (V : own_AI Z h0 a .byte (4 : Int32) [w, x0, x1, x2]) :
    own_Met l Z (⟨"com/example/ogma/ogma/canon/Utf8", "sequenceLength", "([BI)I"⟩ : MethodName) prog_73_method_7_code 8 (some .int) ws ({ frames := 0, cells := 0, slots := 0, locals := 0 } : Room) #[(.ref a), (.int (1 : Int32))] h0 (own_PQ (.int (sl3 x0 x1 x2)) h0 n0) := by
  refine own_body (plainFor_of_name pn1) ?_
  intro p e s m below meth c T X hx hby hml hret hlk hZ hown hnm eT
  have J140k4 : ∀ (y140k4_4 : Int32) (y140k4_5 : Int32) (T : State) (locs : List Loc) (X : Stand p l e ({ frames := 0, cells := 0, slots := 0, locals := 0 } : Room) s m #[(.ref a), (.int (1 : Int32))] below meth c T locs 0 0) (eT : T.heap = h0) (N : Fr n0 locs), own_Ends p e below s 0 0 (own_PQ (.int (sl3_140k4 y140k4_4 y140k4_5)) h0 n0) T (mkF m 140 #[.val (.ref a), .val (.int (1 : Int32)), .val (.int (x0 &&& (255 : Int32))), .val (.int (4 : Int32)), .val (.int y140k4_4), .val (.int y140k4_5), .unset, .unset] []) := by
    intro y140k4_4 y140k4_5 T locs X eT N
    unfold sl3_140k4
    refine own_st (T' := T) (F' := (mkF m 141 #[.val (.ref a), .val (.int (1 : Int32)), .val (.int (x0 &&& (255 : Int32))), .val (.int (4 : Int32)), .val (.int y140k4_4), .val (.int y140k4_5), .unset, .unset] [(.ref a)])) (fun _ kq => XS.aloadN X.here hx rfl (hb hby d1_140) rfl rfl kq) ?_
    refine own_st (T' := T) (F' := (mkF m 142 #[.val (.ref a), .val (.int (1 : Int32)), .val (.int (x0 &&& (255 : Int32))), .val (.int (4 : Int32)), .val (.int y140k4_4), .val (.int y140k4_5), .unset, .unset] [(.int (4 : Int32))])) (own_lenI X hx hZ eT V (g := (mkF m 141 #[.val (.ref a), .val (.int (1 : Int32)), .val (.int (x0 &&& (255 : Int32))), .val (.int (4 : Int32)), .val (.int y140k4_4), .val (.int y140k4_5), .unset, .unset] [(.ref a)])) rfl rfl (hb hby d1_141)) ?_
    refine own_st (T' := T) (F' := (mkF m 143 #[.val (.ref a), .val (.int (1 : Int32)), .val (.int (x0 &&& (255 : Int32))), .val (.int (4 : Int32)), .val (.int y140k4_4), .val (.int y140k4_5), .unset, .unset] [(.int (1 : Int32)), (.int (4 : Int32))])) (fun _ kq => XS.iloadN X.here hx rfl (hb hby d1_142) rfl kq) ?_
    refine own_st (T' := T) (F' := (mkF m 144 #[.val (.ref a), .val (.int (1 : Int32)), .val (.int (x0 &&& (255 : Int32))), .val (.int (4 : Int32)), .val (.int y140k4_4), .val (.int y140k4_5), .unset, .unset] [(.int (3 : Int32))])) (fun _ kq => XS.isub X.here hx rfl (hb hby d1_143) rfl kq) ?_
    refine own_st (T' := T) (F' := (mkF m 145 #[.val (.ref a), .val (.int (1 : Int32)), .val (.int (x0 &&& (255 : Int32))), .val (.int (4 : Int32)), .val (.int y140k4_4), .val (.int y140k4_5), .unset, .unset] [(.int (4 : Int32)), (.int (3 : Int32))])) (fun _ kq => XS.iloadN X.here hx rfl (hb hby d1_144) rfl kq) ?_
    refine own_st (T' := T) (F' := (mkF m 148 #[.val (.ref a), .val (.int (1 : Int32)), .val (.int (x0 &&& (255 : Int32))), .val (.int (4 : Int32)), .val (.int y140k4_4), .val (.int y140k4_5), .unset, .unset] [])) (fun _ kq => XS.icmpNo X.here hx rfl (hb hby d1_145) rfl (tlt (by decide : (3 : Int32) < (4 : Int32))).2.1 kq) ?_
    refine own_st (T' := T) (F' := (mkF m 149 #[.val (.ref a), .val (.int (1 : Int32)), .val (.int (x0 &&& (255 : Int32))), .val (.int (4 : Int32)), .val (.int y140k4_4), .val (.int y140k4_5), .unset, .unset] [(.int (0 : Int32))])) (fun _ kq => XS.iconst X.here hx rfl (hb hby d1_148) kq) ?_
    exact own_retI X hx hlk hret (hb hby d1_149) (by decide) (by decide) (own_PQi rfl N eT)
  have J140k3 : ∀ (y140k3_4 : Int32) (y140k3_5 : Int32) (T : State) (locs : List Loc) (X : Stand p l e ({ frames := 0, cells := 0, slots := 0, locals := 0 } : Room) s m #[(.ref a), (.int (1 : Int32))] below meth c T locs 0 0) (eT : T.heap = h0) (N : Fr n0 locs), own_Ends p e below s 0 0 (own_PQ (.int (sl3_140k3 x1 x2 y140k3_4 y140k3_5)) h0 n0) T (mkF m 140 #[.val (.ref a), .val (.int (1 : Int32)), .val (.int (x0 &&& (255 : Int32))), .val (.int (3 : Int32)), .val (.int y140k3_4), .val (.int y140k3_5), .unset, .unset] []) := by
    intro y140k3_4 y140k3_5 T locs X eT N
    unfold sl3_140k3
    refine own_st (T' := T) (F' := (mkF m 141 #[.val (.ref a), .val (.int (1 : Int32)), .val (.int (x0 &&& (255 : Int32))), .val (.int (3 : Int32)), .val (.int y140k3_4), .val (.int y140k3_5), .unset, .unset] [(.ref a)])) (fun _ kq => XS.aloadN X.here hx rfl (hb hby d1_140) rfl rfl kq) ?_
    refine own_st (T' := T) (F' := (mkF m 142 #[.val (.ref a), .val (.int (1 : Int32)), .val (.int (x0 &&& (255 : Int32))), .val (.int (3 : Int32)), .val (.int y140k3_4), .val (.int y140k3_5), .unset, .unset] [(.int (4 : Int32))])) (own_lenI X hx hZ eT V (g := (mkF m 141 #[.val (.ref a), .val (.int (1 : Int32)), .val (.int (x0 &&& (255 : Int32))), .val (.int (3 : Int32)), .val (.int y140k3_4), .val (.int y140k3_5), .unset, .unset] [(.ref a)])) rfl rfl (hb hby d1_141)) ?_
    refine own_st (T' := T) (F' := (mkF m 143 #[.val (.ref a), .val (.int (1 : Int32)), .val (.int (x0 &&& (255 : Int32))), .val (.int (3 : Int32)), .val (.int y140k3_4), .val (.int y140k3_5), .unset, .unset] [(.int (1 : Int32)), (.int (4 : Int32))])) (fun _ kq => XS.iloadN X.here hx rfl (hb hby d1_142) rfl kq) ?_
    refine own_st (T' := T) (F' := (mkF m 144 #[.val (.ref a), .val (.int (1 : Int32)), .val (.int (x0 &&& (255 : Int32))), .val (.int (3 : Int32)), .val (.int y140k3_4), .val (.int y140k3_5), .unset, .unset] [(.int (3 : Int32))])) (fun _ kq => XS.isub X.here hx rfl (hb hby d1_143) rfl kq) ?_
    refine own_st (T' := T) (F' := (mkF m 145 #[.val (.ref a), .val (.int (1 : Int32)), .val (.int (x0 &&& (255 : Int32))), .val (.int (3 : Int32)), .val (.int y140k3_4), .val (.int y140k3_5), .unset, .unset] [(.int (3 : Int32)), (.int (3 : Int32))])) (fun _ kq => XS.iloadN X.here hx rfl (hb hby d1_144) rfl kq) ?_
    refine own_st (T' := T) (F' := (mkF m 150 #[.val (.ref a), .val (.int (1 : Int32)), .val (.int (x0 &&& (255 : Int32))), .val (.int (3 : Int32)), .val (.int y140k3_4), .val (.int y140k3_5), .unset, .unset] [])) (fun _ kq => XS.icmpYes X.here hx rfl (pc0 := 145) (pc' := 150) rfl (hb hby d1_145) rfl (flt (by decide : ¬ ((3 : Int32) < (3 : Int32)))).2.1 (by decide) (by decide) kq) ?_
    refine own_st (T' := T) (F' := (mkF m 151 #[.val (.ref a), .val (.int (1 : Int32)), .val (.int (x0 &&& (255 : Int32))), .val (.int (3 : Int32)), .val (.int y140k3_4), .val (.int y140k3_5), .unset, .unset] [(.ref a)])) (fun _ kq => XS.aloadN X.here hx rfl (hb hby d1_150) rfl rfl kq) ?_
    refine own_st (T' := T) (F' := (mkF m 152 #[.val (.ref a), .val (.int (1 : Int32)), .val (.int (x0 &&& (255 : Int32))), .val (.int (3 : Int32)), .val (.int y140k3_4), .val (.int y140k3_5), .unset, .unset] [(.int (1 : Int32)), (.ref a)])) (fun _ kq => XS.iloadN X.here hx rfl (hb hby d1_151) rfl kq) ?_
    refine own_st (T' := T) (F' := (mkF m 153 #[.val (.ref a), .val (.int (1 : Int32)), .val (.int (x0 &&& (255 : Int32))), .val (.int (3 : Int32)), .val (.int y140k3_4), .val (.int y140k3_5), .unset, .unset] [(.int (1 : Int32)), (.int (1 : Int32)), (.ref a)])) (fun _ kq => XS.iconst X.here hx rfl (hb hby d1_152) kq) ?_
    refine own_st (T' := T) (F' := (mkF m 154 #[.val (.ref a), .val (.int (1 : Int32)), .val (.int (x0 &&& (255 : Int32))), .val (.int (3 : Int32)), .val (.int y140k3_4), .val (.int y140k3_5), .unset, .unset] [(.int (2 : Int32)), (.ref a)])) (fun _ kq => XS.iadd X.here hx rfl (hb hby d1_153) rfl kq) ?_
    refine own_st (T' := T) (F' := (mkF m 155 #[.val (.ref a), .val (.int (1 : Int32)), .val (.int (x0 &&& (255 : Int32))), .val (.int (3 : Int32)), .val (.int y140k3_4), .val (.int y140k3_5), .unset, .unset] [(.int x1)])) (own_baload X hx hZ eT V (g := (mkF m 154 #[.val (.ref a), .val (.int (1 : Int32)), .val (.int (x0 &&& (255 : Int32))), .val (.int (3 : Int32)), .val (.int y140k3_4), .val (.int y140k3_5), .unset, .unset] [(.int (2 : Int32)), (.ref a)])) rfl rfl (hb hby d1_154) (by decide) (Nat.le_of_ble_eq_true rfl) (w := x1) rfl) ?_
    refine own_st (T' := T) (F' := (mkF m 158 #[.val (.ref a), .val (.int (1 : Int32)), .val (.int (x0 &&& (255 : Int32))), .val (.int (3 : Int32)), .val (.int y140k3_4), .val (.int y140k3_5), .unset, .unset] [(.int (255 : Int32)), (.int x1)])) (fun _ kq => XS.sipush X.here hx rfl (hb hby d1_155) kq) ?_
    refine own_st (T' := T) (F' := (mkF m 159 #[.val (.ref a), .val (.int (1 : Int32)), .val (.int (x0 &&& (255 : Int32))), .val (.int (3 : Int32)), .val (.int y140k3_4), .val (.int y140k3_5), .unset, .unset] [(.int (x1 &&& (255 : Int32)))])) (fun _ kq => XS.iand X.here hx rfl (hb hby d1_158) rfl kq) ?_
    refine own_st (T' := T) (F' := (mkF m 161 #[.val (.ref a), .val (.int (1 : Int32)), .val (.int (x0 &&& (255 : Int32))), .val (.int (3 : Int32)), .val (.int y140k3_4), .val (.int y140k3_5), .val (.int (x1 &&& (255 : Int32))), .unset] [])) (fun _ kq => XS.istore X.here hx rfl (hb hby d1_159) rfl (l' := #[.val (.ref a), .val (.int (1 : Int32)), .val (.int (x0 &&& (255 : Int32))), .val (.int (3 : Int32)), .val (.int y140k3_4), .val (.int y140k3_5), .val (.int (x1 &&& (255 : Int32))), .unset]) rfl kq) ?_
    refine own_st (T' := T) (F' := (mkF m 163 #[.val (.ref a), .val (.int (1 : Int32)), .val (.int (x0 &&& (255 : Int32))), .val (.int (3 : Int32)), .val (.int y140k3_4), .val (.int y140k3_5), .val (.int (x1 &&& (255 : Int32))), .unset] [(.int (x1 &&& (255 : Int32)))])) (fun _ kq => XS.iload X.here hx rfl (hb hby d1_161) rfl kq) ?_
    refine own_st (T' := T) (F' := (mkF m 165 #[.val (.ref a), .val (.int (1 : Int32)), .val (.int (x0 &&& (255 : Int32))), .val (.int (3 : Int32)), .val (.int y140k3_4), .val (.int y140k3_5), .val (.int (x1 &&& (255 : Int32))), .unset] [(.int y140k3_4), (.int (x1 &&& (255 : Int32)))])) (fun _ kq => XS.iload X.here hx rfl (hb hby d1_163) rfl kq) ?_
    by_cases hc165_108 : (x1 &&& (255 : Int32)) < y140k3_4
    ·
      rw [if_pos hc165_108]
      refine own_st (T' := T) (F' := (mkF m 175 #[.val (.ref a), .val (.int (1 : Int32)), .val (.int (x0 &&& (255 : Int32))), .val (.int (3 : Int32)), .val (.int y140k3_4), .val (.int y140k3_5), .val (.int (x1 &&& (255 : Int32))), .unset] [])) (fun _ kq => XS.icmpYes X.here hx rfl (pc0 := 165) (pc' := 175) rfl (hb hby d1_165) rfl (tlt hc165_108).1 (by decide) (by decide) kq) ?_
      refine own_st (T' := T) (F' := (mkF m 176 #[.val (.ref a), .val (.int (1 : Int32)), .val (.int (x0 &&& (255 : Int32))), .val (.int (3 : Int32)), .val (.int y140k3_4), .val (.int y140k3_5), .val (.int (x1 &&& (255 : Int32))), .unset] [(.int (0 : Int32))])) (fun _ kq => XS.iconst X.here hx rfl (hb hby d1_175) kq) ?_
      exact own_retI X hx hlk hret (hb hby d1_176) (by decide) (by decide) (own_PQi rfl N eT)
    ·
      rw [if_neg hc165_108]
      refine own_st (T' := T) (F' := (mkF m 168 #[.val (.ref a), .val (.int (1 : Int32)), .val (.int (x0 &&& (255 : Int32))), .val (.int (3 : Int32)), .val (.int y140k3_4), .val (.int y140k3_5), .val (.int (x1 &&& (255 : Int32))), .unset] [])) (fun _ kq => XS.icmpNo X.here hx rfl (hb hby d1_165) rfl (flt hc165_108).1 kq) ?_
      refine own_st (T' := T) (F' := (mkF m 170 #[.val (.ref a), .val (.int (1 : Int32)), .val (.int (x0 &&& (255 : Int32))), .val (.int (3 : Int32)), .val (.int y140k3_4), .val (.int y140k3_5), .val (.int (x1 &&& (255 : Int32))), .unset] [(.int (x1 &&& (255 : Int32)))])) (fun _ kq => XS.iload X.here hx rfl (hb hby d1_168) rfl kq) ?_
      refine own_st (T' := T) (F' := (mkF m 172 #[.val (.ref a), .val (.int (1 : Int32)), .val (.int (x0 &&& (255 : Int32))), .val (.int (3 : Int32)), .val (.int y140k3_4), .val (.int y140k3_5), .val (.int (x1 &&& (255 : Int32))), .unset] [(.int y140k3_5), (.int (x1 &&& (255 : Int32)))])) (fun _ kq => XS.iload X.here hx rfl (hb hby d1_170) rfl kq) ?_
      by_cases hc172_109 : y140k3_5 < (x1 &&& (255 : Int32))
      ·
        rw [if_pos hc172_109]
        refine own_st (T' := T) (F' := (mkF m 175 #[.val (.ref a), .val (.int (1 : Int32)), .val (.int (x0 &&& (255 : Int32))), .val (.int (3 : Int32)), .val (.int y140k3_4), .val (.int y140k3_5), .val (.int (x1 &&& (255 : Int32))), .unset] [])) (fun _ kq => XS.icmpNo X.here hx rfl (hb hby d1_172) rfl (tlt hc172_109).2.2.2 kq) ?_
        refine own_st (T' := T) (F' := (mkF m 176 #[.val (.ref a), .val (.int (1 : Int32)), .val (.int (x0 &&& (255 : Int32))), .val (.int (3 : Int32)), .val (.int y140k3_4), .val (.int y140k3_5), .val (.int (x1 &&& (255 : Int32))), .unset] [(.int (0 : Int32))])) (fun _ kq => XS.iconst X.here hx rfl (hb hby d1_175) kq) ?_
        exact own_retI X hx hlk hret (hb hby d1_176) (by decide) (by decide) (own_PQi rfl N eT)
      ·
        rw [if_neg hc172_109]
        refine own_st (T' := T) (F' := (mkF m 177 #[.val (.ref a), .val (.int (1 : Int32)), .val (.int (x0 &&& (255 : Int32))), .val (.int (3 : Int32)), .val (.int y140k3_4), .val (.int y140k3_5), .val (.int (x1 &&& (255 : Int32))), .unset] [])) (fun _ kq => XS.icmpYes X.here hx rfl (pc0 := 172) (pc' := 177) rfl (hb hby d1_172) rfl (flt hc172_109).2.2.2 (by decide) (by decide) kq) ?_
        refine own_st (T' := T) (F' := (mkF m 178 #[.val (.ref a), .val (.int (1 : Int32)), .val (.int (x0 &&& (255 : Int32))), .val (.int (3 : Int32)), .val (.int y140k3_4), .val (.int y140k3_5), .val (.int (x1 &&& (255 : Int32))), .unset] [(.int (2 : Int32))])) (fun _ kq => XS.iconst X.here hx rfl (hb hby d1_177) kq) ?_
        refine own_st (T' := T) (F' := (mkF m 180 #[.val (.ref a), .val (.int (1 : Int32)), .val (.int (x0 &&& (255 : Int32))), .val (.int (3 : Int32)), .val (.int y140k3_4), .val (.int y140k3_5), .val (.int (x1 &&& (255 : Int32))), .val (.int (2 : Int32))] [])) (fun _ kq => XS.istore X.here hx rfl (hb hby d1_178) rfl (l' := #[.val (.ref a), .val (.int (1 : Int32)), .val (.int (x0 &&& (255 : Int32))), .val (.int (3 : Int32)), .val (.int y140k3_4), .val (.int y140k3_5), .val (.int (x1 &&& (255 : Int32))), .val (.int (2 : Int32))]) rfl kq) ?_
        refine own_st (T' := T) (F' := (mkF m 182 #[.val (.ref a), .val (.int (1 : Int32)), .val (.int (x0 &&& (255 : Int32))), .val (.int (3 : Int32)), .val (.int y140k3_4), .val (.int y140k3_5), .val (.int (x1 &&& (255 : Int32))), .val (.int (2 : Int32))] [(.int (2 : Int32))])) (fun _ kq => XS.iload X.here hx rfl (hb hby d1_180) rfl kq) ?_
        refine own_st (T' := T) (F' := (mkF m 183 #[.val (.ref a), .val (.int (1 : Int32)), .val (.int (x0 &&& (255 : Int32))), .val (.int (3 : Int32)), .val (.int y140k3_4), .val (.int y140k3_5), .val (.int (x1 &&& (255 : Int32))), .val (.int (2 : Int32))] [(.int (3 : Int32)), (.int (2 : Int32))])) (fun _ kq => XS.iloadN X.here hx rfl (hb hby d1_182) rfl kq) ?_
        refine own_st (T' := T) (F' := (mkF m 186 #[.val (.ref a), .val (.int (1 : Int32)), .val (.int (x0 &&& (255 : Int32))), .val (.int (3 : Int32)), .val (.int y140k3_4), .val (.int y140k3_5), .val (.int (x1 &&& (255 : Int32))), .val (.int (2 : Int32))] [])) (fun _ kq => XS.icmpNo X.here hx rfl (hb hby d1_183) rfl (tlt (by decide : (2 : Int32) < (3 : Int32))).2.1 kq) ?_
        refine own_st (T' := T) (F' := (mkF m 187 #[.val (.ref a), .val (.int (1 : Int32)), .val (.int (x0 &&& (255 : Int32))), .val (.int (3 : Int32)), .val (.int y140k3_4), .val (.int y140k3_5), .val (.int (x1 &&& (255 : Int32))), .val (.int (2 : Int32))] [(.ref a)])) (fun _ kq => XS.aloadN X.here hx rfl (hb hby d1_186) rfl rfl kq) ?_
        refine own_st (T' := T) (F' := (mkF m 188 #[.val (.ref a), .val (.int (1 : Int32)), .val (.int (x0 &&& (255 : Int32))), .val (.int (3 : Int32)), .val (.int y140k3_4), .val (.int y140k3_5), .val (.int (x1 &&& (255 : Int32))), .val (.int (2 : Int32))] [(.int (1 : Int32)), (.ref a)])) (fun _ kq => XS.iloadN X.here hx rfl (hb hby d1_187) rfl kq) ?_
        refine own_st (T' := T) (F' := (mkF m 190 #[.val (.ref a), .val (.int (1 : Int32)), .val (.int (x0 &&& (255 : Int32))), .val (.int (3 : Int32)), .val (.int y140k3_4), .val (.int y140k3_5), .val (.int (x1 &&& (255 : Int32))), .val (.int (2 : Int32))] [(.int (2 : Int32)), (.int (1 : Int32)), (.ref a)])) (fun _ kq => XS.iload X.here hx rfl (hb hby d1_188) rfl kq) ?_
        refine own_st (T' := T) (F' := (mkF m 191 #[.val (.ref a), .val (.int (1 : Int32)), .val (.int (x0 &&& (255 : Int32))), .val (.int (3 : Int32)), .val (.int y140k3_4), .val (.int y140k3_5), .val (.int (x1 &&& (255 : Int32))), .val (.int (2 : Int32))] [(.int (3 : Int32)), (.ref a)])) (fun _ kq => XS.iadd X.here hx rfl (hb hby d1_190) rfl kq) ?_
        refine own_st (T' := T) (F' := (mkF m 192 #[.val (.ref a), .val (.int (1 : Int32)), .val (.int (x0 &&& (255 : Int32))), .val (.int (3 : Int32)), .val (.int y140k3_4), .val (.int y140k3_5), .val (.int (x1 &&& (255 : Int32))), .val (.int (2 : Int32))] [(.int x2)])) (own_baload X hx hZ eT V (g := (mkF m 191 #[.val (.ref a), .val (.int (1 : Int32)), .val (.int (x0 &&& (255 : Int32))), .val (.int (3 : Int32)), .val (.int y140k3_4), .val (.int y140k3_5), .val (.int (x1 &&& (255 : Int32))), .val (.int (2 : Int32))] [(.int (3 : Int32)), (.ref a)])) rfl rfl (hb hby d1_191) (by decide) (Nat.le_of_ble_eq_true rfl) (w := x2) rfl) ?_
        refine own_st (T' := T) (F' := (mkF m 195 #[.val (.ref a), .val (.int (1 : Int32)), .val (.int (x0 &&& (255 : Int32))), .val (.int (3 : Int32)), .val (.int y140k3_4), .val (.int y140k3_5), .val (.int (x1 &&& (255 : Int32))), .val (.int (2 : Int32))] [(.int (192 : Int32)), (.int x2)])) (fun _ kq => XS.sipush X.here hx rfl (hb hby d1_192) kq) ?_
        refine own_st (T' := T) (F' := (mkF m 196 #[.val (.ref a), .val (.int (1 : Int32)), .val (.int (x0 &&& (255 : Int32))), .val (.int (3 : Int32)), .val (.int y140k3_4), .val (.int y140k3_5), .val (.int (x1 &&& (255 : Int32))), .val (.int (2 : Int32))] [(.int (x2 &&& (192 : Int32)))])) (fun _ kq => XS.iand X.here hx rfl (hb hby d1_195) rfl kq) ?_
        refine own_st (T' := T) (F' := (mkF m 199 #[.val (.ref a), .val (.int (1 : Int32)), .val (.int (x0 &&& (255 : Int32))), .val (.int (3 : Int32)), .val (.int y140k3_4), .val (.int y140k3_5), .val (.int (x1 &&& (255 : Int32))), .val (.int (2 : Int32))] [(.int (128 : Int32)), (.int (x2 &&& (192 : Int32)))])) (fun _ kq => XS.sipush X.here hx rfl (hb hby d1_196) kq) ?_
        by_cases hc199_110 : (x2 &&& (192 : Int32)) = (128 : Int32)
        ·
          rw [if_pos hc199_110]
          refine own_st (T' := T) (F' := (mkF m 204 #[.val (.ref a), .val (.int (1 : Int32)), .val (.int (x0 &&& (255 : Int32))), .val (.int (3 : Int32)), .val (.int y140k3_4), .val (.int y140k3_5), .val (.int (x1 &&& (255 : Int32))), .val (.int (2 : Int32))] [])) (fun _ kq => XS.icmpYes X.here hx rfl (pc0 := 199) (pc' := 204) rfl (hb hby d1_199) rfl (teq hc199_110).1 (by decide) (by decide) kq) ?_
          refine own_st (T' := T) (F' := (mkF m 207 #[.val (.ref a), .val (.int (1 : Int32)), .val (.int (x0 &&& (255 : Int32))), .val (.int (3 : Int32)), .val (.int y140k3_4), .val (.int y140k3_5), .val (.int (x1 &&& (255 : Int32))), .val (.int (3 : Int32))] [])) (fun _ kq => XS.iinc X.here hx rfl (hb hby d1_204) rfl (l' := #[.val (.ref a), .val (.int (1 : Int32)), .val (.int (x0 &&& (255 : Int32))), .val (.int (3 : Int32)), .val (.int y140k3_4), .val (.int y140k3_5), .val (.int (x1 &&& (255 : Int32))), .val (.int (3 : Int32))]) rfl kq) ?_
          refine own_st (T' := T) (F' := (mkF m 180 #[.val (.ref a), .val (.int (1 : Int32)), .val (.int (x0 &&& (255 : Int32))), .val (.int (3 : Int32)), .val (.int y140k3_4), .val (.int y140k3_5), .val (.int (x1 &&& (255 : Int32))), .val (.int (3 : Int32))] [])) (fun _ kq => XS.goto X.here hx rfl (pc0 := 207) (pc' := 180) rfl (hb hby d1_207) (by decide) (by decide) kq) ?_
          refine own_st (T' := T) (F' := (mkF m 182 #[.val (.ref a), .val (.int (1 : Int32)), .val (.int (x0 &&& (255 : Int32))), .val (.int (3 : Int32)), .val (.int y140k3_4), .val (.int y140k3_5), .val (.int (x1 &&& (255 : Int32))), .val (.int (3 : Int32))] [(.int (3 : Int32))])) (fun _ kq => XS.iload X.here hx rfl (hb hby d1_180) rfl kq) ?_
          refine own_st (T' := T) (F' := (mkF m 183 #[.val (.ref a), .val (.int (1 : Int32)), .val (.int (x0 &&& (255 : Int32))), .val (.int (3 : Int32)), .val (.int y140k3_4), .val (.int y140k3_5), .val (.int (x1 &&& (255 : Int32))), .val (.int (3 : Int32))] [(.int (3 : Int32)), (.int (3 : Int32))])) (fun _ kq => XS.iloadN X.here hx rfl (hb hby d1_182) rfl kq) ?_
          refine own_st (T' := T) (F' := (mkF m 210 #[.val (.ref a), .val (.int (1 : Int32)), .val (.int (x0 &&& (255 : Int32))), .val (.int (3 : Int32)), .val (.int y140k3_4), .val (.int y140k3_5), .val (.int (x1 &&& (255 : Int32))), .val (.int (3 : Int32))] [])) (fun _ kq => XS.icmpYes X.here hx rfl (pc0 := 183) (pc' := 210) rfl (hb hby d1_183) rfl (flt (by decide : ¬ ((3 : Int32) < (3 : Int32)))).2.1 (by decide) (by decide) kq) ?_
          refine own_st (T' := T) (F' := (mkF m 211 #[.val (.ref a), .val (.int (1 : Int32)), .val (.int (x0 &&& (255 : Int32))), .val (.int (3 : Int32)), .val (.int y140k3_4), .val (.int y140k3_5), .val (.int (x1 &&& (255 : Int32))), .val (.int (3 : Int32))] [(.int (3 : Int32))])) (fun _ kq => XS.iloadN X.here hx rfl (hb hby d1_210) rfl kq) ?_
          exact own_retI X hx hlk hret (hb hby d1_211) (by decide) (by decide) (own_PQi rfl N eT)
        ·
          rw [if_neg hc199_110]
          refine own_st (T' := T) (F' := (mkF m 202 #[.val (.ref a), .val (.int (1 : Int32)), .val (.int (x0 &&& (255 : Int32))), .val (.int (3 : Int32)), .val (.int y140k3_4), .val (.int y140k3_5), .val (.int (x1 &&& (255 : Int32))), .val (.int (2 : Int32))] [])) (fun _ kq => XS.icmpNo X.here hx rfl (hb hby d1_199) rfl (feq hc199_110).1 kq) ?_
          refine own_st (T' := T) (F' := (mkF m 203 #[.val (.ref a), .val (.int (1 : Int32)), .val (.int (x0 &&& (255 : Int32))), .val (.int (3 : Int32)), .val (.int y140k3_4), .val (.int y140k3_5), .val (.int (x1 &&& (255 : Int32))), .val (.int (2 : Int32))] [(.int (0 : Int32))])) (fun _ kq => XS.iconst X.here hx rfl (hb hby d1_202) kq) ?_
          exact own_retI X hx hlk hret (hb hby d1_203) (by decide) (by decide) (own_PQi rfl N eT)
  have J140k2 : ∀ (T : State) (locs : List Loc) (X : Stand p l e ({ frames := 0, cells := 0, slots := 0, locals := 0 } : Room) s m #[(.ref a), (.int (1 : Int32))] below meth c T locs 0 0) (eT : T.heap = h0) (N : Fr n0 locs), own_Ends p e below s 0 0 (own_PQ (.int (sl3_140k2 x1)) h0 n0) T (mkF m 140 #[.val (.ref a), .val (.int (1 : Int32)), .val (.int (x0 &&& (255 : Int32))), .val (.int (2 : Int32)), .val (.int (128 : Int32)), .val (.int (191 : Int32)), .unset, .unset] []) := by
    intro T locs X eT N
    unfold sl3_140k2
    refine own_st (T' := T) (F' := (mkF m 141 #[.val (.ref a), .val (.int (1 : Int32)), .val (.int (x0 &&& (255 : Int32))), .val (.int (2 : Int32)), .val (.int (128 : Int32)), .val (.int (191 : Int32)), .unset, .unset] [(.ref a)])) (fun _ kq => XS.aloadN X.here hx rfl (hb hby d1_140) rfl rfl kq) ?_
    refine own_st (T' := T) (F' := (mkF m 142 #[.val (.ref a), .val (.int (1 : Int32)), .val (.int (x0 &&& (255 : Int32))), .val (.int (2 : Int32)), .val (.int (128 : Int32)), .val (.int (191 : Int32)), .unset, .unset] [(.int (4 : Int32))])) (own_lenI X hx hZ eT V (g := (mkF m 141 #[.val (.ref a), .val (.int (1 : Int32)), .val (.int (x0 &&& (255 : Int32))), .val (.int (2 : Int32)), .val (.int (128 : Int32)), .val (.int (191 : Int32)), .unset, .unset] [(.ref a)])) rfl rfl (hb hby d1_141)) ?_
    refine own_st (T' := T) (F' := (mkF m 143 #[.val (.ref a), .val (.int (1 : Int32)), .val (.int (x0 &&& (255 : Int32))), .val (.int (2 : Int32)), .val (.int (128 : Int32)), .val (.int (191 : Int32)), .unset, .unset] [(.int (1 : Int32)), (.int (4 : Int32))])) (fun _ kq => XS.iloadN X.here hx rfl (hb hby d1_142) rfl kq) ?_
    refine own_st (T' := T) (F' := (mkF m 144 #[.val (.ref a), .val (.int (1 : Int32)), .val (.int (x0 &&& (255 : Int32))), .val (.int (2 : Int32)), .val (.int (128 : Int32)), .val (.int (191 : Int32)), .unset, .unset] [(.int (3 : Int32))])) (fun _ kq => XS.isub X.here hx rfl (hb hby d1_143) rfl kq) ?_
    refine own_st (T' := T) (F' := (mkF m 145 #[.val (.ref a), .val (.int (1 : Int32)), .val (.int (x0 &&& (255 : Int32))), .val (.int (2 : Int32)), .val (.int (128 : Int32)), .val (.int (191 : Int32)), .unset, .unset] [(.int (2 : Int32)), (.int (3 : Int32))])) (fun _ kq => XS.iloadN X.here hx rfl (hb hby d1_144) rfl kq) ?_
    refine own_st (T' := T) (F' := (mkF m 150 #[.val (.ref a), .val (.int (1 : Int32)), .val (.int (x0 &&& (255 : Int32))), .val (.int (2 : Int32)), .val (.int (128 : Int32)), .val (.int (191 : Int32)), .unset, .unset] [])) (fun _ kq => XS.icmpYes X.here hx rfl (pc0 := 145) (pc' := 150) rfl (hb hby d1_145) rfl (flt (by decide : ¬ ((3 : Int32) < (2 : Int32)))).2.1 (by decide) (by decide) kq) ?_
    refine own_st (T' := T) (F' := (mkF m 151 #[.val (.ref a), .val (.int (1 : Int32)), .val (.int (x0 &&& (255 : Int32))), .val (.int (2 : Int32)), .val (.int (128 : Int32)), .val (.int (191 : Int32)), .unset, .unset] [(.ref a)])) (fun _ kq => XS.aloadN X.here hx rfl (hb hby d1_150) rfl rfl kq) ?_
    refine own_st (T' := T) (F' := (mkF m 152 #[.val (.ref a), .val (.int (1 : Int32)), .val (.int (x0 &&& (255 : Int32))), .val (.int (2 : Int32)), .val (.int (128 : Int32)), .val (.int (191 : Int32)), .unset, .unset] [(.int (1 : Int32)), (.ref a)])) (fun _ kq => XS.iloadN X.here hx rfl (hb hby d1_151) rfl kq) ?_
    refine own_st (T' := T) (F' := (mkF m 153 #[.val (.ref a), .val (.int (1 : Int32)), .val (.int (x0 &&& (255 : Int32))), .val (.int (2 : Int32)), .val (.int (128 : Int32)), .val (.int (191 : Int32)), .unset, .unset] [(.int (1 : Int32)), (.int (1 : Int32)), (.ref a)])) (fun _ kq => XS.iconst X.here hx rfl (hb hby d1_152) kq) ?_
    refine own_st (T' := T) (F' := (mkF m 154 #[.val (.ref a), .val (.int (1 : Int32)), .val (.int (x0 &&& (255 : Int32))), .val (.int (2 : Int32)), .val (.int (128 : Int32)), .val (.int (191 : Int32)), .unset, .unset] [(.int (2 : Int32)), (.ref a)])) (fun _ kq => XS.iadd X.here hx rfl (hb hby d1_153) rfl kq) ?_
    refine own_st (T' := T) (F' := (mkF m 155 #[.val (.ref a), .val (.int (1 : Int32)), .val (.int (x0 &&& (255 : Int32))), .val (.int (2 : Int32)), .val (.int (128 : Int32)), .val (.int (191 : Int32)), .unset, .unset] [(.int x1)])) (own_baload X hx hZ eT V (g := (mkF m 154 #[.val (.ref a), .val (.int (1 : Int32)), .val (.int (x0 &&& (255 : Int32))), .val (.int (2 : Int32)), .val (.int (128 : Int32)), .val (.int (191 : Int32)), .unset, .unset] [(.int (2 : Int32)), (.ref a)])) rfl rfl (hb hby d1_154) (by decide) (Nat.le_of_ble_eq_true rfl) (w := x1) rfl) ?_
    refine own_st (T' := T) (F' := (mkF m 158 #[.val (.ref a), .val (.int (1 : Int32)), .val (.int (x0 &&& (255 : Int32))), .val (.int (2 : Int32)), .val (.int (128 : Int32)), .val (.int (191 : Int32)), .unset, .unset] [(.int (255 : Int32)), (.int x1)])) (fun _ kq => XS.sipush X.here hx rfl (hb hby d1_155) kq) ?_
    refine own_st (T' := T) (F' := (mkF m 159 #[.val (.ref a), .val (.int (1 : Int32)), .val (.int (x0 &&& (255 : Int32))), .val (.int (2 : Int32)), .val (.int (128 : Int32)), .val (.int (191 : Int32)), .unset, .unset] [(.int (x1 &&& (255 : Int32)))])) (fun _ kq => XS.iand X.here hx rfl (hb hby d1_158) rfl kq) ?_
    refine own_st (T' := T) (F' := (mkF m 161 #[.val (.ref a), .val (.int (1 : Int32)), .val (.int (x0 &&& (255 : Int32))), .val (.int (2 : Int32)), .val (.int (128 : Int32)), .val (.int (191 : Int32)), .val (.int (x1 &&& (255 : Int32))), .unset] [])) (fun _ kq => XS.istore X.here hx rfl (hb hby d1_159) rfl (l' := #[.val (.ref a), .val (.int (1 : Int32)), .val (.int (x0 &&& (255 : Int32))), .val (.int (2 : Int32)), .val (.int (128 : Int32)), .val (.int (191 : Int32)), .val (.int (x1 &&& (255 : Int32))), .unset]) rfl kq) ?_
    refine own_st (T' := T) (F' := (mkF m 163 #[.val (.ref a), .val (.int (1 : Int32)), .val (.int (x0 &&& (255 : Int32))), .val (.int (2 : Int32)), .val (.int (128 : Int32)), .val (.int (191 : Int32)), .val (.int (x1 &&& (255 : Int32))), .unset] [(.int (x1 &&& (255 : Int32)))])) (fun _ kq => XS.iload X.here hx rfl (hb hby d1_161) rfl kq) ?_
    refine own_st (T' := T) (F' := (mkF m 165 #[.val (.ref a), .val (.int (1 : Int32)), .val (.int (x0 &&& (255 : Int32))), .val (.int (2 : Int32)), .val (.int (128 : Int32)), .val (.int (191 : Int32)), .val (.int (x1 &&& (255 : Int32))), .unset] [(.int (128 : Int32)), (.int (x1 &&& (255 : Int32)))])) (fun _ kq => XS.iload X.here hx rfl (hb hby d1_163) rfl kq) ?_
    by_cases hc165_111 : (x1 &&& (255 : Int32)) < (128 : Int32)
    ·
      rw [if_pos hc165_111]
      refine own_st (T' := T) (F' := (mkF m 175 #[.val (.ref a), .val (.int (1 : Int32)), .val (.int (x0 &&& (255 : Int32))), .val (.int (2 : Int32)), .val (.int (128 : Int32)), .val (.int (191 : Int32)), .val (.int (x1 &&& (255 : Int32))), .unset] [])) (fun _ kq => XS.icmpYes X.here hx rfl (pc0 := 165) (pc' := 175) rfl (hb hby d1_165) rfl (tlt hc165_111).1 (by decide) (by decide) kq) ?_
      refine own_st (T' := T) (F' := (mkF m 176 #[.val (.ref a), .val (.int (1 : Int32)), .val (.int (x0 &&& (255 : Int32))), .val (.int (2 : Int32)), .val (.int (128 : Int32)), .val (.int (191 : Int32)), .val (.int (x1 &&& (255 : Int32))), .unset] [(.int (0 : Int32))])) (fun _ kq => XS.iconst X.here hx rfl (hb hby d1_175) kq) ?_
      exact own_retI X hx hlk hret (hb hby d1_176) (by decide) (by decide) (own_PQi rfl N eT)
    ·
      rw [if_neg hc165_111]
      refine own_st (T' := T) (F' := (mkF m 168 #[.val (.ref a), .val (.int (1 : Int32)), .val (.int (x0 &&& (255 : Int32))), .val (.int (2 : Int32)), .val (.int (128 : Int32)), .val (.int (191 : Int32)), .val (.int (x1 &&& (255 : Int32))), .unset] [])) (fun _ kq => XS.icmpNo X.here hx rfl (hb hby d1_165) rfl (flt hc165_111).1 kq) ?_
      refine own_st (T' := T) (F' := (mkF m 170 #[.val (.ref a), .val (.int (1 : Int32)), .val (.int (x0 &&& (255 : Int32))), .val (.int (2 : Int32)), .val (.int (128 : Int32)), .val (.int (191 : Int32)), .val (.int (x1 &&& (255 : Int32))), .unset] [(.int (x1 &&& (255 : Int32)))])) (fun _ kq => XS.iload X.here hx rfl (hb hby d1_168) rfl kq) ?_
      refine own_st (T' := T) (F' := (mkF m 172 #[.val (.ref a), .val (.int (1 : Int32)), .val (.int (x0 &&& (255 : Int32))), .val (.int (2 : Int32)), .val (.int (128 : Int32)), .val (.int (191 : Int32)), .val (.int (x1 &&& (255 : Int32))), .unset] [(.int (191 : Int32)), (.int (x1 &&& (255 : Int32)))])) (fun _ kq => XS.iload X.here hx rfl (hb hby d1_170) rfl kq) ?_
      by_cases hc172_112 : (191 : Int32) < (x1 &&& (255 : Int32))
      ·
        rw [if_pos hc172_112]
        refine own_st (T' := T) (F' := (mkF m 175 #[.val (.ref a), .val (.int (1 : Int32)), .val (.int (x0 &&& (255 : Int32))), .val (.int (2 : Int32)), .val (.int (128 : Int32)), .val (.int (191 : Int32)), .val (.int (x1 &&& (255 : Int32))), .unset] [])) (fun _ kq => XS.icmpNo X.here hx rfl (hb hby d1_172) rfl (tlt hc172_112).2.2.2 kq) ?_
        refine own_st (T' := T) (F' := (mkF m 176 #[.val (.ref a), .val (.int (1 : Int32)), .val (.int (x0 &&& (255 : Int32))), .val (.int (2 : Int32)), .val (.int (128 : Int32)), .val (.int (191 : Int32)), .val (.int (x1 &&& (255 : Int32))), .unset] [(.int (0 : Int32))])) (fun _ kq => XS.iconst X.here hx rfl (hb hby d1_175) kq) ?_
        exact own_retI X hx hlk hret (hb hby d1_176) (by decide) (by decide) (own_PQi rfl N eT)
      ·
        rw [if_neg hc172_112]
        refine own_st (T' := T) (F' := (mkF m 177 #[.val (.ref a), .val (.int (1 : Int32)), .val (.int (x0 &&& (255 : Int32))), .val (.int (2 : Int32)), .val (.int (128 : Int32)), .val (.int (191 : Int32)), .val (.int (x1 &&& (255 : Int32))), .unset] [])) (fun _ kq => XS.icmpYes X.here hx rfl (pc0 := 172) (pc' := 177) rfl (hb hby d1_172) rfl (flt hc172_112).2.2.2 (by decide) (by decide) kq) ?_
        refine own_st (T' := T) (F' := (mkF m 178 #[.val (.ref a), .val (.int (1 : Int32)), .val (.int (x0 &&& (255 : Int32))), .val (.int (2 : Int32)), .val (.int (128 : Int32)), .val (.int (191 : Int32)), .val (.int (x1 &&& (255 : Int32))), .unset] [(.int (2 : Int32))])) (fun _ kq => XS.iconst X.here hx rfl (hb hby d1_177) kq) ?_
        refine own_st (T' := T) (F' := (mkF m 180 #[.val (.ref a), .val (.int (1 : Int32)), .val (.int (x0 &&& (255 : Int32))), .val (.int (2 : Int32)), .val (.int (128 : Int32)), .val (.int (191 : Int32)), .val (.int (x1 &&& (255 : Int32))), .val (.int (2 : Int32))] [])) (fun _ kq => XS.istore X.here hx rfl (hb hby d1_178) rfl (l' := #[.val (.ref a), .val (.int (1 : Int32)), .val (.int (x0 &&& (255 : Int32))), .val (.int (2 : Int32)), .val (.int (128 : Int32)), .val (.int (191 : Int32)), .val (.int (x1 &&& (255 : Int32))), .val (.int (2 : Int32))]) rfl kq) ?_
        refine own_st (T' := T) (F' := (mkF m 182 #[.val (.ref a), .val (.int (1 : Int32)), .val (.int (x0 &&& (255 : Int32))), .val (.int (2 : Int32)), .val (.int (128 : Int32)), .val (.int (191 : Int32)), .val (.int (x1 &&& (255 : Int32))), .val (.int (2 : Int32))] [(.int (2 : Int32))])) (fun _ kq => XS.iload X.here hx rfl (hb hby d1_180) rfl kq) ?_
        refine own_st (T' := T) (F' := (mkF m 183 #[.val (.ref a), .val (.int (1 : Int32)), .val (.int (x0 &&& (255 : Int32))), .val (.int (2 : Int32)), .val (.int (128 : Int32)), .val (.int (191 : Int32)), .val (.int (x1 &&& (255 : Int32))), .val (.int (2 : Int32))] [(.int (2 : Int32)), (.int (2 : Int32))])) (fun _ kq => XS.iloadN X.here hx rfl (hb hby d1_182) rfl kq) ?_
        refine own_st (T' := T) (F' := (mkF m 210 #[.val (.ref a), .val (.int (1 : Int32)), .val (.int (x0 &&& (255 : Int32))), .val (.int (2 : Int32)), .val (.int (128 : Int32)), .val (.int (191 : Int32)), .val (.int (x1 &&& (255 : Int32))), .val (.int (2 : Int32))] [])) (fun _ kq => XS.icmpYes X.here hx rfl (pc0 := 183) (pc' := 210) rfl (hb hby d1_183) rfl (flt (by decide : ¬ ((2 : Int32) < (2 : Int32)))).2.1 (by decide) (by decide) kq) ?_
        refine own_st (T' := T) (F' := (mkF m 211 #[.val (.ref a), .val (.int (1 : Int32)), .val (.int (x0 &&& (255 : Int32))), .val (.int (2 : Int32)), .val (.int (128 : Int32)), .val (.int (191 : Int32)), .val (.int (x1 &&& (255 : Int32))), .val (.int (2 : Int32))] [(.int (2 : Int32))])) (fun _ kq => XS.iloadN X.here hx rfl (hb hby d1_210) rfl kq) ?_
        exact own_retI X hx hlk hret (hb hby d1_211) (by decide) (by decide) (own_PQi rfl N eT)
  have J92 : ∀ (T : State) (locs : List Loc) (X : Stand p l e ({ frames := 0, cells := 0, slots := 0, locals := 0 } : Room) s m #[(.ref a), (.int (1 : Int32))] below meth c T locs 0 0) (eT : T.heap = h0) (N : Fr n0 locs), own_Ends p e below s 0 0 (own_PQ (.int (sl3_92 x0)) h0 n0) T (mkF m 92 #[.val (.ref a), .val (.int (1 : Int32)), .val (.int (x0 &&& (255 : Int32))), .unset, .val (.int (128 : Int32)), .val (.int (191 : Int32)), .unset, .unset] []) := by
    intro T locs X eT N
    unfold sl3_92
    refine own_st (T' := T) (F' := (mkF m 93 #[.val (.ref a), .val (.int (1 : Int32)), .val (.int (x0 &&& (255 : Int32))), .unset, .val (.int (128 : Int32)), .val (.int (191 : Int32)), .unset, .unset] [(.int (x0 &&& (255 : Int32)))])) (fun _ kq => XS.iloadN X.here hx rfl (hb hby d1_92) rfl kq) ?_
    refine own_st (T' := T) (F' := (mkF m 96 #[.val (.ref a), .val (.int (1 : Int32)), .val (.int (x0 &&& (255 : Int32))), .unset, .val (.int (128 : Int32)), .val (.int (191 : Int32)), .unset, .unset] [(.int (240 : Int32)), (.int (x0 &&& (255 : Int32)))])) (fun _ kq => XS.sipush X.here hx rfl (hb hby d1_93) kq) ?_
    by_cases hc96_113 : (x0 &&& (255 : Int32)) < (240 : Int32)
    ·
      rw [if_pos hc96_113]
      refine own_st (T' := T) (F' := (mkF m 138 #[.val (.ref a), .val (.int (1 : Int32)), .val (.int (x0 &&& (255 : Int32))), .unset, .val (.int (128 : Int32)), .val (.int (191 : Int32)), .unset, .unset] [])) (fun _ kq => XS.icmpYes X.here hx rfl (pc0 := 96) (pc' := 138) rfl (hb hby d1_96) rfl (tlt hc96_113).1 (by decide) (by decide) kq) ?_
      refine own_st (T' := T) (F' := (mkF m 139 #[.val (.ref a), .val (.int (1 : Int32)), .val (.int (x0 &&& (255 : Int32))), .unset, .val (.int (128 : Int32)), .val (.int (191 : Int32)), .unset, .unset] [(.int (0 : Int32))])) (fun _ kq => XS.iconst X.here hx rfl (hb hby d1_138) kq) ?_
      exact own_retI X hx hlk hret (hb hby d1_139) (by decide) (by decide) (own_PQi rfl N eT)
    ·
      rw [if_neg hc96_113]
      refine own_st (T' := T) (F' := (mkF m 99 #[.val (.ref a), .val (.int (1 : Int32)), .val (.int (x0 &&& (255 : Int32))), .unset, .val (.int (128 : Int32)), .val (.int (191 : Int32)), .unset, .unset] [])) (fun _ kq => XS.icmpNo X.here hx rfl (hb hby d1_96) rfl (flt hc96_113).1 kq) ?_
      refine own_st (T' := T) (F' := (mkF m 100 #[.val (.ref a), .val (.int (1 : Int32)), .val (.int (x0 &&& (255 : Int32))), .unset, .val (.int (128 : Int32)), .val (.int (191 : Int32)), .unset, .unset] [(.int (x0 &&& (255 : Int32)))])) (fun _ kq => XS.iloadN X.here hx rfl (hb hby d1_99) rfl kq) ?_
      refine own_st (T' := T) (F' := (mkF m 103 #[.val (.ref a), .val (.int (1 : Int32)), .val (.int (x0 &&& (255 : Int32))), .unset, .val (.int (128 : Int32)), .val (.int (191 : Int32)), .unset, .unset] [(.int (244 : Int32)), (.int (x0 &&& (255 : Int32)))])) (fun _ kq => XS.sipush X.here hx rfl (hb hby d1_100) kq) ?_
      by_cases hc103_114 : (244 : Int32) < (x0 &&& (255 : Int32))
      ·
        rw [if_pos hc103_114]
        refine own_st (T' := T) (F' := (mkF m 138 #[.val (.ref a), .val (.int (1 : Int32)), .val (.int (x0 &&& (255 : Int32))), .unset, .val (.int (128 : Int32)), .val (.int (191 : Int32)), .unset, .unset] [])) (fun _ kq => XS.icmpYes X.here hx rfl (pc0 := 103) (pc' := 138) rfl (hb hby d1_103) rfl (tlt hc103_114).2.2.1 (by decide) (by decide) kq) ?_
        refine own_st (T' := T) (F' := (mkF m 139 #[.val (.ref a), .val (.int (1 : Int32)), .val (.int (x0 &&& (255 : Int32))), .unset, .val (.int (128 : Int32)), .val (.int (191 : Int32)), .unset, .unset] [(.int (0 : Int32))])) (fun _ kq => XS.iconst X.here hx rfl (hb hby d1_138) kq) ?_
        exact own_retI X hx hlk hret (hb hby d1_139) (by decide) (by decide) (own_PQi rfl N eT)
      ·
        rw [if_neg hc103_114]
        refine own_st (T' := T) (F' := (mkF m 106 #[.val (.ref a), .val (.int (1 : Int32)), .val (.int (x0 &&& (255 : Int32))), .unset, .val (.int (128 : Int32)), .val (.int (191 : Int32)), .unset, .unset] [])) (fun _ kq => XS.icmpNo X.here hx rfl (hb hby d1_103) rfl (flt hc103_114).2.2.1 kq) ?_
        refine own_st (T' := T) (F' := (mkF m 107 #[.val (.ref a), .val (.int (1 : Int32)), .val (.int (x0 &&& (255 : Int32))), .unset, .val (.int (128 : Int32)), .val (.int (191 : Int32)), .unset, .unset] [(.int (4 : Int32))])) (fun _ kq => XS.iconst X.here hx rfl (hb hby d1_106) kq) ?_
        refine own_st (T' := T) (F' := (mkF m 108 #[.val (.ref a), .val (.int (1 : Int32)), .val (.int (x0 &&& (255 : Int32))), .val (.int (4 : Int32)), .val (.int (128 : Int32)), .val (.int (191 : Int32)), .unset, .unset] [])) (fun _ kq => XS.istoreN X.here hx rfl (hb hby d1_107) rfl (l' := #[.val (.ref a), .val (.int (1 : Int32)), .val (.int (x0 &&& (255 : Int32))), .val (.int (4 : Int32)), .val (.int (128 : Int32)), .val (.int (191 : Int32)), .unset, .unset]) rfl kq) ?_
        refine own_st (T' := T) (F' := (mkF m 109 #[.val (.ref a), .val (.int (1 : Int32)), .val (.int (x0 &&& (255 : Int32))), .val (.int (4 : Int32)), .val (.int (128 : Int32)), .val (.int (191 : Int32)), .unset, .unset] [(.int (x0 &&& (255 : Int32)))])) (fun _ kq => XS.iloadN X.here hx rfl (hb hby d1_108) rfl kq) ?_
        refine own_st (T' := T) (F' := (mkF m 112 #[.val (.ref a), .val (.int (1 : Int32)), .val (.int (x0 &&& (255 : Int32))), .val (.int (4 : Int32)), .val (.int (128 : Int32)), .val (.int (191 : Int32)), .unset, .unset] [(.int (240 : Int32)), (.int (x0 &&& (255 : Int32)))])) (fun _ kq => XS.sipush X.here hx rfl (hb hby d1_109) kq) ?_
        by_cases hc112_115 : (x0 &&& (255 : Int32)) = (240 : Int32)
        ·
          rw [if_pos hc112_115]
          refine own_st (T' := T) (F' := (mkF m 115 #[.val (.ref a), .val (.int (1 : Int32)), .val (.int (x0 &&& (255 : Int32))), .val (.int (4 : Int32)), .val (.int (128 : Int32)), .val (.int (191 : Int32)), .unset, .unset] [])) (fun _ kq => XS.icmpNo X.here hx rfl (hb hby d1_112) rfl (teq hc112_115).2 kq) ?_
          refine own_st (T' := T) (F' := (mkF m 118 #[.val (.ref a), .val (.int (1 : Int32)), .val (.int (x0 &&& (255 : Int32))), .val (.int (4 : Int32)), .val (.int (128 : Int32)), .val (.int (191 : Int32)), .unset, .unset] [(.int (144 : Int32))])) (fun _ kq => XS.sipush X.here hx rfl (hb hby d1_115) kq) ?_
          refine own_st (T' := T) (F' := (mkF m 120 #[.val (.ref a), .val (.int (1 : Int32)), .val (.int (x0 &&& (255 : Int32))), .val (.int (4 : Int32)), .val (.int (144 : Int32)), .val (.int (191 : Int32)), .unset, .unset] [])) (fun _ kq => XS.istore X.here hx rfl (hb hby d1_118) rfl (l' := #[.val (.ref a), .val (.int (1 : Int32)), .val (.int (x0 &&& (255 : Int32))), .val (.int (4 : Int32)), .val (.int (144 : Int32)), .val (.int (191 : Int32)), .unset, .unset]) rfl kq) ?_
          refine own_st (T' := T) (F' := (mkF m 140 #[.val (.ref a), .val (.int (1 : Int32)), .val (.int (x0 &&& (255 : Int32))), .val (.int (4 : Int32)), .val (.int (144 : Int32)), .val (.int (191 : Int32)), .unset, .unset] [])) (fun _ kq => XS.goto X.here hx rfl (pc0 := 120) (pc' := 140) rfl (hb hby d1_120) (by decide) (by decide) kq) ?_
          exact J140k4 (144 : Int32) (191 : Int32) T _ X eT N
        ·
          rw [if_neg hc112_115]
          refine own_st (T' := T) (F' := (mkF m 123 #[.val (.ref a), .val (.int (1 : Int32)), .val (.int (x0 &&& (255 : Int32))), .val (.int (4 : Int32)), .val (.int (128 : Int32)), .val (.int (191 : Int32)), .unset, .unset] [])) (fun _ kq => XS.icmpYes X.here hx rfl (pc0 := 112) (pc' := 123) rfl (hb hby d1_112) rfl (feq hc112_115).2 (by decide) (by decide) kq) ?_
          refine own_st (T' := T) (F' := (mkF m 124 #[.val (.ref a), .val (.int (1 : Int32)), .val (.int (x0 &&& (255 : Int32))), .val (.int (4 : Int32)), .val (.int (128 : Int32)), .val (.int (191 : Int32)), .unset, .unset] [(.int (x0 &&& (255 : Int32)))])) (fun _ kq => XS.iloadN X.here hx rfl (hb hby d1_123) rfl kq) ?_
          refine own_st (T' := T) (F' := (mkF m 127 #[.val (.ref a), .val (.int (1 : Int32)), .val (.int (x0 &&& (255 : Int32))), .val (.int (4 : Int32)), .val (.int (128 : Int32)), .val (.int (191 : Int32)), .unset, .unset] [(.int (244 : Int32)), (.int (x0 &&& (255 : Int32)))])) (fun _ kq => XS.sipush X.here hx rfl (hb hby d1_124) kq) ?_
          by_cases hc127_116 : (x0 &&& (255 : Int32)) = (244 : Int32)
          ·
            rw [if_pos hc127_116]
            refine own_st (T' := T) (F' := (mkF m 130 #[.val (.ref a), .val (.int (1 : Int32)), .val (.int (x0 &&& (255 : Int32))), .val (.int (4 : Int32)), .val (.int (128 : Int32)), .val (.int (191 : Int32)), .unset, .unset] [])) (fun _ kq => XS.icmpNo X.here hx rfl (hb hby d1_127) rfl (teq hc127_116).2 kq) ?_
            refine own_st (T' := T) (F' := (mkF m 133 #[.val (.ref a), .val (.int (1 : Int32)), .val (.int (x0 &&& (255 : Int32))), .val (.int (4 : Int32)), .val (.int (128 : Int32)), .val (.int (191 : Int32)), .unset, .unset] [(.int (143 : Int32))])) (fun _ kq => XS.sipush X.here hx rfl (hb hby d1_130) kq) ?_
            refine own_st (T' := T) (F' := (mkF m 135 #[.val (.ref a), .val (.int (1 : Int32)), .val (.int (x0 &&& (255 : Int32))), .val (.int (4 : Int32)), .val (.int (128 : Int32)), .val (.int (143 : Int32)), .unset, .unset] [])) (fun _ kq => XS.istore X.here hx rfl (hb hby d1_133) rfl (l' := #[.val (.ref a), .val (.int (1 : Int32)), .val (.int (x0 &&& (255 : Int32))), .val (.int (4 : Int32)), .val (.int (128 : Int32)), .val (.int (143 : Int32)), .unset, .unset]) rfl kq) ?_
            refine own_st (T' := T) (F' := (mkF m 140 #[.val (.ref a), .val (.int (1 : Int32)), .val (.int (x0 &&& (255 : Int32))), .val (.int (4 : Int32)), .val (.int (128 : Int32)), .val (.int (143 : Int32)), .unset, .unset] [])) (fun _ kq => XS.goto X.here hx rfl (pc0 := 135) (pc' := 140) rfl (hb hby d1_135) (by decide) (by decide) kq) ?_
            exact J140k4 (128 : Int32) (143 : Int32) T _ X eT N
          ·
            rw [if_neg hc127_116]
            refine own_st (T' := T) (F' := (mkF m 140 #[.val (.ref a), .val (.int (1 : Int32)), .val (.int (x0 &&& (255 : Int32))), .val (.int (4 : Int32)), .val (.int (128 : Int32)), .val (.int (191 : Int32)), .unset, .unset] [])) (fun _ kq => XS.icmpYes X.here hx rfl (pc0 := 127) (pc' := 140) rfl (hb hby d1_127) rfl (feq hc127_116).2 (by decide) (by decide) kq) ?_
            exact J140k4 (128 : Int32) (191 : Int32) T _ X eT N
  have J46 : ∀ (T : State) (locs : List Loc) (X : Stand p l e ({ frames := 0, cells := 0, slots := 0, locals := 0 } : Room) s m #[(.ref a), (.int (1 : Int32))] below meth c T locs 0 0) (eT : T.heap = h0) (N : Fr n0 locs), own_Ends p e below s 0 0 (own_PQ (.int (sl3_46 x0 x1 x2)) h0 n0) T (mkF m 46 #[.val (.ref a), .val (.int (1 : Int32)), .val (.int (x0 &&& (255 : Int32))), .unset, .val (.int (128 : Int32)), .val (.int (191 : Int32)), .unset, .unset] []) := by
    intro T locs X eT N
    unfold sl3_46
    refine own_st (T' := T) (F' := (mkF m 47 #[.val (.ref a), .val (.int (1 : Int32)), .val (.int (x0 &&& (255 : Int32))), .unset, .val (.int (128 : Int32)), .val (.int (191 : Int32)), .unset, .unset] [(.int (x0 &&& (255 : Int32)))])) (fun _ kq => XS.iloadN X.here hx rfl (hb hby d1_46) rfl kq) ?_
    refine own_st (T' := T) (F' := (mkF m 50 #[.val (.ref a), .val (.int (1 : Int32)), .val (.int (x0 &&& (255 : Int32))), .unset, .val (.int (128 : Int32)), .val (.int (191 : Int32)), .unset, .unset] [(.int (224 : Int32)), (.int (x0 &&& (255 : Int32)))])) (fun _ kq => XS.sipush X.here hx rfl (hb hby d1_47) kq) ?_
    by_cases hc50_117 : (x0 &&& (255 : Int32)) < (224 : Int32)
    ·
      rw [if_pos hc50_117]
      refine own_st (T' := T) (F' := (mkF m 92 #[.val (.ref a), .val (.int (1 : Int32)), .val (.int (x0 &&& (255 : Int32))), .unset, .val (.int (128 : Int32)), .val (.int (191 : Int32)), .unset, .unset] [])) (fun _ kq => XS.icmpYes X.here hx rfl (pc0 := 50) (pc' := 92) rfl (hb hby d1_50) rfl (tlt hc50_117).1 (by decide) (by decide) kq) ?_
      exact J92  T _ X eT N
    ·
      rw [if_neg hc50_117]
      refine own_st (T' := T) (F' := (mkF m 53 #[.val (.ref a), .val (.int (1 : Int32)), .val (.int (x0 &&& (255 : Int32))), .unset, .val (.int (128 : Int32)), .val (.int (191 : Int32)), .unset, .unset] [])) (fun _ kq => XS.icmpNo X.here hx rfl (hb hby d1_50) rfl (flt hc50_117).1 kq) ?_
      refine own_st (T' := T) (F' := (mkF m 54 #[.val (.ref a), .val (.int (1 : Int32)), .val (.int (x0 &&& (255 : Int32))), .unset, .val (.int (128 : Int32)), .val (.int (191 : Int32)), .unset, .unset] [(.int (x0 &&& (255 : Int32)))])) (fun _ kq => XS.iloadN X.here hx rfl (hb hby d1_53) rfl kq) ?_
      refine own_st (T' := T) (F' := (mkF m 57 #[.val (.ref a), .val (.int (1 : Int32)), .val (.int (x0 &&& (255 : Int32))), .unset, .val (.int (128 : Int32)), .val (.int (191 : Int32)), .unset, .unset] [(.int (239 : Int32)), (.int (x0 &&& (255 : Int32)))])) (fun _ kq => XS.sipush X.here hx rfl (hb hby d1_54) kq) ?_
      by_cases hc57_118 : (239 : Int32) < (x0 &&& (255 : Int32))
      ·
        rw [if_pos hc57_118]
        refine own_st (T' := T) (F' := (mkF m 92 #[.val (.ref a), .val (.int (1 : Int32)), .val (.int (x0 &&& (255 : Int32))), .unset, .val (.int (128 : Int32)), .val (.int (191 : Int32)), .unset, .unset] [])) (fun _ kq => XS.icmpYes X.here hx rfl (pc0 := 57) (pc' := 92) rfl (hb hby d1_57) rfl (tlt hc57_118).2.2.1 (by decide) (by decide) kq) ?_
        exact J92  T _ X eT N
      ·
        rw [if_neg hc57_118]
        refine own_st (T' := T) (F' := (mkF m 60 #[.val (.ref a), .val (.int (1 : Int32)), .val (.int (x0 &&& (255 : Int32))), .unset, .val (.int (128 : Int32)), .val (.int (191 : Int32)), .unset, .unset] [])) (fun _ kq => XS.icmpNo X.here hx rfl (hb hby d1_57) rfl (flt hc57_118).2.2.1 kq) ?_
        refine own_st (T' := T) (F' := (mkF m 61 #[.val (.ref a), .val (.int (1 : Int32)), .val (.int (x0 &&& (255 : Int32))), .unset, .val (.int (128 : Int32)), .val (.int (191 : Int32)), .unset, .unset] [(.int (3 : Int32))])) (fun _ kq => XS.iconst X.here hx rfl (hb hby d1_60) kq) ?_
        refine own_st (T' := T) (F' := (mkF m 62 #[.val (.ref a), .val (.int (1 : Int32)), .val (.int (x0 &&& (255 : Int32))), .val (.int (3 : Int32)), .val (.int (128 : Int32)), .val (.int (191 : Int32)), .unset, .unset] [])) (fun _ kq => XS.istoreN X.here hx rfl (hb hby d1_61) rfl (l' := #[.val (.ref a), .val (.int (1 : Int32)), .val (.int (x0 &&& (255 : Int32))), .val (.int (3 : Int32)), .val (.int (128 : Int32)), .val (.int (191 : Int32)), .unset, .unset]) rfl kq) ?_
        refine own_st (T' := T) (F' := (mkF m 63 #[.val (.ref a), .val (.int (1 : Int32)), .val (.int (x0 &&& (255 : Int32))), .val (.int (3 : Int32)), .val (.int (128 : Int32)), .val (.int (191 : Int32)), .unset, .unset] [(.int (x0 &&& (255 : Int32)))])) (fun _ kq => XS.iloadN X.here hx rfl (hb hby d1_62) rfl kq) ?_
        refine own_st (T' := T) (F' := (mkF m 66 #[.val (.ref a), .val (.int (1 : Int32)), .val (.int (x0 &&& (255 : Int32))), .val (.int (3 : Int32)), .val (.int (128 : Int32)), .val (.int (191 : Int32)), .unset, .unset] [(.int (224 : Int32)), (.int (x0 &&& (255 : Int32)))])) (fun _ kq => XS.sipush X.here hx rfl (hb hby d1_63) kq) ?_
        by_cases hc66_119 : (x0 &&& (255 : Int32)) = (224 : Int32)
        ·
          rw [if_pos hc66_119]
          refine own_st (T' := T) (F' := (mkF m 69 #[.val (.ref a), .val (.int (1 : Int32)), .val (.int (x0 &&& (255 : Int32))), .val (.int (3 : Int32)), .val (.int (128 : Int32)), .val (.int (191 : Int32)), .unset, .unset] [])) (fun _ kq => XS.icmpNo X.here hx rfl (hb hby d1_66) rfl (teq hc66_119).2 kq) ?_
          refine own_st (T' := T) (F' := (mkF m 72 #[.val (.ref a), .val (.int (1 : Int32)), .val (.int (x0 &&& (255 : Int32))), .val (.int (3 : Int32)), .val (.int (128 : Int32)), .val (.int (191 : Int32)), .unset, .unset] [(.int (160 : Int32))])) (fun _ kq => XS.sipush X.here hx rfl (hb hby d1_69) kq) ?_
          refine own_st (T' := T) (F' := (mkF m 74 #[.val (.ref a), .val (.int (1 : Int32)), .val (.int (x0 &&& (255 : Int32))), .val (.int (3 : Int32)), .val (.int (160 : Int32)), .val (.int (191 : Int32)), .unset, .unset] [])) (fun _ kq => XS.istore X.here hx rfl (hb hby d1_72) rfl (l' := #[.val (.ref a), .val (.int (1 : Int32)), .val (.int (x0 &&& (255 : Int32))), .val (.int (3 : Int32)), .val (.int (160 : Int32)), .val (.int (191 : Int32)), .unset, .unset]) rfl kq) ?_
          refine own_st (T' := T) (F' := (mkF m 140 #[.val (.ref a), .val (.int (1 : Int32)), .val (.int (x0 &&& (255 : Int32))), .val (.int (3 : Int32)), .val (.int (160 : Int32)), .val (.int (191 : Int32)), .unset, .unset] [])) (fun _ kq => XS.goto X.here hx rfl (pc0 := 74) (pc' := 140) rfl (hb hby d1_74) (by decide) (by decide) kq) ?_
          exact J140k3 (160 : Int32) (191 : Int32) T _ X eT N
        ·
          rw [if_neg hc66_119]
          refine own_st (T' := T) (F' := (mkF m 77 #[.val (.ref a), .val (.int (1 : Int32)), .val (.int (x0 &&& (255 : Int32))), .val (.int (3 : Int32)), .val (.int (128 : Int32)), .val (.int (191 : Int32)), .unset, .unset] [])) (fun _ kq => XS.icmpYes X.here hx rfl (pc0 := 66) (pc' := 77) rfl (hb hby d1_66) rfl (feq hc66_119).2 (by decide) (by decide) kq) ?_
          refine own_st (T' := T) (F' := (mkF m 78 #[.val (.ref a), .val (.int (1 : Int32)), .val (.int (x0 &&& (255 : Int32))), .val (.int (3 : Int32)), .val (.int (128 : Int32)), .val (.int (191 : Int32)), .unset, .unset] [(.int (x0 &&& (255 : Int32)))])) (fun _ kq => XS.iloadN X.here hx rfl (hb hby d1_77) rfl kq) ?_
          refine own_st (T' := T) (F' := (mkF m 81 #[.val (.ref a), .val (.int (1 : Int32)), .val (.int (x0 &&& (255 : Int32))), .val (.int (3 : Int32)), .val (.int (128 : Int32)), .val (.int (191 : Int32)), .unset, .unset] [(.int (237 : Int32)), (.int (x0 &&& (255 : Int32)))])) (fun _ kq => XS.sipush X.here hx rfl (hb hby d1_78) kq) ?_
          by_cases hc81_120 : (x0 &&& (255 : Int32)) = (237 : Int32)
          ·
            rw [if_pos hc81_120]
            refine own_st (T' := T) (F' := (mkF m 84 #[.val (.ref a), .val (.int (1 : Int32)), .val (.int (x0 &&& (255 : Int32))), .val (.int (3 : Int32)), .val (.int (128 : Int32)), .val (.int (191 : Int32)), .unset, .unset] [])) (fun _ kq => XS.icmpNo X.here hx rfl (hb hby d1_81) rfl (teq hc81_120).2 kq) ?_
            refine own_st (T' := T) (F' := (mkF m 87 #[.val (.ref a), .val (.int (1 : Int32)), .val (.int (x0 &&& (255 : Int32))), .val (.int (3 : Int32)), .val (.int (128 : Int32)), .val (.int (191 : Int32)), .unset, .unset] [(.int (159 : Int32))])) (fun _ kq => XS.sipush X.here hx rfl (hb hby d1_84) kq) ?_
            refine own_st (T' := T) (F' := (mkF m 89 #[.val (.ref a), .val (.int (1 : Int32)), .val (.int (x0 &&& (255 : Int32))), .val (.int (3 : Int32)), .val (.int (128 : Int32)), .val (.int (159 : Int32)), .unset, .unset] [])) (fun _ kq => XS.istore X.here hx rfl (hb hby d1_87) rfl (l' := #[.val (.ref a), .val (.int (1 : Int32)), .val (.int (x0 &&& (255 : Int32))), .val (.int (3 : Int32)), .val (.int (128 : Int32)), .val (.int (159 : Int32)), .unset, .unset]) rfl kq) ?_
            refine own_st (T' := T) (F' := (mkF m 140 #[.val (.ref a), .val (.int (1 : Int32)), .val (.int (x0 &&& (255 : Int32))), .val (.int (3 : Int32)), .val (.int (128 : Int32)), .val (.int (159 : Int32)), .unset, .unset] [])) (fun _ kq => XS.goto X.here hx rfl (pc0 := 89) (pc' := 140) rfl (hb hby d1_89) (by decide) (by decide) kq) ?_
            exact J140k3 (128 : Int32) (159 : Int32) T _ X eT N
          ·
            rw [if_neg hc81_120]
            refine own_st (T' := T) (F' := (mkF m 140 #[.val (.ref a), .val (.int (1 : Int32)), .val (.int (x0 &&& (255 : Int32))), .val (.int (3 : Int32)), .val (.int (128 : Int32)), .val (.int (191 : Int32)), .unset, .unset] [])) (fun _ kq => XS.icmpYes X.here hx rfl (pc0 := 81) (pc' := 140) rfl (hb hby d1_81) rfl (feq hc81_120).2 (by decide) (by decide) kq) ?_
            exact J140k3 (128 : Int32) (191 : Int32) T _ X eT N
  have N := Fr.nil n0
  refine own_entry (ef1 m a (1 : Int32)) ?_
  unfold sl3
  refine own_st (T' := T) (F' := (mkF m 1 #[.val (.ref a), .val (.int (1 : Int32)), .unset, .unset, .unset, .unset, .unset, .unset] [(.ref a)])) (fun _ kq => XS.aloadN X.here hx rfl (hb hby d1_0) rfl rfl kq) ?_
  refine own_st (T' := T) (F' := (mkF m 2 #[.val (.ref a), .val (.int (1 : Int32)), .unset, .unset, .unset, .unset, .unset, .unset] [(.int (1 : Int32)), (.ref a)])) (fun _ kq => XS.iloadN X.here hx rfl (hb hby d1_1) rfl kq) ?_
  refine own_st (T' := T) (F' := (mkF m 3 #[.val (.ref a), .val (.int (1 : Int32)), .unset, .unset, .unset, .unset, .unset, .unset] [(.int x0)])) (own_baload X hx hZ eT V (g := (mkF m 2 #[.val (.ref a), .val (.int (1 : Int32)), .unset, .unset, .unset, .unset, .unset, .unset] [(.int (1 : Int32)), (.ref a)])) rfl rfl (hb hby d1_2) (by decide) (Nat.le_of_ble_eq_true rfl) (w := x0) rfl) ?_
  refine own_st (T' := T) (F' := (mkF m 6 #[.val (.ref a), .val (.int (1 : Int32)), .unset, .unset, .unset, .unset, .unset, .unset] [(.int (255 : Int32)), (.int x0)])) (fun _ kq => XS.sipush X.here hx rfl (hb hby d1_3) kq) ?_
  refine own_st (T' := T) (F' := (mkF m 7 #[.val (.ref a), .val (.int (1 : Int32)), .unset, .unset, .unset, .unset, .unset, .unset] [(.int (x0 &&& (255 : Int32)))])) (fun _ kq => XS.iand X.here hx rfl (hb hby d1_6) rfl kq) ?_
  refine own_st (T' := T) (F' := (mkF m 8 #[.val (.ref a), .val (.int (1 : Int32)), .val (.int (x0 &&& (255 : Int32))), .unset, .unset, .unset, .unset, .unset] [])) (fun _ kq => XS.istoreN X.here hx rfl (hb hby d1_7) rfl (l' := #[.val (.ref a), .val (.int (1 : Int32)), .val (.int (x0 &&& (255 : Int32))), .unset, .unset, .unset, .unset, .unset]) rfl kq) ?_
  refine own_st (T' := T) (F' := (mkF m 9 #[.val (.ref a), .val (.int (1 : Int32)), .val (.int (x0 &&& (255 : Int32))), .unset, .unset, .unset, .unset, .unset] [(.int (x0 &&& (255 : Int32)))])) (fun _ kq => XS.iloadN X.here hx rfl (hb hby d1_8) rfl kq) ?_
  refine own_st (T' := T) (F' := (mkF m 12 #[.val (.ref a), .val (.int (1 : Int32)), .val (.int (x0 &&& (255 : Int32))), .unset, .unset, .unset, .unset, .unset] [(.int (128 : Int32)), (.int (x0 &&& (255 : Int32)))])) (fun _ kq => XS.sipush X.here hx rfl (hb hby d1_9) kq) ?_
  by_cases hc12_121 : (x0 &&& (255 : Int32)) < (128 : Int32)
  ·
    rw [if_pos hc12_121]
    refine own_st (T' := T) (F' := (mkF m 15 #[.val (.ref a), .val (.int (1 : Int32)), .val (.int (x0 &&& (255 : Int32))), .unset, .unset, .unset, .unset, .unset] [])) (fun _ kq => XS.icmpNo X.here hx rfl (hb hby d1_12) rfl (tlt hc12_121).2.1 kq) ?_
    refine own_st (T' := T) (F' := (mkF m 16 #[.val (.ref a), .val (.int (1 : Int32)), .val (.int (x0 &&& (255 : Int32))), .unset, .unset, .unset, .unset, .unset] [(.int (1 : Int32))])) (fun _ kq => XS.iconst X.here hx rfl (hb hby d1_15) kq) ?_
    exact own_retI X hx hlk hret (hb hby d1_16) (by decide) (by decide) (own_PQi rfl N eT)
  ·
    rw [if_neg hc12_121]
    refine own_st (T' := T) (F' := (mkF m 17 #[.val (.ref a), .val (.int (1 : Int32)), .val (.int (x0 &&& (255 : Int32))), .unset, .unset, .unset, .unset, .unset] [])) (fun _ kq => XS.icmpYes X.here hx rfl (pc0 := 12) (pc' := 17) rfl (hb hby d1_12) rfl (flt hc12_121).2.1 (by decide) (by decide) kq) ?_
    refine own_st (T' := T) (F' := (mkF m 20 #[.val (.ref a), .val (.int (1 : Int32)), .val (.int (x0 &&& (255 : Int32))), .unset, .unset, .unset, .unset, .unset] [(.int (128 : Int32))])) (fun _ kq => XS.sipush X.here hx rfl (hb hby d1_17) kq) ?_
    refine own_st (T' := T) (F' := (mkF m 22 #[.val (.ref a), .val (.int (1 : Int32)), .val (.int (x0 &&& (255 : Int32))), .unset, .val (.int (128 : Int32)), .unset, .unset, .unset] [])) (fun _ kq => XS.istore X.here hx rfl (hb hby d1_20) rfl (l' := #[.val (.ref a), .val (.int (1 : Int32)), .val (.int (x0 &&& (255 : Int32))), .unset, .val (.int (128 : Int32)), .unset, .unset, .unset]) rfl kq) ?_
    refine own_st (T' := T) (F' := (mkF m 25 #[.val (.ref a), .val (.int (1 : Int32)), .val (.int (x0 &&& (255 : Int32))), .unset, .val (.int (128 : Int32)), .unset, .unset, .unset] [(.int (191 : Int32))])) (fun _ kq => XS.sipush X.here hx rfl (hb hby d1_22) kq) ?_
    refine own_st (T' := T) (F' := (mkF m 27 #[.val (.ref a), .val (.int (1 : Int32)), .val (.int (x0 &&& (255 : Int32))), .unset, .val (.int (128 : Int32)), .val (.int (191 : Int32)), .unset, .unset] [])) (fun _ kq => XS.istore X.here hx rfl (hb hby d1_25) rfl (l' := #[.val (.ref a), .val (.int (1 : Int32)), .val (.int (x0 &&& (255 : Int32))), .unset, .val (.int (128 : Int32)), .val (.int (191 : Int32)), .unset, .unset]) rfl kq) ?_
    refine own_st (T' := T) (F' := (mkF m 28 #[.val (.ref a), .val (.int (1 : Int32)), .val (.int (x0 &&& (255 : Int32))), .unset, .val (.int (128 : Int32)), .val (.int (191 : Int32)), .unset, .unset] [(.int (x0 &&& (255 : Int32)))])) (fun _ kq => XS.iloadN X.here hx rfl (hb hby d1_27) rfl kq) ?_
    refine own_st (T' := T) (F' := (mkF m 31 #[.val (.ref a), .val (.int (1 : Int32)), .val (.int (x0 &&& (255 : Int32))), .unset, .val (.int (128 : Int32)), .val (.int (191 : Int32)), .unset, .unset] [(.int (194 : Int32)), (.int (x0 &&& (255 : Int32)))])) (fun _ kq => XS.sipush X.here hx rfl (hb hby d1_28) kq) ?_
    by_cases hc31_122 : (x0 &&& (255 : Int32)) < (194 : Int32)
    ·
      rw [if_pos hc31_122]
      refine own_st (T' := T) (F' := (mkF m 46 #[.val (.ref a), .val (.int (1 : Int32)), .val (.int (x0 &&& (255 : Int32))), .unset, .val (.int (128 : Int32)), .val (.int (191 : Int32)), .unset, .unset] [])) (fun _ kq => XS.icmpYes X.here hx rfl (pc0 := 31) (pc' := 46) rfl (hb hby d1_31) rfl (tlt hc31_122).1 (by decide) (by decide) kq) ?_
      exact J46  T _ X eT N
    ·
      rw [if_neg hc31_122]
      refine own_st (T' := T) (F' := (mkF m 34 #[.val (.ref a), .val (.int (1 : Int32)), .val (.int (x0 &&& (255 : Int32))), .unset, .val (.int (128 : Int32)), .val (.int (191 : Int32)), .unset, .unset] [])) (fun _ kq => XS.icmpNo X.here hx rfl (hb hby d1_31) rfl (flt hc31_122).1 kq) ?_
      refine own_st (T' := T) (F' := (mkF m 35 #[.val (.ref a), .val (.int (1 : Int32)), .val (.int (x0 &&& (255 : Int32))), .unset, .val (.int (128 : Int32)), .val (.int (191 : Int32)), .unset, .unset] [(.int (x0 &&& (255 : Int32)))])) (fun _ kq => XS.iloadN X.here hx rfl (hb hby d1_34) rfl kq) ?_
      refine own_st (T' := T) (F' := (mkF m 38 #[.val (.ref a), .val (.int (1 : Int32)), .val (.int (x0 &&& (255 : Int32))), .unset, .val (.int (128 : Int32)), .val (.int (191 : Int32)), .unset, .unset] [(.int (223 : Int32)), (.int (x0 &&& (255 : Int32)))])) (fun _ kq => XS.sipush X.here hx rfl (hb hby d1_35) kq) ?_
      by_cases hc38_123 : (223 : Int32) < (x0 &&& (255 : Int32))
      ·
        rw [if_pos hc38_123]
        refine own_st (T' := T) (F' := (mkF m 46 #[.val (.ref a), .val (.int (1 : Int32)), .val (.int (x0 &&& (255 : Int32))), .unset, .val (.int (128 : Int32)), .val (.int (191 : Int32)), .unset, .unset] [])) (fun _ kq => XS.icmpYes X.here hx rfl (pc0 := 38) (pc' := 46) rfl (hb hby d1_38) rfl (tlt hc38_123).2.2.1 (by decide) (by decide) kq) ?_
        exact J46  T _ X eT N
      ·
        rw [if_neg hc38_123]
        refine own_st (T' := T) (F' := (mkF m 41 #[.val (.ref a), .val (.int (1 : Int32)), .val (.int (x0 &&& (255 : Int32))), .unset, .val (.int (128 : Int32)), .val (.int (191 : Int32)), .unset, .unset] [])) (fun _ kq => XS.icmpNo X.here hx rfl (hb hby d1_38) rfl (flt hc38_123).2.2.1 kq) ?_
        refine own_st (T' := T) (F' := (mkF m 42 #[.val (.ref a), .val (.int (1 : Int32)), .val (.int (x0 &&& (255 : Int32))), .unset, .val (.int (128 : Int32)), .val (.int (191 : Int32)), .unset, .unset] [(.int (2 : Int32))])) (fun _ kq => XS.iconst X.here hx rfl (hb hby d1_41) kq) ?_
        refine own_st (T' := T) (F' := (mkF m 43 #[.val (.ref a), .val (.int (1 : Int32)), .val (.int (x0 &&& (255 : Int32))), .val (.int (2 : Int32)), .val (.int (128 : Int32)), .val (.int (191 : Int32)), .unset, .unset] [])) (fun _ kq => XS.istoreN X.here hx rfl (hb hby d1_42) rfl (l' := #[.val (.ref a), .val (.int (1 : Int32)), .val (.int (x0 &&& (255 : Int32))), .val (.int (2 : Int32)), .val (.int (128 : Int32)), .val (.int (191 : Int32)), .unset, .unset]) rfl kq) ?_
        refine own_st (T' := T) (F' := (mkF m 140 #[.val (.ref a), .val (.int (1 : Int32)), .val (.int (x0 &&& (255 : Int32))), .val (.int (2 : Int32)), .val (.int (128 : Int32)), .val (.int (191 : Int32)), .unset, .unset] [])) (fun _ kq => XS.goto X.here hx rfl (pc0 := 43) (pc' := 140) rfl (hb hby d1_43) (by decide) (by decide) kq) ?_
        exact J140k2  T _ X eT N
set_option maxRecDepth 65536 in
set_option maxHeartbeats 40000000 in
theorem rm1_1_4 (l : Launch) (Z : State) (a0 : Array Value) (hw : ∀ d ∈ tables_1, d.before a0 Z = true) (ws : List Jvm.Cond) (a : Addr) (w : Int32) (x0 : Int32) (x1 : Int32) (x2 : Int32) (x3 : Int32) (h0 : Heap) (n0 : Nat) (V : own_AI Z h0 a .byte (5 : Int32) [w, x0, x1, x2, x3]) :
    own_Met l Z (⟨"com/example/ogma/ogma/canon/Utf8", "sequenceLength", "([BI)I"⟩ : MethodName) prog_73_method_7_code 8 (some .int) ws ({ frames := 0, cells := 0, slots := 0, locals := 0 } : Room) #[(.ref a), (.int (1 : Int32))] h0 (own_PQ (.int (sl4 x0 x1 x2 x3)) h0 n0) := by
  refine own_body (plainFor_of_name pn1) ?_
  intro p e s m below meth c T X hx hby hml hret hlk hZ hown hnm eT
  have J140k4 : ∀ (y140k4_4 : Int32) (y140k4_5 : Int32) (T : State) (locs : List Loc) (X : Stand p l e ({ frames := 0, cells := 0, slots := 0, locals := 0 } : Room) s m #[(.ref a), (.int (1 : Int32))] below meth c T locs 0 0) (eT : T.heap = h0) (N : Fr n0 locs), own_Ends p e below s 0 0 (own_PQ (.int (sl4_140k4 x1 x2 x3 y140k4_4 y140k4_5)) h0 n0) T (mkF m 140 #[.val (.ref a), .val (.int (1 : Int32)), .val (.int (x0 &&& (255 : Int32))), .val (.int (4 : Int32)), .val (.int y140k4_4), .val (.int y140k4_5), .unset, .unset] []) := by
    intro y140k4_4 y140k4_5 T locs X eT N
    unfold sl4_140k4
    refine own_st (T' := T) (F' := (mkF m 141 #[.val (.ref a), .val (.int (1 : Int32)), .val (.int (x0 &&& (255 : Int32))), .val (.int (4 : Int32)), .val (.int y140k4_4), .val (.int y140k4_5), .unset, .unset] [(.ref a)])) (fun _ kq => XS.aloadN X.here hx rfl (hb hby d1_140) rfl rfl kq) ?_
    refine own_st (T' := T) (F' := (mkF m 142 #[.val (.ref a), .val (.int (1 : Int32)), .val (.int (x0 &&& (255 : Int32))), .val (.int (4 : Int32)), .val (.int y140k4_4), .val (.int y140k4_5), .unset, .unset] [(.int (5 : Int32))])) (own_lenI X hx hZ eT V (g := (mkF m 141 #[.val (.ref a), .val (.int (1 : Int32)), .val (.int (x0 &&& (255 : Int32))), .val (.int (4 : Int32)), .val (.int y140k4_4), .val (.int y140k4_5), .unset, .unset] [(.ref a)])) rfl rfl (hb hby d1_141)) ?_
    refine own_st (T' := T) (F' := (mkF m 143 #[.val (.ref a), .val (.int (1 : Int32)), .val (.int (x0 &&& (255 : Int32))), .val (.int (4 : Int32)), .val (.int y140k4_4), .val (.int y140k4_5), .unset, .unset] [(.int (1 : Int32)), (.int (5 : Int32))])) (fun _ kq => XS.iloadN X.here hx rfl (hb hby d1_142) rfl kq) ?_
    refine own_st (T' := T) (F' := (mkF m 144 #[.val (.ref a), .val (.int (1 : Int32)), .val (.int (x0 &&& (255 : Int32))), .val (.int (4 : Int32)), .val (.int y140k4_4), .val (.int y140k4_5), .unset, .unset] [(.int (4 : Int32))])) (fun _ kq => XS.isub X.here hx rfl (hb hby d1_143) rfl kq) ?_
    refine own_st (T' := T) (F' := (mkF m 145 #[.val (.ref a), .val (.int (1 : Int32)), .val (.int (x0 &&& (255 : Int32))), .val (.int (4 : Int32)), .val (.int y140k4_4), .val (.int y140k4_5), .unset, .unset] [(.int (4 : Int32)), (.int (4 : Int32))])) (fun _ kq => XS.iloadN X.here hx rfl (hb hby d1_144) rfl kq) ?_
    refine own_st (T' := T) (F' := (mkF m 150 #[.val (.ref a), .val (.int (1 : Int32)), .val (.int (x0 &&& (255 : Int32))), .val (.int (4 : Int32)), .val (.int y140k4_4), .val (.int y140k4_5), .unset, .unset] [])) (fun _ kq => XS.icmpYes X.here hx rfl (pc0 := 145) (pc' := 150) rfl (hb hby d1_145) rfl (flt (by decide : ¬ ((4 : Int32) < (4 : Int32)))).2.1 (by decide) (by decide) kq) ?_
    refine own_st (T' := T) (F' := (mkF m 151 #[.val (.ref a), .val (.int (1 : Int32)), .val (.int (x0 &&& (255 : Int32))), .val (.int (4 : Int32)), .val (.int y140k4_4), .val (.int y140k4_5), .unset, .unset] [(.ref a)])) (fun _ kq => XS.aloadN X.here hx rfl (hb hby d1_150) rfl rfl kq) ?_
    refine own_st (T' := T) (F' := (mkF m 152 #[.val (.ref a), .val (.int (1 : Int32)), .val (.int (x0 &&& (255 : Int32))), .val (.int (4 : Int32)), .val (.int y140k4_4), .val (.int y140k4_5), .unset, .unset] [(.int (1 : Int32)), (.ref a)])) (fun _ kq => XS.iloadN X.here hx rfl (hb hby d1_151) rfl kq) ?_
    refine own_st (T' := T) (F' := (mkF m 153 #[.val (.ref a), .val (.int (1 : Int32)), .val (.int (x0 &&& (255 : Int32))), .val (.int (4 : Int32)), .val (.int y140k4_4), .val (.int y140k4_5), .unset, .unset] [(.int (1 : Int32)), (.int (1 : Int32)), (.ref a)])) (fun _ kq => XS.iconst X.here hx rfl (hb hby d1_152) kq) ?_
    refine own_st (T' := T) (F' := (mkF m 154 #[.val (.ref a), .val (.int (1 : Int32)), .val (.int (x0 &&& (255 : Int32))), .val (.int (4 : Int32)), .val (.int y140k4_4), .val (.int y140k4_5), .unset, .unset] [(.int (2 : Int32)), (.ref a)])) (fun _ kq => XS.iadd X.here hx rfl (hb hby d1_153) rfl kq) ?_
    refine own_st (T' := T) (F' := (mkF m 155 #[.val (.ref a), .val (.int (1 : Int32)), .val (.int (x0 &&& (255 : Int32))), .val (.int (4 : Int32)), .val (.int y140k4_4), .val (.int y140k4_5), .unset, .unset] [(.int x1)])) (own_baload X hx hZ eT V (g := (mkF m 154 #[.val (.ref a), .val (.int (1 : Int32)), .val (.int (x0 &&& (255 : Int32))), .val (.int (4 : Int32)), .val (.int y140k4_4), .val (.int y140k4_5), .unset, .unset] [(.int (2 : Int32)), (.ref a)])) rfl rfl (hb hby d1_154) (by decide) (Nat.le_of_ble_eq_true rfl) (w := x1) rfl) ?_
    refine own_st (T' := T) (F' := (mkF m 158 #[.val (.ref a), .val (.int (1 : Int32)), .val (.int (x0 &&& (255 : Int32))), .val (.int (4 : Int32)), .val (.int y140k4_4), .val (.int y140k4_5), .unset, .unset] [(.int (255 : Int32)), (.int x1)])) (fun _ kq => XS.sipush X.here hx rfl (hb hby d1_155) kq) ?_
    refine own_st (T' := T) (F' := (mkF m 159 #[.val (.ref a), .val (.int (1 : Int32)), .val (.int (x0 &&& (255 : Int32))), .val (.int (4 : Int32)), .val (.int y140k4_4), .val (.int y140k4_5), .unset, .unset] [(.int (x1 &&& (255 : Int32)))])) (fun _ kq => XS.iand X.here hx rfl (hb hby d1_158) rfl kq) ?_
    refine own_st (T' := T) (F' := (mkF m 161 #[.val (.ref a), .val (.int (1 : Int32)), .val (.int (x0 &&& (255 : Int32))), .val (.int (4 : Int32)), .val (.int y140k4_4), .val (.int y140k4_5), .val (.int (x1 &&& (255 : Int32))), .unset] [])) (fun _ kq => XS.istore X.here hx rfl (hb hby d1_159) rfl (l' := #[.val (.ref a), .val (.int (1 : Int32)), .val (.int (x0 &&& (255 : Int32))), .val (.int (4 : Int32)), .val (.int y140k4_4), .val (.int y140k4_5), .val (.int (x1 &&& (255 : Int32))), .unset]) rfl kq) ?_
    refine own_st (T' := T) (F' := (mkF m 163 #[.val (.ref a), .val (.int (1 : Int32)), .val (.int (x0 &&& (255 : Int32))), .val (.int (4 : Int32)), .val (.int y140k4_4), .val (.int y140k4_5), .val (.int (x1 &&& (255 : Int32))), .unset] [(.int (x1 &&& (255 : Int32)))])) (fun _ kq => XS.iload X.here hx rfl (hb hby d1_161) rfl kq) ?_
    refine own_st (T' := T) (F' := (mkF m 165 #[.val (.ref a), .val (.int (1 : Int32)), .val (.int (x0 &&& (255 : Int32))), .val (.int (4 : Int32)), .val (.int y140k4_4), .val (.int y140k4_5), .val (.int (x1 &&& (255 : Int32))), .unset] [(.int y140k4_4), (.int (x1 &&& (255 : Int32)))])) (fun _ kq => XS.iload X.here hx rfl (hb hby d1_163) rfl kq) ?_
    by_cases hc165_124 : (x1 &&& (255 : Int32)) < y140k4_4
    ·
      rw [if_pos hc165_124]
      refine own_st (T' := T) (F' := (mkF m 175 #[.val (.ref a), .val (.int (1 : Int32)), .val (.int (x0 &&& (255 : Int32))), .val (.int (4 : Int32)), .val (.int y140k4_4), .val (.int y140k4_5), .val (.int (x1 &&& (255 : Int32))), .unset] [])) (fun _ kq => XS.icmpYes X.here hx rfl (pc0 := 165) (pc' := 175) rfl (hb hby d1_165) rfl (tlt hc165_124).1 (by decide) (by decide) kq) ?_
      refine own_st (T' := T) (F' := (mkF m 176 #[.val (.ref a), .val (.int (1 : Int32)), .val (.int (x0 &&& (255 : Int32))), .val (.int (4 : Int32)), .val (.int y140k4_4), .val (.int y140k4_5), .val (.int (x1 &&& (255 : Int32))), .unset] [(.int (0 : Int32))])) (fun _ kq => XS.iconst X.here hx rfl (hb hby d1_175) kq) ?_
      exact own_retI X hx hlk hret (hb hby d1_176) (by decide) (by decide) (own_PQi rfl N eT)
    ·
      rw [if_neg hc165_124]
      refine own_st (T' := T) (F' := (mkF m 168 #[.val (.ref a), .val (.int (1 : Int32)), .val (.int (x0 &&& (255 : Int32))), .val (.int (4 : Int32)), .val (.int y140k4_4), .val (.int y140k4_5), .val (.int (x1 &&& (255 : Int32))), .unset] [])) (fun _ kq => XS.icmpNo X.here hx rfl (hb hby d1_165) rfl (flt hc165_124).1 kq) ?_
      refine own_st (T' := T) (F' := (mkF m 170 #[.val (.ref a), .val (.int (1 : Int32)), .val (.int (x0 &&& (255 : Int32))), .val (.int (4 : Int32)), .val (.int y140k4_4), .val (.int y140k4_5), .val (.int (x1 &&& (255 : Int32))), .unset] [(.int (x1 &&& (255 : Int32)))])) (fun _ kq => XS.iload X.here hx rfl (hb hby d1_168) rfl kq) ?_
      refine own_st (T' := T) (F' := (mkF m 172 #[.val (.ref a), .val (.int (1 : Int32)), .val (.int (x0 &&& (255 : Int32))), .val (.int (4 : Int32)), .val (.int y140k4_4), .val (.int y140k4_5), .val (.int (x1 &&& (255 : Int32))), .unset] [(.int y140k4_5), (.int (x1 &&& (255 : Int32)))])) (fun _ kq => XS.iload X.here hx rfl (hb hby d1_170) rfl kq) ?_
      by_cases hc172_125 : y140k4_5 < (x1 &&& (255 : Int32))
      ·
        rw [if_pos hc172_125]
        refine own_st (T' := T) (F' := (mkF m 175 #[.val (.ref a), .val (.int (1 : Int32)), .val (.int (x0 &&& (255 : Int32))), .val (.int (4 : Int32)), .val (.int y140k4_4), .val (.int y140k4_5), .val (.int (x1 &&& (255 : Int32))), .unset] [])) (fun _ kq => XS.icmpNo X.here hx rfl (hb hby d1_172) rfl (tlt hc172_125).2.2.2 kq) ?_
        refine own_st (T' := T) (F' := (mkF m 176 #[.val (.ref a), .val (.int (1 : Int32)), .val (.int (x0 &&& (255 : Int32))), .val (.int (4 : Int32)), .val (.int y140k4_4), .val (.int y140k4_5), .val (.int (x1 &&& (255 : Int32))), .unset] [(.int (0 : Int32))])) (fun _ kq => XS.iconst X.here hx rfl (hb hby d1_175) kq) ?_
        exact own_retI X hx hlk hret (hb hby d1_176) (by decide) (by decide) (own_PQi rfl N eT)
      ·
        rw [if_neg hc172_125]
        refine own_st (T' := T) (F' := (mkF m 177 #[.val (.ref a), .val (.int (1 : Int32)), .val (.int (x0 &&& (255 : Int32))), .val (.int (4 : Int32)), .val (.int y140k4_4), .val (.int y140k4_5), .val (.int (x1 &&& (255 : Int32))), .unset] [])) (fun _ kq => XS.icmpYes X.here hx rfl (pc0 := 172) (pc' := 177) rfl (hb hby d1_172) rfl (flt hc172_125).2.2.2 (by decide) (by decide) kq) ?_
        refine own_st (T' := T) (F' := (mkF m 178 #[.val (.ref a), .val (.int (1 : Int32)), .val (.int (x0 &&& (255 : Int32))), .val (.int (4 : Int32)), .val (.int y140k4_4), .val (.int y140k4_5), .val (.int (x1 &&& (255 : Int32))), .unset] [(.int (2 : Int32))])) (fun _ kq => XS.iconst X.here hx rfl (hb hby d1_177) kq) ?_
        refine own_st (T' := T) (F' := (mkF m 180 #[.val (.ref a), .val (.int (1 : Int32)), .val (.int (x0 &&& (255 : Int32))), .val (.int (4 : Int32)), .val (.int y140k4_4), .val (.int y140k4_5), .val (.int (x1 &&& (255 : Int32))), .val (.int (2 : Int32))] [])) (fun _ kq => XS.istore X.here hx rfl (hb hby d1_178) rfl (l' := #[.val (.ref a), .val (.int (1 : Int32)), .val (.int (x0 &&& (255 : Int32))), .val (.int (4 : Int32)), .val (.int y140k4_4), .val (.int y140k4_5), .val (.int (x1 &&& (255 : Int32))), .val (.int (2 : Int32))]) rfl kq) ?_
        refine own_st (T' := T) (F' := (mkF m 182 #[.val (.ref a), .val (.int (1 : Int32)), .val (.int (x0 &&& (255 : Int32))), .val (.int (4 : Int32)), .val (.int y140k4_4), .val (.int y140k4_5), .val (.int (x1 &&& (255 : Int32))), .val (.int (2 : Int32))] [(.int (2 : Int32))])) (fun _ kq => XS.iload X.here hx rfl (hb hby d1_180) rfl kq) ?_
        refine own_st (T' := T) (F' := (mkF m 183 #[.val (.ref a), .val (.int (1 : Int32)), .val (.int (x0 &&& (255 : Int32))), .val (.int (4 : Int32)), .val (.int y140k4_4), .val (.int y140k4_5), .val (.int (x1 &&& (255 : Int32))), .val (.int (2 : Int32))] [(.int (4 : Int32)), (.int (2 : Int32))])) (fun _ kq => XS.iloadN X.here hx rfl (hb hby d1_182) rfl kq) ?_
        refine own_st (T' := T) (F' := (mkF m 186 #[.val (.ref a), .val (.int (1 : Int32)), .val (.int (x0 &&& (255 : Int32))), .val (.int (4 : Int32)), .val (.int y140k4_4), .val (.int y140k4_5), .val (.int (x1 &&& (255 : Int32))), .val (.int (2 : Int32))] [])) (fun _ kq => XS.icmpNo X.here hx rfl (hb hby d1_183) rfl (tlt (by decide : (2 : Int32) < (4 : Int32))).2.1 kq) ?_
        refine own_st (T' := T) (F' := (mkF m 187 #[.val (.ref a), .val (.int (1 : Int32)), .val (.int (x0 &&& (255 : Int32))), .val (.int (4 : Int32)), .val (.int y140k4_4), .val (.int y140k4_5), .val (.int (x1 &&& (255 : Int32))), .val (.int (2 : Int32))] [(.ref a)])) (fun _ kq => XS.aloadN X.here hx rfl (hb hby d1_186) rfl rfl kq) ?_
        refine own_st (T' := T) (F' := (mkF m 188 #[.val (.ref a), .val (.int (1 : Int32)), .val (.int (x0 &&& (255 : Int32))), .val (.int (4 : Int32)), .val (.int y140k4_4), .val (.int y140k4_5), .val (.int (x1 &&& (255 : Int32))), .val (.int (2 : Int32))] [(.int (1 : Int32)), (.ref a)])) (fun _ kq => XS.iloadN X.here hx rfl (hb hby d1_187) rfl kq) ?_
        refine own_st (T' := T) (F' := (mkF m 190 #[.val (.ref a), .val (.int (1 : Int32)), .val (.int (x0 &&& (255 : Int32))), .val (.int (4 : Int32)), .val (.int y140k4_4), .val (.int y140k4_5), .val (.int (x1 &&& (255 : Int32))), .val (.int (2 : Int32))] [(.int (2 : Int32)), (.int (1 : Int32)), (.ref a)])) (fun _ kq => XS.iload X.here hx rfl (hb hby d1_188) rfl kq) ?_
        refine own_st (T' := T) (F' := (mkF m 191 #[.val (.ref a), .val (.int (1 : Int32)), .val (.int (x0 &&& (255 : Int32))), .val (.int (4 : Int32)), .val (.int y140k4_4), .val (.int y140k4_5), .val (.int (x1 &&& (255 : Int32))), .val (.int (2 : Int32))] [(.int (3 : Int32)), (.ref a)])) (fun _ kq => XS.iadd X.here hx rfl (hb hby d1_190) rfl kq) ?_
        refine own_st (T' := T) (F' := (mkF m 192 #[.val (.ref a), .val (.int (1 : Int32)), .val (.int (x0 &&& (255 : Int32))), .val (.int (4 : Int32)), .val (.int y140k4_4), .val (.int y140k4_5), .val (.int (x1 &&& (255 : Int32))), .val (.int (2 : Int32))] [(.int x2)])) (own_baload X hx hZ eT V (g := (mkF m 191 #[.val (.ref a), .val (.int (1 : Int32)), .val (.int (x0 &&& (255 : Int32))), .val (.int (4 : Int32)), .val (.int y140k4_4), .val (.int y140k4_5), .val (.int (x1 &&& (255 : Int32))), .val (.int (2 : Int32))] [(.int (3 : Int32)), (.ref a)])) rfl rfl (hb hby d1_191) (by decide) (Nat.le_of_ble_eq_true rfl) (w := x2) rfl) ?_
        refine own_st (T' := T) (F' := (mkF m 195 #[.val (.ref a), .val (.int (1 : Int32)), .val (.int (x0 &&& (255 : Int32))), .val (.int (4 : Int32)), .val (.int y140k4_4), .val (.int y140k4_5), .val (.int (x1 &&& (255 : Int32))), .val (.int (2 : Int32))] [(.int (192 : Int32)), (.int x2)])) (fun _ kq => XS.sipush X.here hx rfl (hb hby d1_192) kq) ?_
        refine own_st (T' := T) (F' := (mkF m 196 #[.val (.ref a), .val (.int (1 : Int32)), .val (.int (x0 &&& (255 : Int32))), .val (.int (4 : Int32)), .val (.int y140k4_4), .val (.int y140k4_5), .val (.int (x1 &&& (255 : Int32))), .val (.int (2 : Int32))] [(.int (x2 &&& (192 : Int32)))])) (fun _ kq => XS.iand X.here hx rfl (hb hby d1_195) rfl kq) ?_
        refine own_st (T' := T) (F' := (mkF m 199 #[.val (.ref a), .val (.int (1 : Int32)), .val (.int (x0 &&& (255 : Int32))), .val (.int (4 : Int32)), .val (.int y140k4_4), .val (.int y140k4_5), .val (.int (x1 &&& (255 : Int32))), .val (.int (2 : Int32))] [(.int (128 : Int32)), (.int (x2 &&& (192 : Int32)))])) (fun _ kq => XS.sipush X.here hx rfl (hb hby d1_196) kq) ?_
        by_cases hc199_126 : (x2 &&& (192 : Int32)) = (128 : Int32)
        ·
          rw [if_pos hc199_126]
          refine own_st (T' := T) (F' := (mkF m 204 #[.val (.ref a), .val (.int (1 : Int32)), .val (.int (x0 &&& (255 : Int32))), .val (.int (4 : Int32)), .val (.int y140k4_4), .val (.int y140k4_5), .val (.int (x1 &&& (255 : Int32))), .val (.int (2 : Int32))] [])) (fun _ kq => XS.icmpYes X.here hx rfl (pc0 := 199) (pc' := 204) rfl (hb hby d1_199) rfl (teq hc199_126).1 (by decide) (by decide) kq) ?_
          refine own_st (T' := T) (F' := (mkF m 207 #[.val (.ref a), .val (.int (1 : Int32)), .val (.int (x0 &&& (255 : Int32))), .val (.int (4 : Int32)), .val (.int y140k4_4), .val (.int y140k4_5), .val (.int (x1 &&& (255 : Int32))), .val (.int (3 : Int32))] [])) (fun _ kq => XS.iinc X.here hx rfl (hb hby d1_204) rfl (l' := #[.val (.ref a), .val (.int (1 : Int32)), .val (.int (x0 &&& (255 : Int32))), .val (.int (4 : Int32)), .val (.int y140k4_4), .val (.int y140k4_5), .val (.int (x1 &&& (255 : Int32))), .val (.int (3 : Int32))]) rfl kq) ?_
          refine own_st (T' := T) (F' := (mkF m 180 #[.val (.ref a), .val (.int (1 : Int32)), .val (.int (x0 &&& (255 : Int32))), .val (.int (4 : Int32)), .val (.int y140k4_4), .val (.int y140k4_5), .val (.int (x1 &&& (255 : Int32))), .val (.int (3 : Int32))] [])) (fun _ kq => XS.goto X.here hx rfl (pc0 := 207) (pc' := 180) rfl (hb hby d1_207) (by decide) (by decide) kq) ?_
          refine own_st (T' := T) (F' := (mkF m 182 #[.val (.ref a), .val (.int (1 : Int32)), .val (.int (x0 &&& (255 : Int32))), .val (.int (4 : Int32)), .val (.int y140k4_4), .val (.int y140k4_5), .val (.int (x1 &&& (255 : Int32))), .val (.int (3 : Int32))] [(.int (3 : Int32))])) (fun _ kq => XS.iload X.here hx rfl (hb hby d1_180) rfl kq) ?_
          refine own_st (T' := T) (F' := (mkF m 183 #[.val (.ref a), .val (.int (1 : Int32)), .val (.int (x0 &&& (255 : Int32))), .val (.int (4 : Int32)), .val (.int y140k4_4), .val (.int y140k4_5), .val (.int (x1 &&& (255 : Int32))), .val (.int (3 : Int32))] [(.int (4 : Int32)), (.int (3 : Int32))])) (fun _ kq => XS.iloadN X.here hx rfl (hb hby d1_182) rfl kq) ?_
          refine own_st (T' := T) (F' := (mkF m 186 #[.val (.ref a), .val (.int (1 : Int32)), .val (.int (x0 &&& (255 : Int32))), .val (.int (4 : Int32)), .val (.int y140k4_4), .val (.int y140k4_5), .val (.int (x1 &&& (255 : Int32))), .val (.int (3 : Int32))] [])) (fun _ kq => XS.icmpNo X.here hx rfl (hb hby d1_183) rfl (tlt (by decide : (3 : Int32) < (4 : Int32))).2.1 kq) ?_
          refine own_st (T' := T) (F' := (mkF m 187 #[.val (.ref a), .val (.int (1 : Int32)), .val (.int (x0 &&& (255 : Int32))), .val (.int (4 : Int32)), .val (.int y140k4_4), .val (.int y140k4_5), .val (.int (x1 &&& (255 : Int32))), .val (.int (3 : Int32))] [(.ref a)])) (fun _ kq => XS.aloadN X.here hx rfl (hb hby d1_186) rfl rfl kq) ?_
          refine own_st (T' := T) (F' := (mkF m 188 #[.val (.ref a), .val (.int (1 : Int32)), .val (.int (x0 &&& (255 : Int32))), .val (.int (4 : Int32)), .val (.int y140k4_4), .val (.int y140k4_5), .val (.int (x1 &&& (255 : Int32))), .val (.int (3 : Int32))] [(.int (1 : Int32)), (.ref a)])) (fun _ kq => XS.iloadN X.here hx rfl (hb hby d1_187) rfl kq) ?_
          refine own_st (T' := T) (F' := (mkF m 190 #[.val (.ref a), .val (.int (1 : Int32)), .val (.int (x0 &&& (255 : Int32))), .val (.int (4 : Int32)), .val (.int y140k4_4), .val (.int y140k4_5), .val (.int (x1 &&& (255 : Int32))), .val (.int (3 : Int32))] [(.int (3 : Int32)), (.int (1 : Int32)), (.ref a)])) (fun _ kq => XS.iload X.here hx rfl (hb hby d1_188) rfl kq) ?_
          refine own_st (T' := T) (F' := (mkF m 191 #[.val (.ref a), .val (.int (1 : Int32)), .val (.int (x0 &&& (255 : Int32))), .val (.int (4 : Int32)), .val (.int y140k4_4), .val (.int y140k4_5), .val (.int (x1 &&& (255 : Int32))), .val (.int (3 : Int32))] [(.int (4 : Int32)), (.ref a)])) (fun _ kq => XS.iadd X.here hx rfl (hb hby d1_190) rfl kq) ?_
          refine own_st (T' := T) (F' := (mkF m 192 #[.val (.ref a), .val (.int (1 : Int32)), .val (.int (x0 &&& (255 : Int32))), .val (.int (4 : Int32)), .val (.int y140k4_4), .val (.int y140k4_5), .val (.int (x1 &&& (255 : Int32))), .val (.int (3 : Int32))] [(.int x3)])) (own_baload X hx hZ eT V (g := (mkF m 191 #[.val (.ref a), .val (.int (1 : Int32)), .val (.int (x0 &&& (255 : Int32))), .val (.int (4 : Int32)), .val (.int y140k4_4), .val (.int y140k4_5), .val (.int (x1 &&& (255 : Int32))), .val (.int (3 : Int32))] [(.int (4 : Int32)), (.ref a)])) rfl rfl (hb hby d1_191) (by decide) (Nat.le_of_ble_eq_true rfl) (w := x3) rfl) ?_
          refine own_st (T' := T) (F' := (mkF m 195 #[.val (.ref a), .val (.int (1 : Int32)), .val (.int (x0 &&& (255 : Int32))), .val (.int (4 : Int32)), .val (.int y140k4_4), .val (.int y140k4_5), .val (.int (x1 &&& (255 : Int32))), .val (.int (3 : Int32))] [(.int (192 : Int32)), (.int x3)])) (fun _ kq => XS.sipush X.here hx rfl (hb hby d1_192) kq) ?_
          refine own_st (T' := T) (F' := (mkF m 196 #[.val (.ref a), .val (.int (1 : Int32)), .val (.int (x0 &&& (255 : Int32))), .val (.int (4 : Int32)), .val (.int y140k4_4), .val (.int y140k4_5), .val (.int (x1 &&& (255 : Int32))), .val (.int (3 : Int32))] [(.int (x3 &&& (192 : Int32)))])) (fun _ kq => XS.iand X.here hx rfl (hb hby d1_195) rfl kq) ?_
          refine own_st (T' := T) (F' := (mkF m 199 #[.val (.ref a), .val (.int (1 : Int32)), .val (.int (x0 &&& (255 : Int32))), .val (.int (4 : Int32)), .val (.int y140k4_4), .val (.int y140k4_5), .val (.int (x1 &&& (255 : Int32))), .val (.int (3 : Int32))] [(.int (128 : Int32)), (.int (x3 &&& (192 : Int32)))])) (fun _ kq => XS.sipush X.here hx rfl (hb hby d1_196) kq) ?_
          by_cases hc199_127 : (x3 &&& (192 : Int32)) = (128 : Int32)
          ·
            rw [if_pos hc199_127]
            refine own_st (T' := T) (F' := (mkF m 204 #[.val (.ref a), .val (.int (1 : Int32)), .val (.int (x0 &&& (255 : Int32))), .val (.int (4 : Int32)), .val (.int y140k4_4), .val (.int y140k4_5), .val (.int (x1 &&& (255 : Int32))), .val (.int (3 : Int32))] [])) (fun _ kq => XS.icmpYes X.here hx rfl (pc0 := 199) (pc' := 204) rfl (hb hby d1_199) rfl (teq hc199_127).1 (by decide) (by decide) kq) ?_
            refine own_st (T' := T) (F' := (mkF m 207 #[.val (.ref a), .val (.int (1 : Int32)), .val (.int (x0 &&& (255 : Int32))), .val (.int (4 : Int32)), .val (.int y140k4_4), .val (.int y140k4_5), .val (.int (x1 &&& (255 : Int32))), .val (.int (4 : Int32))] [])) (fun _ kq => XS.iinc X.here hx rfl (hb hby d1_204) rfl (l' := #[.val (.ref a), .val (.int (1 : Int32)), .val (.int (x0 &&& (255 : Int32))), .val (.int (4 : Int32)), .val (.int y140k4_4), .val (.int y140k4_5), .val (.int (x1 &&& (255 : Int32))), .val (.int (4 : Int32))]) rfl kq) ?_
            refine own_st (T' := T) (F' := (mkF m 180 #[.val (.ref a), .val (.int (1 : Int32)), .val (.int (x0 &&& (255 : Int32))), .val (.int (4 : Int32)), .val (.int y140k4_4), .val (.int y140k4_5), .val (.int (x1 &&& (255 : Int32))), .val (.int (4 : Int32))] [])) (fun _ kq => XS.goto X.here hx rfl (pc0 := 207) (pc' := 180) rfl (hb hby d1_207) (by decide) (by decide) kq) ?_
            refine own_st (T' := T) (F' := (mkF m 182 #[.val (.ref a), .val (.int (1 : Int32)), .val (.int (x0 &&& (255 : Int32))), .val (.int (4 : Int32)), .val (.int y140k4_4), .val (.int y140k4_5), .val (.int (x1 &&& (255 : Int32))), .val (.int (4 : Int32))] [(.int (4 : Int32))])) (fun _ kq => XS.iload X.here hx rfl (hb hby d1_180) rfl kq) ?_
            refine own_st (T' := T) (F' := (mkF m 183 #[.val (.ref a), .val (.int (1 : Int32)), .val (.int (x0 &&& (255 : Int32))), .val (.int (4 : Int32)), .val (.int y140k4_4), .val (.int y140k4_5), .val (.int (x1 &&& (255 : Int32))), .val (.int (4 : Int32))] [(.int (4 : Int32)), (.int (4 : Int32))])) (fun _ kq => XS.iloadN X.here hx rfl (hb hby d1_182) rfl kq) ?_
            refine own_st (T' := T) (F' := (mkF m 210 #[.val (.ref a), .val (.int (1 : Int32)), .val (.int (x0 &&& (255 : Int32))), .val (.int (4 : Int32)), .val (.int y140k4_4), .val (.int y140k4_5), .val (.int (x1 &&& (255 : Int32))), .val (.int (4 : Int32))] [])) (fun _ kq => XS.icmpYes X.here hx rfl (pc0 := 183) (pc' := 210) rfl (hb hby d1_183) rfl (flt (by decide : ¬ ((4 : Int32) < (4 : Int32)))).2.1 (by decide) (by decide) kq) ?_
            refine own_st (T' := T) (F' := (mkF m 211 #[.val (.ref a), .val (.int (1 : Int32)), .val (.int (x0 &&& (255 : Int32))), .val (.int (4 : Int32)), .val (.int y140k4_4), .val (.int y140k4_5), .val (.int (x1 &&& (255 : Int32))), .val (.int (4 : Int32))] [(.int (4 : Int32))])) (fun _ kq => XS.iloadN X.here hx rfl (hb hby d1_210) rfl kq) ?_
            exact own_retI X hx hlk hret (hb hby d1_211) (by decide) (by decide) (own_PQi rfl N eT)
          ·
            rw [if_neg hc199_127]
            refine own_st (T' := T) (F' := (mkF m 202 #[.val (.ref a), .val (.int (1 : Int32)), .val (.int (x0 &&& (255 : Int32))), .val (.int (4 : Int32)), .val (.int y140k4_4), .val (.int y140k4_5), .val (.int (x1 &&& (255 : Int32))), .val (.int (3 : Int32))] [])) (fun _ kq => XS.icmpNo X.here hx rfl (hb hby d1_199) rfl (feq hc199_127).1 kq) ?_
            refine own_st (T' := T) (F' := (mkF m 203 #[.val (.ref a), .val (.int (1 : Int32)), .val (.int (x0 &&& (255 : Int32))), .val (.int (4 : Int32)), .val (.int y140k4_4), .val (.int y140k4_5), .val (.int (x1 &&& (255 : Int32))), .val (.int (3 : Int32))] [(.int (0 : Int32))])) (fun _ kq => XS.iconst X.here hx rfl (hb hby d1_202) kq) ?_
            exact own_retI X hx hlk hret (hb hby d1_203) (by decide) (by decide) (own_PQi rfl N eT)
        ·
          rw [if_neg hc199_126]
          refine own_st (T' := T) (F' := (mkF m 202 #[.val (.ref a), .val (.int (1 : Int32)), .val (.int (x0 &&& (255 : Int32))), .val (.int (4 : Int32)), .val (.int y140k4_4), .val (.int y140k4_5), .val (.int (x1 &&& (255 : Int32))), .val (.int (2 : Int32))] [])) (fun _ kq => XS.icmpNo X.here hx rfl (hb hby d1_199) rfl (feq hc199_126).1 kq) ?_
          refine own_st (T' := T) (F' := (mkF m 203 #[.val (.ref a), .val (.int (1 : Int32)), .val (.int (x0 &&& (255 : Int32))), .val (.int (4 : Int32)), .val (.int y140k4_4), .val (.int y140k4_5), .val (.int (x1 &&& (255 : Int32))), .val (.int (2 : Int32))] [(.int (0 : Int32))])) (fun _ kq => XS.iconst X.here hx rfl (hb hby d1_202) kq) ?_
          exact own_retI X hx hlk hret (hb hby d1_203) (by decide) (by decide) (own_PQi rfl N eT)
  have J140k3 : ∀ (y140k3_4 : Int32) (y140k3_5 : Int32) (T : State) (locs : List Loc) (X : Stand p l e ({ frames := 0, cells := 0, slots := 0, locals := 0 } : Room) s m #[(.ref a), (.int (1 : Int32))] below meth c T locs 0 0) (eT : T.heap = h0) (N : Fr n0 locs), own_Ends p e below s 0 0 (own_PQ (.int (sl4_140k3 x1 x2 y140k3_4 y140k3_5)) h0 n0) T (mkF m 140 #[.val (.ref a), .val (.int (1 : Int32)), .val (.int (x0 &&& (255 : Int32))), .val (.int (3 : Int32)), .val (.int y140k3_4), .val (.int y140k3_5), .unset, .unset] []) := by
    intro y140k3_4 y140k3_5 T locs X eT N
    unfold sl4_140k3
    refine own_st (T' := T) (F' := (mkF m 141 #[.val (.ref a), .val (.int (1 : Int32)), .val (.int (x0 &&& (255 : Int32))), .val (.int (3 : Int32)), .val (.int y140k3_4), .val (.int y140k3_5), .unset, .unset] [(.ref a)])) (fun _ kq => XS.aloadN X.here hx rfl (hb hby d1_140) rfl rfl kq) ?_
    refine own_st (T' := T) (F' := (mkF m 142 #[.val (.ref a), .val (.int (1 : Int32)), .val (.int (x0 &&& (255 : Int32))), .val (.int (3 : Int32)), .val (.int y140k3_4), .val (.int y140k3_5), .unset, .unset] [(.int (5 : Int32))])) (own_lenI X hx hZ eT V (g := (mkF m 141 #[.val (.ref a), .val (.int (1 : Int32)), .val (.int (x0 &&& (255 : Int32))), .val (.int (3 : Int32)), .val (.int y140k3_4), .val (.int y140k3_5), .unset, .unset] [(.ref a)])) rfl rfl (hb hby d1_141)) ?_
    refine own_st (T' := T) (F' := (mkF m 143 #[.val (.ref a), .val (.int (1 : Int32)), .val (.int (x0 &&& (255 : Int32))), .val (.int (3 : Int32)), .val (.int y140k3_4), .val (.int y140k3_5), .unset, .unset] [(.int (1 : Int32)), (.int (5 : Int32))])) (fun _ kq => XS.iloadN X.here hx rfl (hb hby d1_142) rfl kq) ?_
    refine own_st (T' := T) (F' := (mkF m 144 #[.val (.ref a), .val (.int (1 : Int32)), .val (.int (x0 &&& (255 : Int32))), .val (.int (3 : Int32)), .val (.int y140k3_4), .val (.int y140k3_5), .unset, .unset] [(.int (4 : Int32))])) (fun _ kq => XS.isub X.here hx rfl (hb hby d1_143) rfl kq) ?_
    refine own_st (T' := T) (F' := (mkF m 145 #[.val (.ref a), .val (.int (1 : Int32)), .val (.int (x0 &&& (255 : Int32))), .val (.int (3 : Int32)), .val (.int y140k3_4), .val (.int y140k3_5), .unset, .unset] [(.int (3 : Int32)), (.int (4 : Int32))])) (fun _ kq => XS.iloadN X.here hx rfl (hb hby d1_144) rfl kq) ?_
    refine own_st (T' := T) (F' := (mkF m 150 #[.val (.ref a), .val (.int (1 : Int32)), .val (.int (x0 &&& (255 : Int32))), .val (.int (3 : Int32)), .val (.int y140k3_4), .val (.int y140k3_5), .unset, .unset] [])) (fun _ kq => XS.icmpYes X.here hx rfl (pc0 := 145) (pc' := 150) rfl (hb hby d1_145) rfl (flt (by decide : ¬ ((4 : Int32) < (3 : Int32)))).2.1 (by decide) (by decide) kq) ?_
    refine own_st (T' := T) (F' := (mkF m 151 #[.val (.ref a), .val (.int (1 : Int32)), .val (.int (x0 &&& (255 : Int32))), .val (.int (3 : Int32)), .val (.int y140k3_4), .val (.int y140k3_5), .unset, .unset] [(.ref a)])) (fun _ kq => XS.aloadN X.here hx rfl (hb hby d1_150) rfl rfl kq) ?_
    refine own_st (T' := T) (F' := (mkF m 152 #[.val (.ref a), .val (.int (1 : Int32)), .val (.int (x0 &&& (255 : Int32))), .val (.int (3 : Int32)), .val (.int y140k3_4), .val (.int y140k3_5), .unset, .unset] [(.int (1 : Int32)), (.ref a)])) (fun _ kq => XS.iloadN X.here hx rfl (hb hby d1_151) rfl kq) ?_
    refine own_st (T' := T) (F' := (mkF m 153 #[.val (.ref a), .val (.int (1 : Int32)), .val (.int (x0 &&& (255 : Int32))), .val (.int (3 : Int32)), .val (.int y140k3_4), .val (.int y140k3_5), .unset, .unset] [(.int (1 : Int32)), (.int (1 : Int32)), (.ref a)])) (fun _ kq => XS.iconst X.here hx rfl (hb hby d1_152) kq) ?_
    refine own_st (T' := T) (F' := (mkF m 154 #[.val (.ref a), .val (.int (1 : Int32)), .val (.int (x0 &&& (255 : Int32))), .val (.int (3 : Int32)), .val (.int y140k3_4), .val (.int y140k3_5), .unset, .unset] [(.int (2 : Int32)), (.ref a)])) (fun _ kq => XS.iadd X.here hx rfl (hb hby d1_153) rfl kq) ?_
    refine own_st (T' := T) (F' := (mkF m 155 #[.val (.ref a), .val (.int (1 : Int32)), .val (.int (x0 &&& (255 : Int32))), .val (.int (3 : Int32)), .val (.int y140k3_4), .val (.int y140k3_5), .unset, .unset] [(.int x1)])) (own_baload X hx hZ eT V (g := (mkF m 154 #[.val (.ref a), .val (.int (1 : Int32)), .val (.int (x0 &&& (255 : Int32))), .val (.int (3 : Int32)), .val (.int y140k3_4), .val (.int y140k3_5), .unset, .unset] [(.int (2 : Int32)), (.ref a)])) rfl rfl (hb hby d1_154) (by decide) (Nat.le_of_ble_eq_true rfl) (w := x1) rfl) ?_
    refine own_st (T' := T) (F' := (mkF m 158 #[.val (.ref a), .val (.int (1 : Int32)), .val (.int (x0 &&& (255 : Int32))), .val (.int (3 : Int32)), .val (.int y140k3_4), .val (.int y140k3_5), .unset, .unset] [(.int (255 : Int32)), (.int x1)])) (fun _ kq => XS.sipush X.here hx rfl (hb hby d1_155) kq) ?_
    refine own_st (T' := T) (F' := (mkF m 159 #[.val (.ref a), .val (.int (1 : Int32)), .val (.int (x0 &&& (255 : Int32))), .val (.int (3 : Int32)), .val (.int y140k3_4), .val (.int y140k3_5), .unset, .unset] [(.int (x1 &&& (255 : Int32)))])) (fun _ kq => XS.iand X.here hx rfl (hb hby d1_158) rfl kq) ?_
    refine own_st (T' := T) (F' := (mkF m 161 #[.val (.ref a), .val (.int (1 : Int32)), .val (.int (x0 &&& (255 : Int32))), .val (.int (3 : Int32)), .val (.int y140k3_4), .val (.int y140k3_5), .val (.int (x1 &&& (255 : Int32))), .unset] [])) (fun _ kq => XS.istore X.here hx rfl (hb hby d1_159) rfl (l' := #[.val (.ref a), .val (.int (1 : Int32)), .val (.int (x0 &&& (255 : Int32))), .val (.int (3 : Int32)), .val (.int y140k3_4), .val (.int y140k3_5), .val (.int (x1 &&& (255 : Int32))), .unset]) rfl kq) ?_
    refine own_st (T' := T) (F' := (mkF m 163 #[.val (.ref a), .val (.int (1 : Int32)), .val (.int (x0 &&& (255 : Int32))), .val (.int (3 : Int32)), .val (.int y140k3_4), .val (.int y140k3_5), .val (.int (x1 &&& (255 : Int32))), .unset] [(.int (x1 &&& (255 : Int32)))])) (fun _ kq => XS.iload X.here hx rfl (hb hby d1_161) rfl kq) ?_
    refine own_st (T' := T) (F' := (mkF m 165 #[.val (.ref a), .val (.int (1 : Int32)), .val (.int (x0 &&& (255 : Int32))), .val (.int (3 : Int32)), .val (.int y140k3_4), .val (.int y140k3_5), .val (.int (x1 &&& (255 : Int32))), .unset] [(.int y140k3_4), (.int (x1 &&& (255 : Int32)))])) (fun _ kq => XS.iload X.here hx rfl (hb hby d1_163) rfl kq) ?_
    by_cases hc165_128 : (x1 &&& (255 : Int32)) < y140k3_4
    ·
      rw [if_pos hc165_128]
      refine own_st (T' := T) (F' := (mkF m 175 #[.val (.ref a), .val (.int (1 : Int32)), .val (.int (x0 &&& (255 : Int32))), .val (.int (3 : Int32)), .val (.int y140k3_4), .val (.int y140k3_5), .val (.int (x1 &&& (255 : Int32))), .unset] [])) (fun _ kq => XS.icmpYes X.here hx rfl (pc0 := 165) (pc' := 175) rfl (hb hby d1_165) rfl (tlt hc165_128).1 (by decide) (by decide) kq) ?_
      refine own_st (T' := T) (F' := (mkF m 176 #[.val (.ref a), .val (.int (1 : Int32)), .val (.int (x0 &&& (255 : Int32))), .val (.int (3 : Int32)), .val (.int y140k3_4), .val (.int y140k3_5), .val (.int (x1 &&& (255 : Int32))), .unset] [(.int (0 : Int32))])) (fun _ kq => XS.iconst X.here hx rfl (hb hby d1_175) kq) ?_
      exact own_retI X hx hlk hret (hb hby d1_176) (by decide) (by decide) (own_PQi rfl N eT)
    ·
      rw [if_neg hc165_128]
      refine own_st (T' := T) (F' := (mkF m 168 #[.val (.ref a), .val (.int (1 : Int32)), .val (.int (x0 &&& (255 : Int32))), .val (.int (3 : Int32)), .val (.int y140k3_4), .val (.int y140k3_5), .val (.int (x1 &&& (255 : Int32))), .unset] [])) (fun _ kq => XS.icmpNo X.here hx rfl (hb hby d1_165) rfl (flt hc165_128).1 kq) ?_
      refine own_st (T' := T) (F' := (mkF m 170 #[.val (.ref a), .val (.int (1 : Int32)), .val (.int (x0 &&& (255 : Int32))), .val (.int (3 : Int32)), .val (.int y140k3_4), .val (.int y140k3_5), .val (.int (x1 &&& (255 : Int32))), .unset] [(.int (x1 &&& (255 : Int32)))])) (fun _ kq => XS.iload X.here hx rfl (hb hby d1_168) rfl kq) ?_
      refine own_st (T' := T) (F' := (mkF m 172 #[.val (.ref a), .val (.int (1 : Int32)), .val (.int (x0 &&& (255 : Int32))), .val (.int (3 : Int32)), .val (.int y140k3_4), .val (.int y140k3_5), .val (.int (x1 &&& (255 : Int32))), .unset] [(.int y140k3_5), (.int (x1 &&& (255 : Int32)))])) (fun _ kq => XS.iload X.here hx rfl (hb hby d1_170) rfl kq) ?_
      by_cases hc172_129 : y140k3_5 < (x1 &&& (255 : Int32))
      ·
        rw [if_pos hc172_129]
        refine own_st (T' := T) (F' := (mkF m 175 #[.val (.ref a), .val (.int (1 : Int32)), .val (.int (x0 &&& (255 : Int32))), .val (.int (3 : Int32)), .val (.int y140k3_4), .val (.int y140k3_5), .val (.int (x1 &&& (255 : Int32))), .unset] [])) (fun _ kq => XS.icmpNo X.here hx rfl (hb hby d1_172) rfl (tlt hc172_129).2.2.2 kq) ?_
        refine own_st (T' := T) (F' := (mkF m 176 #[.val (.ref a), .val (.int (1 : Int32)), .val (.int (x0 &&& (255 : Int32))), .val (.int (3 : Int32)), .val (.int y140k3_4), .val (.int y140k3_5), .val (.int (x1 &&& (255 : Int32))), .unset] [(.int (0 : Int32))])) (fun _ kq => XS.iconst X.here hx rfl (hb hby d1_175) kq) ?_
        exact own_retI X hx hlk hret (hb hby d1_176) (by decide) (by decide) (own_PQi rfl N eT)
      ·
        rw [if_neg hc172_129]
        refine own_st (T' := T) (F' := (mkF m 177 #[.val (.ref a), .val (.int (1 : Int32)), .val (.int (x0 &&& (255 : Int32))), .val (.int (3 : Int32)), .val (.int y140k3_4), .val (.int y140k3_5), .val (.int (x1 &&& (255 : Int32))), .unset] [])) (fun _ kq => XS.icmpYes X.here hx rfl (pc0 := 172) (pc' := 177) rfl (hb hby d1_172) rfl (flt hc172_129).2.2.2 (by decide) (by decide) kq) ?_
        refine own_st (T' := T) (F' := (mkF m 178 #[.val (.ref a), .val (.int (1 : Int32)), .val (.int (x0 &&& (255 : Int32))), .val (.int (3 : Int32)), .val (.int y140k3_4), .val (.int y140k3_5), .val (.int (x1 &&& (255 : Int32))), .unset] [(.int (2 : Int32))])) (fun _ kq => XS.iconst X.here hx rfl (hb hby d1_177) kq) ?_
        refine own_st (T' := T) (F' := (mkF m 180 #[.val (.ref a), .val (.int (1 : Int32)), .val (.int (x0 &&& (255 : Int32))), .val (.int (3 : Int32)), .val (.int y140k3_4), .val (.int y140k3_5), .val (.int (x1 &&& (255 : Int32))), .val (.int (2 : Int32))] [])) (fun _ kq => XS.istore X.here hx rfl (hb hby d1_178) rfl (l' := #[.val (.ref a), .val (.int (1 : Int32)), .val (.int (x0 &&& (255 : Int32))), .val (.int (3 : Int32)), .val (.int y140k3_4), .val (.int y140k3_5), .val (.int (x1 &&& (255 : Int32))), .val (.int (2 : Int32))]) rfl kq) ?_
        refine own_st (T' := T) (F' := (mkF m 182 #[.val (.ref a), .val (.int (1 : Int32)), .val (.int (x0 &&& (255 : Int32))), .val (.int (3 : Int32)), .val (.int y140k3_4), .val (.int y140k3_5), .val (.int (x1 &&& (255 : Int32))), .val (.int (2 : Int32))] [(.int (2 : Int32))])) (fun _ kq => XS.iload X.here hx rfl (hb hby d1_180) rfl kq) ?_
        refine own_st (T' := T) (F' := (mkF m 183 #[.val (.ref a), .val (.int (1 : Int32)), .val (.int (x0 &&& (255 : Int32))), .val (.int (3 : Int32)), .val (.int y140k3_4), .val (.int y140k3_5), .val (.int (x1 &&& (255 : Int32))), .val (.int (2 : Int32))] [(.int (3 : Int32)), (.int (2 : Int32))])) (fun _ kq => XS.iloadN X.here hx rfl (hb hby d1_182) rfl kq) ?_
        refine own_st (T' := T) (F' := (mkF m 186 #[.val (.ref a), .val (.int (1 : Int32)), .val (.int (x0 &&& (255 : Int32))), .val (.int (3 : Int32)), .val (.int y140k3_4), .val (.int y140k3_5), .val (.int (x1 &&& (255 : Int32))), .val (.int (2 : Int32))] [])) (fun _ kq => XS.icmpNo X.here hx rfl (hb hby d1_183) rfl (tlt (by decide : (2 : Int32) < (3 : Int32))).2.1 kq) ?_
        refine own_st (T' := T) (F' := (mkF m 187 #[.val (.ref a), .val (.int (1 : Int32)), .val (.int (x0 &&& (255 : Int32))), .val (.int (3 : Int32)), .val (.int y140k3_4), .val (.int y140k3_5), .val (.int (x1 &&& (255 : Int32))), .val (.int (2 : Int32))] [(.ref a)])) (fun _ kq => XS.aloadN X.here hx rfl (hb hby d1_186) rfl rfl kq) ?_
        refine own_st (T' := T) (F' := (mkF m 188 #[.val (.ref a), .val (.int (1 : Int32)), .val (.int (x0 &&& (255 : Int32))), .val (.int (3 : Int32)), .val (.int y140k3_4), .val (.int y140k3_5), .val (.int (x1 &&& (255 : Int32))), .val (.int (2 : Int32))] [(.int (1 : Int32)), (.ref a)])) (fun _ kq => XS.iloadN X.here hx rfl (hb hby d1_187) rfl kq) ?_
        refine own_st (T' := T) (F' := (mkF m 190 #[.val (.ref a), .val (.int (1 : Int32)), .val (.int (x0 &&& (255 : Int32))), .val (.int (3 : Int32)), .val (.int y140k3_4), .val (.int y140k3_5), .val (.int (x1 &&& (255 : Int32))), .val (.int (2 : Int32))] [(.int (2 : Int32)), (.int (1 : Int32)), (.ref a)])) (fun _ kq => XS.iload X.here hx rfl (hb hby d1_188) rfl kq) ?_
        refine own_st (T' := T) (F' := (mkF m 191 #[.val (.ref a), .val (.int (1 : Int32)), .val (.int (x0 &&& (255 : Int32))), .val (.int (3 : Int32)), .val (.int y140k3_4), .val (.int y140k3_5), .val (.int (x1 &&& (255 : Int32))), .val (.int (2 : Int32))] [(.int (3 : Int32)), (.ref a)])) (fun _ kq => XS.iadd X.here hx rfl (hb hby d1_190) rfl kq) ?_
        refine own_st (T' := T) (F' := (mkF m 192 #[.val (.ref a), .val (.int (1 : Int32)), .val (.int (x0 &&& (255 : Int32))), .val (.int (3 : Int32)), .val (.int y140k3_4), .val (.int y140k3_5), .val (.int (x1 &&& (255 : Int32))), .val (.int (2 : Int32))] [(.int x2)])) (own_baload X hx hZ eT V (g := (mkF m 191 #[.val (.ref a), .val (.int (1 : Int32)), .val (.int (x0 &&& (255 : Int32))), .val (.int (3 : Int32)), .val (.int y140k3_4), .val (.int y140k3_5), .val (.int (x1 &&& (255 : Int32))), .val (.int (2 : Int32))] [(.int (3 : Int32)), (.ref a)])) rfl rfl (hb hby d1_191) (by decide) (Nat.le_of_ble_eq_true rfl) (w := x2) rfl) ?_
        refine own_st (T' := T) (F' := (mkF m 195 #[.val (.ref a), .val (.int (1 : Int32)), .val (.int (x0 &&& (255 : Int32))), .val (.int (3 : Int32)), .val (.int y140k3_4), .val (.int y140k3_5), .val (.int (x1 &&& (255 : Int32))), .val (.int (2 : Int32))] [(.int (192 : Int32)), (.int x2)])) (fun _ kq => XS.sipush X.here hx rfl (hb hby d1_192) kq) ?_
        refine own_st (T' := T) (F' := (mkF m 196 #[.val (.ref a), .val (.int (1 : Int32)), .val (.int (x0 &&& (255 : Int32))), .val (.int (3 : Int32)), .val (.int y140k3_4), .val (.int y140k3_5), .val (.int (x1 &&& (255 : Int32))), .val (.int (2 : Int32))] [(.int (x2 &&& (192 : Int32)))])) (fun _ kq => XS.iand X.here hx rfl (hb hby d1_195) rfl kq) ?_
        refine own_st (T' := T) (F' := (mkF m 199 #[.val (.ref a), .val (.int (1 : Int32)), .val (.int (x0 &&& (255 : Int32))), .val (.int (3 : Int32)), .val (.int y140k3_4), .val (.int y140k3_5), .val (.int (x1 &&& (255 : Int32))), .val (.int (2 : Int32))] [(.int (128 : Int32)), (.int (x2 &&& (192 : Int32)))])) (fun _ kq => XS.sipush X.here hx rfl (hb hby d1_196) kq) ?_
        by_cases hc199_130 : (x2 &&& (192 : Int32)) = (128 : Int32)
        ·
          rw [if_pos hc199_130]
          refine own_st (T' := T) (F' := (mkF m 204 #[.val (.ref a), .val (.int (1 : Int32)), .val (.int (x0 &&& (255 : Int32))), .val (.int (3 : Int32)), .val (.int y140k3_4), .val (.int y140k3_5), .val (.int (x1 &&& (255 : Int32))), .val (.int (2 : Int32))] [])) (fun _ kq => XS.icmpYes X.here hx rfl (pc0 := 199) (pc' := 204) rfl (hb hby d1_199) rfl (teq hc199_130).1 (by decide) (by decide) kq) ?_
          refine own_st (T' := T) (F' := (mkF m 207 #[.val (.ref a), .val (.int (1 : Int32)), .val (.int (x0 &&& (255 : Int32))), .val (.int (3 : Int32)), .val (.int y140k3_4), .val (.int y140k3_5), .val (.int (x1 &&& (255 : Int32))), .val (.int (3 : Int32))] [])) (fun _ kq => XS.iinc X.here hx rfl (hb hby d1_204) rfl (l' := #[.val (.ref a), .val (.int (1 : Int32)), .val (.int (x0 &&& (255 : Int32))), .val (.int (3 : Int32)), .val (.int y140k3_4), .val (.int y140k3_5), .val (.int (x1 &&& (255 : Int32))), .val (.int (3 : Int32))]) rfl kq) ?_
          refine own_st (T' := T) (F' := (mkF m 180 #[.val (.ref a), .val (.int (1 : Int32)), .val (.int (x0 &&& (255 : Int32))), .val (.int (3 : Int32)), .val (.int y140k3_4), .val (.int y140k3_5), .val (.int (x1 &&& (255 : Int32))), .val (.int (3 : Int32))] [])) (fun _ kq => XS.goto X.here hx rfl (pc0 := 207) (pc' := 180) rfl (hb hby d1_207) (by decide) (by decide) kq) ?_
          refine own_st (T' := T) (F' := (mkF m 182 #[.val (.ref a), .val (.int (1 : Int32)), .val (.int (x0 &&& (255 : Int32))), .val (.int (3 : Int32)), .val (.int y140k3_4), .val (.int y140k3_5), .val (.int (x1 &&& (255 : Int32))), .val (.int (3 : Int32))] [(.int (3 : Int32))])) (fun _ kq => XS.iload X.here hx rfl (hb hby d1_180) rfl kq) ?_
          refine own_st (T' := T) (F' := (mkF m 183 #[.val (.ref a), .val (.int (1 : Int32)), .val (.int (x0 &&& (255 : Int32))), .val (.int (3 : Int32)), .val (.int y140k3_4), .val (.int y140k3_5), .val (.int (x1 &&& (255 : Int32))), .val (.int (3 : Int32))] [(.int (3 : Int32)), (.int (3 : Int32))])) (fun _ kq => XS.iloadN X.here hx rfl (hb hby d1_182) rfl kq) ?_
          refine own_st (T' := T) (F' := (mkF m 210 #[.val (.ref a), .val (.int (1 : Int32)), .val (.int (x0 &&& (255 : Int32))), .val (.int (3 : Int32)), .val (.int y140k3_4), .val (.int y140k3_5), .val (.int (x1 &&& (255 : Int32))), .val (.int (3 : Int32))] [])) (fun _ kq => XS.icmpYes X.here hx rfl (pc0 := 183) (pc' := 210) rfl (hb hby d1_183) rfl (flt (by decide : ¬ ((3 : Int32) < (3 : Int32)))).2.1 (by decide) (by decide) kq) ?_
          refine own_st (T' := T) (F' := (mkF m 211 #[.val (.ref a), .val (.int (1 : Int32)), .val (.int (x0 &&& (255 : Int32))), .val (.int (3 : Int32)), .val (.int y140k3_4), .val (.int y140k3_5), .val (.int (x1 &&& (255 : Int32))), .val (.int (3 : Int32))] [(.int (3 : Int32))])) (fun _ kq => XS.iloadN X.here hx rfl (hb hby d1_210) rfl kq) ?_
          exact own_retI X hx hlk hret (hb hby d1_211) (by decide) (by decide) (own_PQi rfl N eT)
        ·
          rw [if_neg hc199_130]
          refine own_st (T' := T) (F' := (mkF m 202 #[.val (.ref a), .val (.int (1 : Int32)), .val (.int (x0 &&& (255 : Int32))), .val (.int (3 : Int32)), .val (.int y140k3_4), .val (.int y140k3_5), .val (.int (x1 &&& (255 : Int32))), .val (.int (2 : Int32))] [])) (fun _ kq => XS.icmpNo X.here hx rfl (hb hby d1_199) rfl (feq hc199_130).1 kq) ?_
          refine own_st (T' := T) (F' := (mkF m 203 #[.val (.ref a), .val (.int (1 : Int32)), .val (.int (x0 &&& (255 : Int32))), .val (.int (3 : Int32)), .val (.int y140k3_4), .val (.int y140k3_5), .val (.int (x1 &&& (255 : Int32))), .val (.int (2 : Int32))] [(.int (0 : Int32))])) (fun _ kq => XS.iconst X.here hx rfl (hb hby d1_202) kq) ?_
          exact own_retI X hx hlk hret (hb hby d1_203) (by decide) (by decide) (own_PQi rfl N eT)
  have J140k2 : ∀ (T : State) (locs : List Loc) (X : Stand p l e ({ frames := 0, cells := 0, slots := 0, locals := 0 } : Room) s m #[(.ref a), (.int (1 : Int32))] below meth c T locs 0 0) (eT : T.heap = h0) (N : Fr n0 locs), own_Ends p e below s 0 0 (own_PQ (.int (sl4_140k2 x1)) h0 n0) T (mkF m 140 #[.val (.ref a), .val (.int (1 : Int32)), .val (.int (x0 &&& (255 : Int32))), .val (.int (2 : Int32)), .val (.int (128 : Int32)), .val (.int (191 : Int32)), .unset, .unset] []) := by
    intro T locs X eT N
    unfold sl4_140k2
    refine own_st (T' := T) (F' := (mkF m 141 #[.val (.ref a), .val (.int (1 : Int32)), .val (.int (x0 &&& (255 : Int32))), .val (.int (2 : Int32)), .val (.int (128 : Int32)), .val (.int (191 : Int32)), .unset, .unset] [(.ref a)])) (fun _ kq => XS.aloadN X.here hx rfl (hb hby d1_140) rfl rfl kq) ?_
    refine own_st (T' := T) (F' := (mkF m 142 #[.val (.ref a), .val (.int (1 : Int32)), .val (.int (x0 &&& (255 : Int32))), .val (.int (2 : Int32)), .val (.int (128 : Int32)), .val (.int (191 : Int32)), .unset, .unset] [(.int (5 : Int32))])) (own_lenI X hx hZ eT V (g := (mkF m 141 #[.val (.ref a), .val (.int (1 : Int32)), .val (.int (x0 &&& (255 : Int32))), .val (.int (2 : Int32)), .val (.int (128 : Int32)), .val (.int (191 : Int32)), .unset, .unset] [(.ref a)])) rfl rfl (hb hby d1_141)) ?_
    refine own_st (T' := T) (F' := (mkF m 143 #[.val (.ref a), .val (.int (1 : Int32)), .val (.int (x0 &&& (255 : Int32))), .val (.int (2 : Int32)), .val (.int (128 : Int32)), .val (.int (191 : Int32)), .unset, .unset] [(.int (1 : Int32)), (.int (5 : Int32))])) (fun _ kq => XS.iloadN X.here hx rfl (hb hby d1_142) rfl kq) ?_
    refine own_st (T' := T) (F' := (mkF m 144 #[.val (.ref a), .val (.int (1 : Int32)), .val (.int (x0 &&& (255 : Int32))), .val (.int (2 : Int32)), .val (.int (128 : Int32)), .val (.int (191 : Int32)), .unset, .unset] [(.int (4 : Int32))])) (fun _ kq => XS.isub X.here hx rfl (hb hby d1_143) rfl kq) ?_
    refine own_st (T' := T) (F' := (mkF m 145 #[.val (.ref a), .val (.int (1 : Int32)), .val (.int (x0 &&& (255 : Int32))), .val (.int (2 : Int32)), .val (.int (128 : Int32)), .val (.int (191 : Int32)), .unset, .unset] [(.int (2 : Int32)), (.int (4 : Int32))])) (fun _ kq => XS.iloadN X.here hx rfl (hb hby d1_144) rfl kq) ?_
    refine own_st (T' := T) (F' := (mkF m 150 #[.val (.ref a), .val (.int (1 : Int32)), .val (.int (x0 &&& (255 : Int32))), .val (.int (2 : Int32)), .val (.int (128 : Int32)), .val (.int (191 : Int32)), .unset, .unset] [])) (fun _ kq => XS.icmpYes X.here hx rfl (pc0 := 145) (pc' := 150) rfl (hb hby d1_145) rfl (flt (by decide : ¬ ((4 : Int32) < (2 : Int32)))).2.1 (by decide) (by decide) kq) ?_
    refine own_st (T' := T) (F' := (mkF m 151 #[.val (.ref a), .val (.int (1 : Int32)), .val (.int (x0 &&& (255 : Int32))), .val (.int (2 : Int32)), .val (.int (128 : Int32)), .val (.int (191 : Int32)), .unset, .unset] [(.ref a)])) (fun _ kq => XS.aloadN X.here hx rfl (hb hby d1_150) rfl rfl kq) ?_
    refine own_st (T' := T) (F' := (mkF m 152 #[.val (.ref a), .val (.int (1 : Int32)), .val (.int (x0 &&& (255 : Int32))), .val (.int (2 : Int32)), .val (.int (128 : Int32)), .val (.int (191 : Int32)), .unset, .unset] [(.int (1 : Int32)), (.ref a)])) (fun _ kq => XS.iloadN X.here hx rfl (hb hby d1_151) rfl kq) ?_
    refine own_st (T' := T) (F' := (mkF m 153 #[.val (.ref a), .val (.int (1 : Int32)), .val (.int (x0 &&& (255 : Int32))), .val (.int (2 : Int32)), .val (.int (128 : Int32)), .val (.int (191 : Int32)), .unset, .unset] [(.int (1 : Int32)), (.int (1 : Int32)), (.ref a)])) (fun _ kq => XS.iconst X.here hx rfl (hb hby d1_152) kq) ?_
    refine own_st (T' := T) (F' := (mkF m 154 #[.val (.ref a), .val (.int (1 : Int32)), .val (.int (x0 &&& (255 : Int32))), .val (.int (2 : Int32)), .val (.int (128 : Int32)), .val (.int (191 : Int32)), .unset, .unset] [(.int (2 : Int32)), (.ref a)])) (fun _ kq => XS.iadd X.here hx rfl (hb hby d1_153) rfl kq) ?_
    refine own_st (T' := T) (F' := (mkF m 155 #[.val (.ref a), .val (.int (1 : Int32)), .val (.int (x0 &&& (255 : Int32))), .val (.int (2 : Int32)), .val (.int (128 : Int32)), .val (.int (191 : Int32)), .unset, .unset] [(.int x1)])) (own_baload X hx hZ eT V (g := (mkF m 154 #[.val (.ref a), .val (.int (1 : Int32)), .val (.int (x0 &&& (255 : Int32))), .val (.int (2 : Int32)), .val (.int (128 : Int32)), .val (.int (191 : Int32)), .unset, .unset] [(.int (2 : Int32)), (.ref a)])) rfl rfl (hb hby d1_154) (by decide) (Nat.le_of_ble_eq_true rfl) (w := x1) rfl) ?_
    refine own_st (T' := T) (F' := (mkF m 158 #[.val (.ref a), .val (.int (1 : Int32)), .val (.int (x0 &&& (255 : Int32))), .val (.int (2 : Int32)), .val (.int (128 : Int32)), .val (.int (191 : Int32)), .unset, .unset] [(.int (255 : Int32)), (.int x1)])) (fun _ kq => XS.sipush X.here hx rfl (hb hby d1_155) kq) ?_
    refine own_st (T' := T) (F' := (mkF m 159 #[.val (.ref a), .val (.int (1 : Int32)), .val (.int (x0 &&& (255 : Int32))), .val (.int (2 : Int32)), .val (.int (128 : Int32)), .val (.int (191 : Int32)), .unset, .unset] [(.int (x1 &&& (255 : Int32)))])) (fun _ kq => XS.iand X.here hx rfl (hb hby d1_158) rfl kq) ?_
    refine own_st (T' := T) (F' := (mkF m 161 #[.val (.ref a), .val (.int (1 : Int32)), .val (.int (x0 &&& (255 : Int32))), .val (.int (2 : Int32)), .val (.int (128 : Int32)), .val (.int (191 : Int32)), .val (.int (x1 &&& (255 : Int32))), .unset] [])) (fun _ kq => XS.istore X.here hx rfl (hb hby d1_159) rfl (l' := #[.val (.ref a), .val (.int (1 : Int32)), .val (.int (x0 &&& (255 : Int32))), .val (.int (2 : Int32)), .val (.int (128 : Int32)), .val (.int (191 : Int32)), .val (.int (x1 &&& (255 : Int32))), .unset]) rfl kq) ?_
    refine own_st (T' := T) (F' := (mkF m 163 #[.val (.ref a), .val (.int (1 : Int32)), .val (.int (x0 &&& (255 : Int32))), .val (.int (2 : Int32)), .val (.int (128 : Int32)), .val (.int (191 : Int32)), .val (.int (x1 &&& (255 : Int32))), .unset] [(.int (x1 &&& (255 : Int32)))])) (fun _ kq => XS.iload X.here hx rfl (hb hby d1_161) rfl kq) ?_
    refine own_st (T' := T) (F' := (mkF m 165 #[.val (.ref a), .val (.int (1 : Int32)), .val (.int (x0 &&& (255 : Int32))), .val (.int (2 : Int32)), .val (.int (128 : Int32)), .val (.int (191 : Int32)), .val (.int (x1 &&& (255 : Int32))), .unset] [(.int (128 : Int32)), (.int (x1 &&& (255 : Int32)))])) (fun _ kq => XS.iload X.here hx rfl (hb hby d1_163) rfl kq) ?_
    by_cases hc165_131 : (x1 &&& (255 : Int32)) < (128 : Int32)
    ·
      rw [if_pos hc165_131]
      refine own_st (T' := T) (F' := (mkF m 175 #[.val (.ref a), .val (.int (1 : Int32)), .val (.int (x0 &&& (255 : Int32))), .val (.int (2 : Int32)), .val (.int (128 : Int32)), .val (.int (191 : Int32)), .val (.int (x1 &&& (255 : Int32))), .unset] [])) (fun _ kq => XS.icmpYes X.here hx rfl (pc0 := 165) (pc' := 175) rfl (hb hby d1_165) rfl (tlt hc165_131).1 (by decide) (by decide) kq) ?_
      refine own_st (T' := T) (F' := (mkF m 176 #[.val (.ref a), .val (.int (1 : Int32)), .val (.int (x0 &&& (255 : Int32))), .val (.int (2 : Int32)), .val (.int (128 : Int32)), .val (.int (191 : Int32)), .val (.int (x1 &&& (255 : Int32))), .unset] [(.int (0 : Int32))])) (fun _ kq => XS.iconst X.here hx rfl (hb hby d1_175) kq) ?_
      exact own_retI X hx hlk hret (hb hby d1_176) (by decide) (by decide) (own_PQi rfl N eT)
    ·
      rw [if_neg hc165_131]
      refine own_st (T' := T) (F' := (mkF m 168 #[.val (.ref a), .val (.int (1 : Int32)), .val (.int (x0 &&& (255 : Int32))), .val (.int (2 : Int32)), .val (.int (128 : Int32)), .val (.int (191 : Int32)), .val (.int (x1 &&& (255 : Int32))), .unset] [])) (fun _ kq => XS.icmpNo X.here hx rfl (hb hby d1_165) rfl (flt hc165_131).1 kq) ?_
      refine own_st (T' := T) (F' := (mkF m 170 #[.val (.ref a), .val (.int (1 : Int32)), .val (.int (x0 &&& (255 : Int32))), .val (.int (2 : Int32)), .val (.int (128 : Int32)), .val (.int (191 : Int32)), .val (.int (x1 &&& (255 : Int32))), .unset] [(.int (x1 &&& (255 : Int32)))])) (fun _ kq => XS.iload X.here hx rfl (hb hby d1_168) rfl kq) ?_
      refine own_st (T' := T) (F' := (mkF m 172 #[.val (.ref a), .val (.int (1 : Int32)), .val (.int (x0 &&& (255 : Int32))), .val (.int (2 : Int32)), .val (.int (128 : Int32)), .val (.int (191 : Int32)), .val (.int (x1 &&& (255 : Int32))), .unset] [(.int (191 : Int32)), (.int (x1 &&& (255 : Int32)))])) (fun _ kq => XS.iload X.here hx rfl (hb hby d1_170) rfl kq) ?_
      by_cases hc172_132 : (191 : Int32) < (x1 &&& (255 : Int32))
      ·
        rw [if_pos hc172_132]
        refine own_st (T' := T) (F' := (mkF m 175 #[.val (.ref a), .val (.int (1 : Int32)), .val (.int (x0 &&& (255 : Int32))), .val (.int (2 : Int32)), .val (.int (128 : Int32)), .val (.int (191 : Int32)), .val (.int (x1 &&& (255 : Int32))), .unset] [])) (fun _ kq => XS.icmpNo X.here hx rfl (hb hby d1_172) rfl (tlt hc172_132).2.2.2 kq) ?_
        refine own_st (T' := T) (F' := (mkF m 176 #[.val (.ref a), .val (.int (1 : Int32)), .val (.int (x0 &&& (255 : Int32))), .val (.int (2 : Int32)), .val (.int (128 : Int32)), .val (.int (191 : Int32)), .val (.int (x1 &&& (255 : Int32))), .unset] [(.int (0 : Int32))])) (fun _ kq => XS.iconst X.here hx rfl (hb hby d1_175) kq) ?_
        exact own_retI X hx hlk hret (hb hby d1_176) (by decide) (by decide) (own_PQi rfl N eT)
      ·
        rw [if_neg hc172_132]
        refine own_st (T' := T) (F' := (mkF m 177 #[.val (.ref a), .val (.int (1 : Int32)), .val (.int (x0 &&& (255 : Int32))), .val (.int (2 : Int32)), .val (.int (128 : Int32)), .val (.int (191 : Int32)), .val (.int (x1 &&& (255 : Int32))), .unset] [])) (fun _ kq => XS.icmpYes X.here hx rfl (pc0 := 172) (pc' := 177) rfl (hb hby d1_172) rfl (flt hc172_132).2.2.2 (by decide) (by decide) kq) ?_
        refine own_st (T' := T) (F' := (mkF m 178 #[.val (.ref a), .val (.int (1 : Int32)), .val (.int (x0 &&& (255 : Int32))), .val (.int (2 : Int32)), .val (.int (128 : Int32)), .val (.int (191 : Int32)), .val (.int (x1 &&& (255 : Int32))), .unset] [(.int (2 : Int32))])) (fun _ kq => XS.iconst X.here hx rfl (hb hby d1_177) kq) ?_
        refine own_st (T' := T) (F' := (mkF m 180 #[.val (.ref a), .val (.int (1 : Int32)), .val (.int (x0 &&& (255 : Int32))), .val (.int (2 : Int32)), .val (.int (128 : Int32)), .val (.int (191 : Int32)), .val (.int (x1 &&& (255 : Int32))), .val (.int (2 : Int32))] [])) (fun _ kq => XS.istore X.here hx rfl (hb hby d1_178) rfl (l' := #[.val (.ref a), .val (.int (1 : Int32)), .val (.int (x0 &&& (255 : Int32))), .val (.int (2 : Int32)), .val (.int (128 : Int32)), .val (.int (191 : Int32)), .val (.int (x1 &&& (255 : Int32))), .val (.int (2 : Int32))]) rfl kq) ?_
        refine own_st (T' := T) (F' := (mkF m 182 #[.val (.ref a), .val (.int (1 : Int32)), .val (.int (x0 &&& (255 : Int32))), .val (.int (2 : Int32)), .val (.int (128 : Int32)), .val (.int (191 : Int32)), .val (.int (x1 &&& (255 : Int32))), .val (.int (2 : Int32))] [(.int (2 : Int32))])) (fun _ kq => XS.iload X.here hx rfl (hb hby d1_180) rfl kq) ?_
        refine own_st (T' := T) (F' := (mkF m 183 #[.val (.ref a), .val (.int (1 : Int32)), .val (.int (x0 &&& (255 : Int32))), .val (.int (2 : Int32)), .val (.int (128 : Int32)), .val (.int (191 : Int32)), .val (.int (x1 &&& (255 : Int32))), .val (.int (2 : Int32))] [(.int (2 : Int32)), (.int (2 : Int32))])) (fun _ kq => XS.iloadN X.here hx rfl (hb hby d1_182) rfl kq) ?_
        refine own_st (T' := T) (F' := (mkF m 210 #[.val (.ref a), .val (.int (1 : Int32)), .val (.int (x0 &&& (255 : Int32))), .val (.int (2 : Int32)), .val (.int (128 : Int32)), .val (.int (191 : Int32)), .val (.int (x1 &&& (255 : Int32))), .val (.int (2 : Int32))] [])) (fun _ kq => XS.icmpYes X.here hx rfl (pc0 := 183) (pc' := 210) rfl (hb hby d1_183) rfl (flt (by decide : ¬ ((2 : Int32) < (2 : Int32)))).2.1 (by decide) (by decide) kq) ?_
        refine own_st (T' := T) (F' := (mkF m 211 #[.val (.ref a), .val (.int (1 : Int32)), .val (.int (x0 &&& (255 : Int32))), .val (.int (2 : Int32)), .val (.int (128 : Int32)), .val (.int (191 : Int32)), .val (.int (x1 &&& (255 : Int32))), .val (.int (2 : Int32))] [(.int (2 : Int32))])) (fun _ kq => XS.iloadN X.here hx rfl (hb hby d1_210) rfl kq) ?_
        exact own_retI X hx hlk hret (hb hby d1_211) (by decide) (by decide) (own_PQi rfl N eT)
  have J92 : ∀ (T : State) (locs : List Loc) (X : Stand p l e ({ frames := 0, cells := 0, slots := 0, locals := 0 } : Room) s m #[(.ref a), (.int (1 : Int32))] below meth c T locs 0 0) (eT : T.heap = h0) (N : Fr n0 locs), own_Ends p e below s 0 0 (own_PQ (.int (sl4_92 x0 x1 x2 x3)) h0 n0) T (mkF m 92 #[.val (.ref a), .val (.int (1 : Int32)), .val (.int (x0 &&& (255 : Int32))), .unset, .val (.int (128 : Int32)), .val (.int (191 : Int32)), .unset, .unset] []) := by
    intro T locs X eT N
    unfold sl4_92
    refine own_st (T' := T) (F' := (mkF m 93 #[.val (.ref a), .val (.int (1 : Int32)), .val (.int (x0 &&& (255 : Int32))), .unset, .val (.int (128 : Int32)), .val (.int (191 : Int32)), .unset, .unset] [(.int (x0 &&& (255 : Int32)))])) (fun _ kq => XS.iloadN X.here hx rfl (hb hby d1_92) rfl kq) ?_
    refine own_st (T' := T) (F' := (mkF m 96 #[.val (.ref a), .val (.int (1 : Int32)), .val (.int (x0 &&& (255 : Int32))), .unset, .val (.int (128 : Int32)), .val (.int (191 : Int32)), .unset, .unset] [(.int (240 : Int32)), (.int (x0 &&& (255 : Int32)))])) (fun _ kq => XS.sipush X.here hx rfl (hb hby d1_93) kq) ?_
    by_cases hc96_133 : (x0 &&& (255 : Int32)) < (240 : Int32)
    ·
      rw [if_pos hc96_133]
      refine own_st (T' := T) (F' := (mkF m 138 #[.val (.ref a), .val (.int (1 : Int32)), .val (.int (x0 &&& (255 : Int32))), .unset, .val (.int (128 : Int32)), .val (.int (191 : Int32)), .unset, .unset] [])) (fun _ kq => XS.icmpYes X.here hx rfl (pc0 := 96) (pc' := 138) rfl (hb hby d1_96) rfl (tlt hc96_133).1 (by decide) (by decide) kq) ?_
      refine own_st (T' := T) (F' := (mkF m 139 #[.val (.ref a), .val (.int (1 : Int32)), .val (.int (x0 &&& (255 : Int32))), .unset, .val (.int (128 : Int32)), .val (.int (191 : Int32)), .unset, .unset] [(.int (0 : Int32))])) (fun _ kq => XS.iconst X.here hx rfl (hb hby d1_138) kq) ?_
      exact own_retI X hx hlk hret (hb hby d1_139) (by decide) (by decide) (own_PQi rfl N eT)
    ·
      rw [if_neg hc96_133]
      refine own_st (T' := T) (F' := (mkF m 99 #[.val (.ref a), .val (.int (1 : Int32)), .val (.int (x0 &&& (255 : Int32))), .unset, .val (.int (128 : Int32)), .val (.int (191 : Int32)), .unset, .unset] [])) (fun _ kq => XS.icmpNo X.here hx rfl (hb hby d1_96) rfl (flt hc96_133).1 kq) ?_
      refine own_st (T' := T) (F' := (mkF m 100 #[.val (.ref a), .val (.int (1 : Int32)), .val (.int (x0 &&& (255 : Int32))), .unset, .val (.int (128 : Int32)), .val (.int (191 : Int32)), .unset, .unset] [(.int (x0 &&& (255 : Int32)))])) (fun _ kq => XS.iloadN X.here hx rfl (hb hby d1_99) rfl kq) ?_
      refine own_st (T' := T) (F' := (mkF m 103 #[.val (.ref a), .val (.int (1 : Int32)), .val (.int (x0 &&& (255 : Int32))), .unset, .val (.int (128 : Int32)), .val (.int (191 : Int32)), .unset, .unset] [(.int (244 : Int32)), (.int (x0 &&& (255 : Int32)))])) (fun _ kq => XS.sipush X.here hx rfl (hb hby d1_100) kq) ?_
      by_cases hc103_134 : (244 : Int32) < (x0 &&& (255 : Int32))
      ·
        rw [if_pos hc103_134]
        refine own_st (T' := T) (F' := (mkF m 138 #[.val (.ref a), .val (.int (1 : Int32)), .val (.int (x0 &&& (255 : Int32))), .unset, .val (.int (128 : Int32)), .val (.int (191 : Int32)), .unset, .unset] [])) (fun _ kq => XS.icmpYes X.here hx rfl (pc0 := 103) (pc' := 138) rfl (hb hby d1_103) rfl (tlt hc103_134).2.2.1 (by decide) (by decide) kq) ?_
        refine own_st (T' := T) (F' := (mkF m 139 #[.val (.ref a), .val (.int (1 : Int32)), .val (.int (x0 &&& (255 : Int32))), .unset, .val (.int (128 : Int32)), .val (.int (191 : Int32)), .unset, .unset] [(.int (0 : Int32))])) (fun _ kq => XS.iconst X.here hx rfl (hb hby d1_138) kq) ?_
        exact own_retI X hx hlk hret (hb hby d1_139) (by decide) (by decide) (own_PQi rfl N eT)
      ·
        rw [if_neg hc103_134]
        refine own_st (T' := T) (F' := (mkF m 106 #[.val (.ref a), .val (.int (1 : Int32)), .val (.int (x0 &&& (255 : Int32))), .unset, .val (.int (128 : Int32)), .val (.int (191 : Int32)), .unset, .unset] [])) (fun _ kq => XS.icmpNo X.here hx rfl (hb hby d1_103) rfl (flt hc103_134).2.2.1 kq) ?_
        refine own_st (T' := T) (F' := (mkF m 107 #[.val (.ref a), .val (.int (1 : Int32)), .val (.int (x0 &&& (255 : Int32))), .unset, .val (.int (128 : Int32)), .val (.int (191 : Int32)), .unset, .unset] [(.int (4 : Int32))])) (fun _ kq => XS.iconst X.here hx rfl (hb hby d1_106) kq) ?_
        refine own_st (T' := T) (F' := (mkF m 108 #[.val (.ref a), .val (.int (1 : Int32)), .val (.int (x0 &&& (255 : Int32))), .val (.int (4 : Int32)), .val (.int (128 : Int32)), .val (.int (191 : Int32)), .unset, .unset] [])) (fun _ kq => XS.istoreN X.here hx rfl (hb hby d1_107) rfl (l' := #[.val (.ref a), .val (.int (1 : Int32)), .val (.int (x0 &&& (255 : Int32))), .val (.int (4 : Int32)), .val (.int (128 : Int32)), .val (.int (191 : Int32)), .unset, .unset]) rfl kq) ?_
        refine own_st (T' := T) (F' := (mkF m 109 #[.val (.ref a), .val (.int (1 : Int32)), .val (.int (x0 &&& (255 : Int32))), .val (.int (4 : Int32)), .val (.int (128 : Int32)), .val (.int (191 : Int32)), .unset, .unset] [(.int (x0 &&& (255 : Int32)))])) (fun _ kq => XS.iloadN X.here hx rfl (hb hby d1_108) rfl kq) ?_
        refine own_st (T' := T) (F' := (mkF m 112 #[.val (.ref a), .val (.int (1 : Int32)), .val (.int (x0 &&& (255 : Int32))), .val (.int (4 : Int32)), .val (.int (128 : Int32)), .val (.int (191 : Int32)), .unset, .unset] [(.int (240 : Int32)), (.int (x0 &&& (255 : Int32)))])) (fun _ kq => XS.sipush X.here hx rfl (hb hby d1_109) kq) ?_
        by_cases hc112_135 : (x0 &&& (255 : Int32)) = (240 : Int32)
        ·
          rw [if_pos hc112_135]
          refine own_st (T' := T) (F' := (mkF m 115 #[.val (.ref a), .val (.int (1 : Int32)), .val (.int (x0 &&& (255 : Int32))), .val (.int (4 : Int32)), .val (.int (128 : Int32)), .val (.int (191 : Int32)), .unset, .unset] [])) (fun _ kq => XS.icmpNo X.here hx rfl (hb hby d1_112) rfl (teq hc112_135).2 kq) ?_
          refine own_st (T' := T) (F' := (mkF m 118 #[.val (.ref a), .val (.int (1 : Int32)), .val (.int (x0 &&& (255 : Int32))), .val (.int (4 : Int32)), .val (.int (128 : Int32)), .val (.int (191 : Int32)), .unset, .unset] [(.int (144 : Int32))])) (fun _ kq => XS.sipush X.here hx rfl (hb hby d1_115) kq) ?_
          refine own_st (T' := T) (F' := (mkF m 120 #[.val (.ref a), .val (.int (1 : Int32)), .val (.int (x0 &&& (255 : Int32))), .val (.int (4 : Int32)), .val (.int (144 : Int32)), .val (.int (191 : Int32)), .unset, .unset] [])) (fun _ kq => XS.istore X.here hx rfl (hb hby d1_118) rfl (l' := #[.val (.ref a), .val (.int (1 : Int32)), .val (.int (x0 &&& (255 : Int32))), .val (.int (4 : Int32)), .val (.int (144 : Int32)), .val (.int (191 : Int32)), .unset, .unset]) rfl kq) ?_
          refine own_st (T' := T) (F' := (mkF m 140 #[.val (.ref a), .val (.int (1 : Int32)), .val (.int (x0 &&& (255 : Int32))), .val (.int (4 : Int32)), .val (.int (144 : Int32)), .val (.int (191 : Int32)), .unset, .unset] [])) (fun _ kq => XS.goto X.here hx rfl (pc0 := 120) (pc' := 140) rfl (hb hby d1_120) (by decide) (by decide) kq) ?_
          exact J140k4 (144 : Int32) (191 : Int32) T _ X eT N
        ·
          rw [if_neg hc112_135]
          refine own_st (T' := T) (F' := (mkF m 123 #[.val (.ref a), .val (.int (1 : Int32)), .val (.int (x0 &&& (255 : Int32))), .val (.int (4 : Int32)), .val (.int (128 : Int32)), .val (.int (191 : Int32)), .unset, .unset] [])) (fun _ kq => XS.icmpYes X.here hx rfl (pc0 := 112) (pc' := 123) rfl (hb hby d1_112) rfl (feq hc112_135).2 (by decide) (by decide) kq) ?_
          refine own_st (T' := T) (F' := (mkF m 124 #[.val (.ref a), .val (.int (1 : Int32)), .val (.int (x0 &&& (255 : Int32))), .val (.int (4 : Int32)), .val (.int (128 : Int32)), .val (.int (191 : Int32)), .unset, .unset] [(.int (x0 &&& (255 : Int32)))])) (fun _ kq => XS.iloadN X.here hx rfl (hb hby d1_123) rfl kq) ?_
          refine own_st (T' := T) (F' := (mkF m 127 #[.val (.ref a), .val (.int (1 : Int32)), .val (.int (x0 &&& (255 : Int32))), .val (.int (4 : Int32)), .val (.int (128 : Int32)), .val (.int (191 : Int32)), .unset, .unset] [(.int (244 : Int32)), (.int (x0 &&& (255 : Int32)))])) (fun _ kq => XS.sipush X.here hx rfl (hb hby d1_124) kq) ?_
          by_cases hc127_136 : (x0 &&& (255 : Int32)) = (244 : Int32)
          ·
            rw [if_pos hc127_136]
            refine own_st (T' := T) (F' := (mkF m 130 #[.val (.ref a), .val (.int (1 : Int32)), .val (.int (x0 &&& (255 : Int32))), .val (.int (4 : Int32)), .val (.int (128 : Int32)), .val (.int (191 : Int32)), .unset, .unset] [])) (fun _ kq => XS.icmpNo X.here hx rfl (hb hby d1_127) rfl (teq hc127_136).2 kq) ?_
            refine own_st (T' := T) (F' := (mkF m 133 #[.val (.ref a), .val (.int (1 : Int32)), .val (.int (x0 &&& (255 : Int32))), .val (.int (4 : Int32)), .val (.int (128 : Int32)), .val (.int (191 : Int32)), .unset, .unset] [(.int (143 : Int32))])) (fun _ kq => XS.sipush X.here hx rfl (hb hby d1_130) kq) ?_
            refine own_st (T' := T) (F' := (mkF m 135 #[.val (.ref a), .val (.int (1 : Int32)), .val (.int (x0 &&& (255 : Int32))), .val (.int (4 : Int32)), .val (.int (128 : Int32)), .val (.int (143 : Int32)), .unset, .unset] [])) (fun _ kq => XS.istore X.here hx rfl (hb hby d1_133) rfl (l' := #[.val (.ref a), .val (.int (1 : Int32)), .val (.int (x0 &&& (255 : Int32))), .val (.int (4 : Int32)), .val (.int (128 : Int32)), .val (.int (143 : Int32)), .unset, .unset]) rfl kq) ?_
            refine own_st (T' := T) (F' := (mkF m 140 #[.val (.ref a), .val (.int (1 : Int32)), .val (.int (x0 &&& (255 : Int32))), .val (.int (4 : Int32)), .val (.int (128 : Int32)), .val (.int (143 : Int32)), .unset, .unset] [])) (fun _ kq => XS.goto X.here hx rfl (pc0 := 135) (pc' := 140) rfl (hb hby d1_135) (by decide) (by decide) kq) ?_
            exact J140k4 (128 : Int32) (143 : Int32) T _ X eT N
          ·
            rw [if_neg hc127_136]
            refine own_st (T' := T) (F' := (mkF m 140 #[.val (.ref a), .val (.int (1 : Int32)), .val (.int (x0 &&& (255 : Int32))), .val (.int (4 : Int32)), .val (.int (128 : Int32)), .val (.int (191 : Int32)), .unset, .unset] [])) (fun _ kq => XS.icmpYes X.here hx rfl (pc0 := 127) (pc' := 140) rfl (hb hby d1_127) rfl (feq hc127_136).2 (by decide) (by decide) kq) ?_
            exact J140k4 (128 : Int32) (191 : Int32) T _ X eT N
  have J46 : ∀ (T : State) (locs : List Loc) (X : Stand p l e ({ frames := 0, cells := 0, slots := 0, locals := 0 } : Room) s m #[(.ref a), (.int (1 : Int32))] below meth c T locs 0 0) (eT : T.heap = h0) (N : Fr n0 locs), own_Ends p e below s 0 0 (own_PQ (.int (sl4_46 x0 x1 x2 x3)) h0 n0) T (mkF m 46 #[.val (.ref a), .val (.int (1 : Int32)), .val (.int (x0 &&& (255 : Int32))), .unset, .val (.int (128 : Int32)), .val (.int (191 : Int32)), .unset, .unset] []) := by
    intro T locs X eT N
    unfold sl4_46
    refine own_st (T' := T) (F' := (mkF m 47 #[.val (.ref a), .val (.int (1 : Int32)), .val (.int (x0 &&& (255 : Int32))), .unset, .val (.int (128 : Int32)), .val (.int (191 : Int32)), .unset, .unset] [(.int (x0 &&& (255 : Int32)))])) (fun _ kq => XS.iloadN X.here hx rfl (hb hby d1_46) rfl kq) ?_
    refine own_st (T' := T) (F' := (mkF m 50 #[.val (.ref a), .val (.int (1 : Int32)), .val (.int (x0 &&& (255 : Int32))), .unset, .val (.int (128 : Int32)), .val (.int (191 : Int32)), .unset, .unset] [(.int (224 : Int32)), (.int (x0 &&& (255 : Int32)))])) (fun _ kq => XS.sipush X.here hx rfl (hb hby d1_47) kq) ?_
    by_cases hc50_137 : (x0 &&& (255 : Int32)) < (224 : Int32)
    ·
      rw [if_pos hc50_137]
      refine own_st (T' := T) (F' := (mkF m 92 #[.val (.ref a), .val (.int (1 : Int32)), .val (.int (x0 &&& (255 : Int32))), .unset, .val (.int (128 : Int32)), .val (.int (191 : Int32)), .unset, .unset] [])) (fun _ kq => XS.icmpYes X.here hx rfl (pc0 := 50) (pc' := 92) rfl (hb hby d1_50) rfl (tlt hc50_137).1 (by decide) (by decide) kq) ?_
      exact J92  T _ X eT N
    ·
      rw [if_neg hc50_137]
      refine own_st (T' := T) (F' := (mkF m 53 #[.val (.ref a), .val (.int (1 : Int32)), .val (.int (x0 &&& (255 : Int32))), .unset, .val (.int (128 : Int32)), .val (.int (191 : Int32)), .unset, .unset] [])) (fun _ kq => XS.icmpNo X.here hx rfl (hb hby d1_50) rfl (flt hc50_137).1 kq) ?_
      refine own_st (T' := T) (F' := (mkF m 54 #[.val (.ref a), .val (.int (1 : Int32)), .val (.int (x0 &&& (255 : Int32))), .unset, .val (.int (128 : Int32)), .val (.int (191 : Int32)), .unset, .unset] [(.int (x0 &&& (255 : Int32)))])) (fun _ kq => XS.iloadN X.here hx rfl (hb hby d1_53) rfl kq) ?_
      refine own_st (T' := T) (F' := (mkF m 57 #[.val (.ref a), .val (.int (1 : Int32)), .val (.int (x0 &&& (255 : Int32))), .unset, .val (.int (128 : Int32)), .val (.int (191 : Int32)), .unset, .unset] [(.int (239 : Int32)), (.int (x0 &&& (255 : Int32)))])) (fun _ kq => XS.sipush X.here hx rfl (hb hby d1_54) kq) ?_
      by_cases hc57_138 : (239 : Int32) < (x0 &&& (255 : Int32))
      ·
        rw [if_pos hc57_138]
        refine own_st (T' := T) (F' := (mkF m 92 #[.val (.ref a), .val (.int (1 : Int32)), .val (.int (x0 &&& (255 : Int32))), .unset, .val (.int (128 : Int32)), .val (.int (191 : Int32)), .unset, .unset] [])) (fun _ kq => XS.icmpYes X.here hx rfl (pc0 := 57) (pc' := 92) rfl (hb hby d1_57) rfl (tlt hc57_138).2.2.1 (by decide) (by decide) kq) ?_
        exact J92  T _ X eT N
      ·
        rw [if_neg hc57_138]
        refine own_st (T' := T) (F' := (mkF m 60 #[.val (.ref a), .val (.int (1 : Int32)), .val (.int (x0 &&& (255 : Int32))), .unset, .val (.int (128 : Int32)), .val (.int (191 : Int32)), .unset, .unset] [])) (fun _ kq => XS.icmpNo X.here hx rfl (hb hby d1_57) rfl (flt hc57_138).2.2.1 kq) ?_
        refine own_st (T' := T) (F' := (mkF m 61 #[.val (.ref a), .val (.int (1 : Int32)), .val (.int (x0 &&& (255 : Int32))), .unset, .val (.int (128 : Int32)), .val (.int (191 : Int32)), .unset, .unset] [(.int (3 : Int32))])) (fun _ kq => XS.iconst X.here hx rfl (hb hby d1_60) kq) ?_
        refine own_st (T' := T) (F' := (mkF m 62 #[.val (.ref a), .val (.int (1 : Int32)), .val (.int (x0 &&& (255 : Int32))), .val (.int (3 : Int32)), .val (.int (128 : Int32)), .val (.int (191 : Int32)), .unset, .unset] [])) (fun _ kq => XS.istoreN X.here hx rfl (hb hby d1_61) rfl (l' := #[.val (.ref a), .val (.int (1 : Int32)), .val (.int (x0 &&& (255 : Int32))), .val (.int (3 : Int32)), .val (.int (128 : Int32)), .val (.int (191 : Int32)), .unset, .unset]) rfl kq) ?_
        refine own_st (T' := T) (F' := (mkF m 63 #[.val (.ref a), .val (.int (1 : Int32)), .val (.int (x0 &&& (255 : Int32))), .val (.int (3 : Int32)), .val (.int (128 : Int32)), .val (.int (191 : Int32)), .unset, .unset] [(.int (x0 &&& (255 : Int32)))])) (fun _ kq => XS.iloadN X.here hx rfl (hb hby d1_62) rfl kq) ?_
        refine own_st (T' := T) (F' := (mkF m 66 #[.val (.ref a), .val (.int (1 : Int32)), .val (.int (x0 &&& (255 : Int32))), .val (.int (3 : Int32)), .val (.int (128 : Int32)), .val (.int (191 : Int32)), .unset, .unset] [(.int (224 : Int32)), (.int (x0 &&& (255 : Int32)))])) (fun _ kq => XS.sipush X.here hx rfl (hb hby d1_63) kq) ?_
        by_cases hc66_139 : (x0 &&& (255 : Int32)) = (224 : Int32)
        ·
          rw [if_pos hc66_139]
          refine own_st (T' := T) (F' := (mkF m 69 #[.val (.ref a), .val (.int (1 : Int32)), .val (.int (x0 &&& (255 : Int32))), .val (.int (3 : Int32)), .val (.int (128 : Int32)), .val (.int (191 : Int32)), .unset, .unset] [])) (fun _ kq => XS.icmpNo X.here hx rfl (hb hby d1_66) rfl (teq hc66_139).2 kq) ?_
          refine own_st (T' := T) (F' := (mkF m 72 #[.val (.ref a), .val (.int (1 : Int32)), .val (.int (x0 &&& (255 : Int32))), .val (.int (3 : Int32)), .val (.int (128 : Int32)), .val (.int (191 : Int32)), .unset, .unset] [(.int (160 : Int32))])) (fun _ kq => XS.sipush X.here hx rfl (hb hby d1_69) kq) ?_
          refine own_st (T' := T) (F' := (mkF m 74 #[.val (.ref a), .val (.int (1 : Int32)), .val (.int (x0 &&& (255 : Int32))), .val (.int (3 : Int32)), .val (.int (160 : Int32)), .val (.int (191 : Int32)), .unset, .unset] [])) (fun _ kq => XS.istore X.here hx rfl (hb hby d1_72) rfl (l' := #[.val (.ref a), .val (.int (1 : Int32)), .val (.int (x0 &&& (255 : Int32))), .val (.int (3 : Int32)), .val (.int (160 : Int32)), .val (.int (191 : Int32)), .unset, .unset]) rfl kq) ?_
          refine own_st (T' := T) (F' := (mkF m 140 #[.val (.ref a), .val (.int (1 : Int32)), .val (.int (x0 &&& (255 : Int32))), .val (.int (3 : Int32)), .val (.int (160 : Int32)), .val (.int (191 : Int32)), .unset, .unset] [])) (fun _ kq => XS.goto X.here hx rfl (pc0 := 74) (pc' := 140) rfl (hb hby d1_74) (by decide) (by decide) kq) ?_
          exact J140k3 (160 : Int32) (191 : Int32) T _ X eT N
        ·
          rw [if_neg hc66_139]
          refine own_st (T' := T) (F' := (mkF m 77 #[.val (.ref a), .val (.int (1 : Int32)), .val (.int (x0 &&& (255 : Int32))), .val (.int (3 : Int32)), .val (.int (128 : Int32)), .val (.int (191 : Int32)), .unset, .unset] [])) (fun _ kq => XS.icmpYes X.here hx rfl (pc0 := 66) (pc' := 77) rfl (hb hby d1_66) rfl (feq hc66_139).2 (by decide) (by decide) kq) ?_
          refine own_st (T' := T) (F' := (mkF m 78 #[.val (.ref a), .val (.int (1 : Int32)), .val (.int (x0 &&& (255 : Int32))), .val (.int (3 : Int32)), .val (.int (128 : Int32)), .val (.int (191 : Int32)), .unset, .unset] [(.int (x0 &&& (255 : Int32)))])) (fun _ kq => XS.iloadN X.here hx rfl (hb hby d1_77) rfl kq) ?_
          refine own_st (T' := T) (F' := (mkF m 81 #[.val (.ref a), .val (.int (1 : Int32)), .val (.int (x0 &&& (255 : Int32))), .val (.int (3 : Int32)), .val (.int (128 : Int32)), .val (.int (191 : Int32)), .unset, .unset] [(.int (237 : Int32)), (.int (x0 &&& (255 : Int32)))])) (fun _ kq => XS.sipush X.here hx rfl (hb hby d1_78) kq) ?_
          by_cases hc81_140 : (x0 &&& (255 : Int32)) = (237 : Int32)
          ·
            rw [if_pos hc81_140]
            refine own_st (T' := T) (F' := (mkF m 84 #[.val (.ref a), .val (.int (1 : Int32)), .val (.int (x0 &&& (255 : Int32))), .val (.int (3 : Int32)), .val (.int (128 : Int32)), .val (.int (191 : Int32)), .unset, .unset] [])) (fun _ kq => XS.icmpNo X.here hx rfl (hb hby d1_81) rfl (teq hc81_140).2 kq) ?_
            refine own_st (T' := T) (F' := (mkF m 87 #[.val (.ref a), .val (.int (1 : Int32)), .val (.int (x0 &&& (255 : Int32))), .val (.int (3 : Int32)), .val (.int (128 : Int32)), .val (.int (191 : Int32)), .unset, .unset] [(.int (159 : Int32))])) (fun _ kq => XS.sipush X.here hx rfl (hb hby d1_84) kq) ?_
            refine own_st (T' := T) (F' := (mkF m 89 #[.val (.ref a), .val (.int (1 : Int32)), .val (.int (x0 &&& (255 : Int32))), .val (.int (3 : Int32)), .val (.int (128 : Int32)), .val (.int (159 : Int32)), .unset, .unset] [])) (fun _ kq => XS.istore X.here hx rfl (hb hby d1_87) rfl (l' := #[.val (.ref a), .val (.int (1 : Int32)), .val (.int (x0 &&& (255 : Int32))), .val (.int (3 : Int32)), .val (.int (128 : Int32)), .val (.int (159 : Int32)), .unset, .unset]) rfl kq) ?_
            refine own_st (T' := T) (F' := (mkF m 140 #[.val (.ref a), .val (.int (1 : Int32)), .val (.int (x0 &&& (255 : Int32))), .val (.int (3 : Int32)), .val (.int (128 : Int32)), .val (.int (159 : Int32)), .unset, .unset] [])) (fun _ kq => XS.goto X.here hx rfl (pc0 := 89) (pc' := 140) rfl (hb hby d1_89) (by decide) (by decide) kq) ?_
            exact J140k3 (128 : Int32) (159 : Int32) T _ X eT N
          ·
            rw [if_neg hc81_140]
            refine own_st (T' := T) (F' := (mkF m 140 #[.val (.ref a), .val (.int (1 : Int32)), .val (.int (x0 &&& (255 : Int32))), .val (.int (3 : Int32)), .val (.int (128 : Int32)), .val (.int (191 : Int32)), .unset, .unset] [])) (fun _ kq => XS.icmpYes X.here hx rfl (pc0 := 81) (pc' := 140) rfl (hb hby d1_81) rfl (feq hc81_140).2 (by decide) (by decide) kq) ?_
            exact J140k3 (128 : Int32) (191 : Int32) T _ X eT N
  have N := Fr.nil n0
  refine own_entry (ef1 m a (1 : Int32)) ?_
  unfold sl4
  refine own_st (T' := T) (F' := (mkF m 1 #[.val (.ref a), .val (.int (1 : Int32)), .unset, .unset, .unset, .unset, .unset, .unset] [(.ref a)])) (fun _ kq => XS.aloadN X.here hx rfl (hb hby d1_0) rfl rfl kq) ?_
  refine own_st (T' := T) (F' := (mkF m 2 #[.val (.ref a), .val (.int (1 : Int32)), .unset, .unset, .unset, .unset, .unset, .unset] [(.int (1 : Int32)), (.ref a)])) (fun _ kq => XS.iloadN X.here hx rfl (hb hby d1_1) rfl kq) ?_
  refine own_st (T' := T) (F' := (mkF m 3 #[.val (.ref a), .val (.int (1 : Int32)), .unset, .unset, .unset, .unset, .unset, .unset] [(.int x0)])) (own_baload X hx hZ eT V (g := (mkF m 2 #[.val (.ref a), .val (.int (1 : Int32)), .unset, .unset, .unset, .unset, .unset, .unset] [(.int (1 : Int32)), (.ref a)])) rfl rfl (hb hby d1_2) (by decide) (Nat.le_of_ble_eq_true rfl) (w := x0) rfl) ?_
  refine own_st (T' := T) (F' := (mkF m 6 #[.val (.ref a), .val (.int (1 : Int32)), .unset, .unset, .unset, .unset, .unset, .unset] [(.int (255 : Int32)), (.int x0)])) (fun _ kq => XS.sipush X.here hx rfl (hb hby d1_3) kq) ?_
  refine own_st (T' := T) (F' := (mkF m 7 #[.val (.ref a), .val (.int (1 : Int32)), .unset, .unset, .unset, .unset, .unset, .unset] [(.int (x0 &&& (255 : Int32)))])) (fun _ kq => XS.iand X.here hx rfl (hb hby d1_6) rfl kq) ?_
  refine own_st (T' := T) (F' := (mkF m 8 #[.val (.ref a), .val (.int (1 : Int32)), .val (.int (x0 &&& (255 : Int32))), .unset, .unset, .unset, .unset, .unset] [])) (fun _ kq => XS.istoreN X.here hx rfl (hb hby d1_7) rfl (l' := #[.val (.ref a), .val (.int (1 : Int32)), .val (.int (x0 &&& (255 : Int32))), .unset, .unset, .unset, .unset, .unset]) rfl kq) ?_
  refine own_st (T' := T) (F' := (mkF m 9 #[.val (.ref a), .val (.int (1 : Int32)), .val (.int (x0 &&& (255 : Int32))), .unset, .unset, .unset, .unset, .unset] [(.int (x0 &&& (255 : Int32)))])) (fun _ kq => XS.iloadN X.here hx rfl (hb hby d1_8) rfl kq) ?_
  refine own_st (T' := T) (F' := (mkF m 12 #[.val (.ref a), .val (.int (1 : Int32)), .val (.int (x0 &&& (255 : Int32))), .unset, .unset, .unset, .unset, .unset] [(.int (128 : Int32)), (.int (x0 &&& (255 : Int32)))])) (fun _ kq => XS.sipush X.here hx rfl (hb hby d1_9) kq) ?_
  by_cases hc12_141 : (x0 &&& (255 : Int32)) < (128 : Int32)
  ·
    rw [if_pos hc12_141]
    refine own_st (T' := T) (F' := (mkF m 15 #[.val (.ref a), .val (.int (1 : Int32)), .val (.int (x0 &&& (255 : Int32))), .unset, .unset, .unset, .unset, .unset] [])) (fun _ kq => XS.icmpNo X.here hx rfl (hb hby d1_12) rfl (tlt hc12_141).2.1 kq) ?_
    refine own_st (T' := T) (F' := (mkF m 16 #[.val (.ref a), .val (.int (1 : Int32)), .val (.int (x0 &&& (255 : Int32))), .unset, .unset, .unset, .unset, .unset] [(.int (1 : Int32))])) (fun _ kq => XS.iconst X.here hx rfl (hb hby d1_15) kq) ?_
    exact own_retI X hx hlk hret (hb hby d1_16) (by decide) (by decide) (own_PQi rfl N eT)
  ·
    rw [if_neg hc12_141]
    refine own_st (T' := T) (F' := (mkF m 17 #[.val (.ref a), .val (.int (1 : Int32)), .val (.int (x0 &&& (255 : Int32))), .unset, .unset, .unset, .unset, .unset] [])) (fun _ kq => XS.icmpYes X.here hx rfl (pc0 := 12) (pc' := 17) rfl (hb hby d1_12) rfl (flt hc12_141).2.1 (by decide) (by decide) kq) ?_
    refine own_st (T' := T) (F' := (mkF m 20 #[.val (.ref a), .val (.int (1 : Int32)), .val (.int (x0 &&& (255 : Int32))), .unset, .unset, .unset, .unset, .unset] [(.int (128 : Int32))])) (fun _ kq => XS.sipush X.here hx rfl (hb hby d1_17) kq) ?_
    refine own_st (T' := T) (F' := (mkF m 22 #[.val (.ref a), .val (.int (1 : Int32)), .val (.int (x0 &&& (255 : Int32))), .unset, .val (.int (128 : Int32)), .unset, .unset, .unset] [])) (fun _ kq => XS.istore X.here hx rfl (hb hby d1_20) rfl (l' := #[.val (.ref a), .val (.int (1 : Int32)), .val (.int (x0 &&& (255 : Int32))), .unset, .val (.int (128 : Int32)), .unset, .unset, .unset]) rfl kq) ?_
    refine own_st (T' := T) (F' := (mkF m 25 #[.val (.ref a), .val (.int (1 : Int32)), .val (.int (x0 &&& (255 : Int32))), .unset, .val (.int (128 : Int32)), .unset, .unset, .unset] [(.int (191 : Int32))])) (fun _ kq => XS.sipush X.here hx rfl (hb hby d1_22) kq) ?_
    refine own_st (T' := T) (F' := (mkF m 27 #[.val (.ref a), .val (.int (1 : Int32)), .val (.int (x0 &&& (255 : Int32))), .unset, .val (.int (128 : Int32)), .val (.int (191 : Int32)), .unset, .unset] [])) (fun _ kq => XS.istore X.here hx rfl (hb hby d1_25) rfl (l' := #[.val (.ref a), .val (.int (1 : Int32)), .val (.int (x0 &&& (255 : Int32))), .unset, .val (.int (128 : Int32)), .val (.int (191 : Int32)), .unset, .unset]) rfl kq) ?_
    refine own_st (T' := T) (F' := (mkF m 28 #[.val (.ref a), .val (.int (1 : Int32)), .val (.int (x0 &&& (255 : Int32))), .unset, .val (.int (128 : Int32)), .val (.int (191 : Int32)), .unset, .unset] [(.int (x0 &&& (255 : Int32)))])) (fun _ kq => XS.iloadN X.here hx rfl (hb hby d1_27) rfl kq) ?_
    refine own_st (T' := T) (F' := (mkF m 31 #[.val (.ref a), .val (.int (1 : Int32)), .val (.int (x0 &&& (255 : Int32))), .unset, .val (.int (128 : Int32)), .val (.int (191 : Int32)), .unset, .unset] [(.int (194 : Int32)), (.int (x0 &&& (255 : Int32)))])) (fun _ kq => XS.sipush X.here hx rfl (hb hby d1_28) kq) ?_
    by_cases hc31_142 : (x0 &&& (255 : Int32)) < (194 : Int32)
    ·
      rw [if_pos hc31_142]
      refine own_st (T' := T) (F' := (mkF m 46 #[.val (.ref a), .val (.int (1 : Int32)), .val (.int (x0 &&& (255 : Int32))), .unset, .val (.int (128 : Int32)), .val (.int (191 : Int32)), .unset, .unset] [])) (fun _ kq => XS.icmpYes X.here hx rfl (pc0 := 31) (pc' := 46) rfl (hb hby d1_31) rfl (tlt hc31_142).1 (by decide) (by decide) kq) ?_
      exact J46  T _ X eT N
    ·
      rw [if_neg hc31_142]
      refine own_st (T' := T) (F' := (mkF m 34 #[.val (.ref a), .val (.int (1 : Int32)), .val (.int (x0 &&& (255 : Int32))), .unset, .val (.int (128 : Int32)), .val (.int (191 : Int32)), .unset, .unset] [])) (fun _ kq => XS.icmpNo X.here hx rfl (hb hby d1_31) rfl (flt hc31_142).1 kq) ?_
      refine own_st (T' := T) (F' := (mkF m 35 #[.val (.ref a), .val (.int (1 : Int32)), .val (.int (x0 &&& (255 : Int32))), .unset, .val (.int (128 : Int32)), .val (.int (191 : Int32)), .unset, .unset] [(.int (x0 &&& (255 : Int32)))])) (fun _ kq => XS.iloadN X.here hx rfl (hb hby d1_34) rfl kq) ?_
      refine own_st (T' := T) (F' := (mkF m 38 #[.val (.ref a), .val (.int (1 : Int32)), .val (.int (x0 &&& (255 : Int32))), .unset, .val (.int (128 : Int32)), .val (.int (191 : Int32)), .unset, .unset] [(.int (223 : Int32)), (.int (x0 &&& (255 : Int32)))])) (fun _ kq => XS.sipush X.here hx rfl (hb hby d1_35) kq) ?_
      by_cases hc38_143 : (223 : Int32) < (x0 &&& (255 : Int32))
      ·
        rw [if_pos hc38_143]
        refine own_st (T' := T) (F' := (mkF m 46 #[.val (.ref a), .val (.int (1 : Int32)), .val (.int (x0 &&& (255 : Int32))), .unset, .val (.int (128 : Int32)), .val (.int (191 : Int32)), .unset, .unset] [])) (fun _ kq => XS.icmpYes X.here hx rfl (pc0 := 38) (pc' := 46) rfl (hb hby d1_38) rfl (tlt hc38_143).2.2.1 (by decide) (by decide) kq) ?_
        exact J46  T _ X eT N
      ·
        rw [if_neg hc38_143]
        refine own_st (T' := T) (F' := (mkF m 41 #[.val (.ref a), .val (.int (1 : Int32)), .val (.int (x0 &&& (255 : Int32))), .unset, .val (.int (128 : Int32)), .val (.int (191 : Int32)), .unset, .unset] [])) (fun _ kq => XS.icmpNo X.here hx rfl (hb hby d1_38) rfl (flt hc38_143).2.2.1 kq) ?_
        refine own_st (T' := T) (F' := (mkF m 42 #[.val (.ref a), .val (.int (1 : Int32)), .val (.int (x0 &&& (255 : Int32))), .unset, .val (.int (128 : Int32)), .val (.int (191 : Int32)), .unset, .unset] [(.int (2 : Int32))])) (fun _ kq => XS.iconst X.here hx rfl (hb hby d1_41) kq) ?_
        refine own_st (T' := T) (F' := (mkF m 43 #[.val (.ref a), .val (.int (1 : Int32)), .val (.int (x0 &&& (255 : Int32))), .val (.int (2 : Int32)), .val (.int (128 : Int32)), .val (.int (191 : Int32)), .unset, .unset] [])) (fun _ kq => XS.istoreN X.here hx rfl (hb hby d1_42) rfl (l' := #[.val (.ref a), .val (.int (1 : Int32)), .val (.int (x0 &&& (255 : Int32))), .val (.int (2 : Int32)), .val (.int (128 : Int32)), .val (.int (191 : Int32)), .unset, .unset]) rfl kq) ?_
        refine own_st (T' := T) (F' := (mkF m 140 #[.val (.ref a), .val (.int (1 : Int32)), .val (.int (x0 &&& (255 : Int32))), .val (.int (2 : Int32)), .val (.int (128 : Int32)), .val (.int (191 : Int32)), .unset, .unset] [])) (fun _ kq => XS.goto X.here hx rfl (pc0 := 43) (pc' := 140) rfl (hb hby d1_43) (by decide) (by decide) kq) ?_
        exact J140k2  T _ X eT N
theorem own_n8 (y : Int32) : (((y.toInt8.toInt32).toInt8.toInt32) &&& (255 : Int32)).toInt = y.toInt % 256 := by
  have h1 := c_i2b y
  have h2 := c_i2b (y.toInt8.toInt32)
  have h3 := c_mask ((y.toInt8.toInt32).toInt8.toInt32) 255 8 (by decide) (by decide)
  have e : ((2 ^ 8 : Nat) : Int) = 256 := rfl
  rw [e] at h3
  rw [h3]
  generalize (y.toInt8.toInt32).toInt8.toInt32.toInt = a at *
  generalize y.toInt8.toInt32.toInt = b at *
  omega
theorem own_id {y : Int32} (h : ¬ y < 0 ∧ y.toInt ≤ 255) : (((y.toInt8.toInt32).toInt8.toInt32) &&& (255 : Int32)) = y := by
  rw [← Int32.toInt_inj, own_n8]
  have e0 : (0 : Int32).toInt = 0 := rfl
  rw [Int32.lt_iff_toInt_lt] at h
  omega
theorem own_and {y z m' : Int32} (hm : (255 : Int32) &&& m' = m') (h : y &&& (255 : Int32) = z) : y &&& m' = z &&& m' := by
  rw [← h, Int32.and_assoc, hm]
theorem own_m6 (y : Int32) : (y &&& (63 : Int32)).toInt = y.toInt % 64 := c_mask y 63 6 (by decide) (by decide)
theorem own_fin {P : Int32 → Prop} (H : ∀ n : Fin 256, P (Int32.ofNat n.val)) {y : Int32} (h : 0 ≤ y.toInt ∧ y.toInt ≤ 255) : P y := by
  have e : y = Int32.ofNat y.toInt.toNat := by
    rw [← Int32.toInt_inj, Int32.toInt_ofNat_of_lt (by omega)]; omega
  rw [e]
  exact H ⟨y.toInt.toNat, by omega⟩
theorem own_c192 {y : Int32} (h : 0 ≤ y.toInt ∧ y.toInt ≤ 255) : ((y &&& (192 : Int32)) = (128 : Int32)) ↔ (128 ≤ y.toInt ∧ y.toInt ≤ 191) :=
  own_fin (P := fun y => ((y &&& (192 : Int32)) = (128 : Int32)) ↔ (128 ≤ y.toInt ∧ y.toInt ≤ 191)) (by decide +kernel) h
theorem own_sh6 {y z : Int32} (hy : 0 ≤ y.toInt ∧ y.toInt < 1048576) (hz : 0 ≤ z.toInt ∧ z.toInt < 64) : ((y <<< ((6 : Int32) &&& 31)) ||| z).toInt = y.toInt * 64 + z.toInt := by
  have s := c_ishl y 6 6 (by decide)
  have e : ((2 ^ 6 : Nat) : Int) = 64 := rfl
  rw [e] at s
  have r := rng32 (y <<< ((6 : Int32) &&& 31))
  generalize y <<< ((6 : Int32) &&& 31) = w at s r
  have hw : w.toInt = y.toInt * 64 := by omega
  have o := c_or w z 6 (by decide) 64 rfl (by omega) (by omega) (by omega)
  have r2 := rng32 (w ||| z)
  omega
theorem own_a1 {y n : Int32} (h : (y &&& (1 : Int32)) = n) : n = 0 ∨ n = 1 := by
  have h2 := c_mask y 1 1 (by decide) (by decide)
  rw [h] at h2
  simp only [← Int32.toInt_inj]
  have e0 : (0 : Int32).toInt = 0 := rfl
  have e1 : (1 : Int32).toInt = 1 := rfl
  omega
theorem own_n4 {y n : Int32} (h : ((1 : Int32) + (y &&& (3 : Int32))) = n) : n = 1 ∨ n = 2 ∨ n = 3 ∨ n = 4 := by
  have h2 := c_mask y 3 2 (by decide) (by decide)
  have h3 := c_iadd 1 (y &&& 3)
  rw [h] at h3
  have := rng32 n
  simp only [← Int32.toInt_inj]
  have e1 : (1 : Int32).toInt = 1 := rfl
  have e2 : (2 : Int32).toInt = 2 := rfl
  have e3 : (3 : Int32).toInt = 3 := rfl
  have e4 : (4 : Int32).toInt = 4 := rfl
  omega
theorem own_nb (y : Int32) : (((y.toInt8.toInt32).toInt8.toInt32) &&& (255 : Int32)) = (y &&& (255 : Int32)) := by
  rw [← Int32.toInt_inj, own_n8]
  exact (c_mask y 255 8 (by decide) (by decide)).symm
theorem own_byte (y : Int32) : 0 ≤ (y &&& (255 : Int32)).toInt ∧ (y &&& (255 : Int32)).toInt ≤ 255 := by
  have := c_mask y 255 8 (by decide) (by decide)
  have e : ((2 ^ 8 : Nat) : Int) = 256 := rfl
  rw [e] at this; omega
theorem own_f3z {y : Int32} (h : 0 ≤ y.toInt ∧ y.toInt ≤ 255) : (f3 y = (0 : Int32)) ↔ (y.toInt < 128 ∨ 191 < y.toInt) := by
  unfold f3
  have q := own_c192 h
  by_cases a : (y &&& (192 : Int32)) = (128 : Int32)
  · rw [if_pos a]; have := q.mp a; exact ⟨fun z => absurd z (by decide), fun z => by omega⟩
  · rw [if_neg a]; refine ⟨fun _ => ?_, fun _ => rfl⟩
    have : ¬ (128 ≤ y.toInt ∧ y.toInt ≤ 191) := fun z => a (q.mpr z)
    omega
theorem own_c224 {y : Int32} (h : 0 ≤ y.toInt ∧ y.toInt ≤ 255) : ((y &&& (224 : Int32)) = (192 : Int32)) ↔ (192 ≤ y.toInt ∧ y.toInt ≤ 223) :=
  own_fin (P := fun y => ((y &&& (224 : Int32)) = (192 : Int32)) ↔ (192 ≤ y.toInt ∧ y.toInt ≤ 223)) (by decide +kernel) h
theorem own_c240 {y : Int32} (h : 0 ≤ y.toInt ∧ y.toInt ≤ 255) : ((y &&& (240 : Int32)) = (224 : Int32)) ↔ (224 ≤ y.toInt ∧ y.toInt ≤ 239) :=
  own_fin (P := fun y => ((y &&& (240 : Int32)) = (224 : Int32)) ↔ (224 ≤ y.toInt ∧ y.toInt ≤ 239)) (by decide +kernel) h
theorem own_c248 {y : Int32} (h : 0 ≤ y.toInt ∧ y.toInt ≤ 255) : ((y &&& (248 : Int32)) = (240 : Int32)) ↔ (240 ≤ y.toInt ∧ y.toInt ≤ 247) :=
  own_fin (P := fun y => ((y &&& (248 : Int32)) = (240 : Int32)) ↔ (240 ≤ y.toInt ∧ y.toInt ≤ 247)) (by decide +kernel) h
theorem own_v2 {u0 u1 z : Int32} (r0 : 0 ≤ u0.toInt ∧ u0.toInt ≤ 255) (r1 : 0 ≤ u1.toInt ∧ u1.toInt ≤ 255) (h : z = (((u0 &&& (31 : Int32)) <<< ((6 : Int32) &&& 31)) ||| (u1 &&& (63 : Int32)))) : z.toInt = (u0.toInt % 32) * 64 + u1.toInt % 64 := by
  subst h
  have m0 := c_mask u0 31 5 (by decide) (by decide)
  have e : ((2 ^ 5 : Nat) : Int) = 32 := rfl
  rw [e] at m0
  have m1 := own_m6 u1
  rw [own_sh6 (by omega) (by omega), m0, m1]
theorem own_v3 {u0 u1 u2 z : Int32} (r0 : 0 ≤ u0.toInt ∧ u0.toInt ≤ 255) (r1 : 0 ≤ u1.toInt ∧ u1.toInt ≤ 255) (r2 : 0 ≤ u2.toInt ∧ u2.toInt ≤ 255) (h : z = ((((u0 &&& (15 : Int32)) <<< ((6 : Int32) &&& 31)) ||| (u1 &&& (63 : Int32))) <<< ((6 : Int32) &&& 31)) ||| (u2 &&& (63 : Int32))) : z.toInt = ((u0.toInt % 16) * 64 + u1.toInt % 64) * 64 + u2.toInt % 64 := by
  subst h
  have m0 := c_mask u0 15 4 (by decide) (by decide)
  have e : ((2 ^ 4 : Nat) : Int) = 16 := rfl
  rw [e] at m0
  have m1 := own_m6 u1
  have m2 := own_m6 u2
  have s := own_sh6 (y := u0 &&& (15 : Int32)) (z := u1 &&& (63 : Int32)) (by omega) (by omega)
  rw [own_sh6 (by omega) (by omega), s, m0, m1, m2]
theorem own_v4 {u0 u1 u2 u3 z : Int32} (r0 : 0 ≤ u0.toInt ∧ u0.toInt ≤ 255) (r1 : 0 ≤ u1.toInt ∧ u1.toInt ≤ 255) (r2 : 0 ≤ u2.toInt ∧ u2.toInt ≤ 255) (r3 : 0 ≤ u3.toInt ∧ u3.toInt ≤ 255) (h : z = ((((((u0 &&& (7 : Int32)) <<< ((6 : Int32) &&& 31)) ||| (u1 &&& (63 : Int32))) <<< ((6 : Int32) &&& 31)) ||| (u2 &&& (63 : Int32))) <<< ((6 : Int32) &&& 31)) ||| (u3 &&& (63 : Int32))) : z.toInt = (((u0.toInt % 8) * 64 + u1.toInt % 64) * 64 + u2.toInt % 64) * 64 + u3.toInt % 64 := by
  subst h
  have m0 := c_mask u0 7 3 (by decide) (by decide)
  have e : ((2 ^ 3 : Nat) : Int) = 8 := rfl
  rw [e] at m0
  have m1 := own_m6 u1
  have m2 := own_m6 u2
  have m3 := own_m6 u3
  have s := own_sh6 (y := u0 &&& (7 : Int32)) (z := u1 &&& (63 : Int32)) (by omega) (by omega)
  have s2 := own_sh6 (y := ((u0 &&& (7 : Int32)) <<< ((6 : Int32) &&& 31)) ||| (u1 &&& (63 : Int32))) (z := u2 &&& (63 : Int32)) (by omega) (by omega)
  rw [own_sh6 (by omega) (by omega), s2, s, m0, m1, m2, m3]
theorem own_190 (L V z : Int32) : (z.toInt ≤ V.toInt ∧ V.toInt ≤ 1114111 ∧ (V.toInt < 55296 ∨ 57343 < V.toInt) ∧ f2_190 L V z = L) ∨ (¬ (z.toInt ≤ V.toInt ∧ V.toInt ≤ 1114111 ∧ (V.toInt < 55296 ∨ 57343 < V.toInt)) ∧ f2_190 L V z = 0) := by
  unfold f2_190
  simp only [Int32.lt_iff_toInt_lt, show (1114111 : Int32).toInt = 1114111 from rfl, show (55296 : Int32).toInt = 55296 from rfl, show (57343 : Int32).toInt = 57343 from rfl]
  by_cases a : V.toInt < z.toInt
  · rw [if_pos a]; right; exact ⟨by omega, rfl⟩
  rw [if_neg a]
  by_cases b : 1114111 < V.toInt
  · rw [if_pos b]; right; exact ⟨by omega, rfl⟩
  rw [if_neg b]
  by_cases c : V.toInt < 55296
  · rw [if_pos c]; left; exact ⟨by omega, by omega, Or.inl c, rfl⟩
  rw [if_neg c]
  by_cases d : 57343 < V.toInt
  · rw [if_pos d]; left; exact ⟨by omega, by omega, Or.inr d, rfl⟩
  rw [if_neg d]; right; exact ⟨by omega, rfl⟩
theorem own_e2 {u1 : Int32} (u2 u3 c V : Int32) (av : Int32) (r1 : 0 ≤ u1.toInt ∧ u1.toInt ≤ 255) (hav : ¬ av < (2 : Int32)) (hV : V = ((c <<< ((6 : Int32) &&& 31)) ||| (u1 &&& (63 : Int32)))) :
    (((128 ≤ u1.toInt ∧ u1.toInt ≤ 191) ∧ 128 ≤ V.toInt ∧ V.toInt ≤ 1114111 ∧ (V.toInt < 55296 ∨ 57343 < V.toInt)) ∧ f2_80 u1 u2 u3 av 2 c = 2) ∨ (¬ ((128 ≤ u1.toInt ∧ u1.toInt ≤ 191) ∧ 128 ≤ V.toInt ∧ V.toInt ≤ 1114111 ∧ (V.toInt < 55296 ∨ 57343 < V.toInt)) ∧ f2_80 u1 u2 u3 av 2 c = 0) := by
  subst hV
  unfold f2_80 f2_137 f2_164
  rw [if_neg hav]
  by_cases h : f3 u1 = 0
  · rw [if_pos h]; right; have := (own_f3z r1).mp h; exact ⟨by omega, rfl⟩
  rw [if_neg h, if_pos (by decide : (2 : Int32) < 3), if_pos (by decide : (2 : Int32) < 4), if_pos rfl]
  have q : 128 ≤ u1.toInt ∧ u1.toInt ≤ 191 := by
    have : ¬ (u1.toInt < 128 ∨ 191 < u1.toInt) := fun z => h ((own_f3z r1).mpr z)
    omega
  have e : (128 : Int32).toInt = 128 := rfl
  have := own_190 2 ((c <<< ((6 : Int32) &&& 31)) ||| (u1 &&& (63 : Int32))) 128
  rw [e] at this
  generalize ((c <<< ((6 : Int32) &&& 31)) ||| (u1 &&& (63 : Int32))) = V at *
  rcases this with ⟨a, b, d, f⟩ | ⟨a, f⟩
  · left; exact ⟨⟨q, a, b, d⟩, f⟩
  · right; exact ⟨fun z => a z.2, f⟩
theorem own_nf {y : Int32} (r : 0 ≤ y.toInt ∧ y.toInt ≤ 255) (h : ¬ f3 y = 0) : 128 ≤ y.toInt ∧ y.toInt ≤ 191 := by
  have : ¬ (y.toInt < 128 ∨ 191 < y.toInt) := fun z => h ((own_f3z r).mpr z)
  omega
theorem own_e3 {u1 u2 : Int32} (u3 c V : Int32) (av : Int32) (r1 : 0 ≤ u1.toInt ∧ u1.toInt ≤ 255) (r2 : 0 ≤ u2.toInt ∧ u2.toInt ≤ 255) (hav : ¬ av < (3 : Int32)) (hV : V = ((((c <<< ((6 : Int32) &&& 31)) ||| (u1 &&& (63 : Int32))) <<< ((6 : Int32) &&& 31)) ||| (u2 &&& (63 : Int32)))) :
    (((128 ≤ u1.toInt ∧ u1.toInt ≤ 191) ∧ (128 ≤ u2.toInt ∧ u2.toInt ≤ 191) ∧ 2048 ≤ V.toInt ∧ V.toInt ≤ 1114111 ∧ (V.toInt < 55296 ∨ 57343 < V.toInt)) ∧ f2_80 u1 u2 u3 av 3 c = 3) ∨ (¬ ((128 ≤ u1.toInt ∧ u1.toInt ≤ 191) ∧ (128 ≤ u2.toInt ∧ u2.toInt ≤ 191) ∧ 2048 ≤ V.toInt ∧ V.toInt ≤ 1114111 ∧ (V.toInt < 55296 ∨ 57343 < V.toInt)) ∧ f2_80 u1 u2 u3 av 3 c = 0) := by
  subst hV
  unfold f2_80 f2_137 f2_164
  rw [if_neg hav]
  by_cases h : f3 u1 = 0
  · rw [if_pos h]; right; have := (own_f3z r1).mp h; exact ⟨by omega, rfl⟩
  rw [if_neg h, if_neg (by decide : ¬ (3 : Int32) < 3)]
  by_cases h2 : f3 u2 = 0
  · rw [if_pos h2]; right; have := (own_f3z r2).mp h2; exact ⟨by omega, rfl⟩
  rw [if_neg h2, if_pos (by decide : (3 : Int32) < 4), if_neg (by decide : ¬ (3 : Int32) = 2), if_pos rfl]
  have e : (2048 : Int32).toInt = 2048 := rfl
  have := own_190 3 ((((c <<< ((6 : Int32) &&& 31)) ||| (u1 &&& (63 : Int32))) <<< ((6 : Int32) &&& 31)) ||| (u2 &&& (63 : Int32))) 2048
  rw [e] at this
  generalize ((((c <<< ((6 : Int32) &&& 31)) ||| (u1 &&& (63 : Int32))) <<< ((6 : Int32) &&& 31)) ||| (u2 &&& (63 : Int32))) = V at *
  rcases this with ⟨a, b, d, f⟩ | ⟨a, f⟩
  · left; exact ⟨⟨own_nf r1 h, own_nf r2 h2, a, b, d⟩, f⟩
  · right; exact ⟨fun z => a z.2.2, f⟩
theorem own_e4 {u1 u2 u3 : Int32} (c V : Int32) (av : Int32) (r1 : 0 ≤ u1.toInt ∧ u1.toInt ≤ 255) (r2 : 0 ≤ u2.toInt ∧ u2.toInt ≤ 255) (r3 : 0 ≤ u3.toInt ∧ u3.toInt ≤ 255) (hav : ¬ av < (4 : Int32)) (hV : V = ((((((c <<< ((6 : Int32) &&& 31)) ||| (u1 &&& (63 : Int32))) <<< ((6 : Int32) &&& 31)) ||| (u2 &&& (63 : Int32))) <<< ((6 : Int32) &&& 31)) ||| (u3 &&& (63 : Int32)))) :
    (((128 ≤ u1.toInt ∧ u1.toInt ≤ 191) ∧ (128 ≤ u2.toInt ∧ u2.toInt ≤ 191) ∧ (128 ≤ u3.toInt ∧ u3.toInt ≤ 191) ∧ 65536 ≤ V.toInt ∧ V.toInt ≤ 1114111 ∧ (V.toInt < 55296 ∨ 57343 < V.toInt)) ∧ f2_80 u1 u2 u3 av 4 c = 4) ∨ (¬ ((128 ≤ u1.toInt ∧ u1.toInt ≤ 191) ∧ (128 ≤ u2.toInt ∧ u2.toInt ≤ 191) ∧ (128 ≤ u3.toInt ∧ u3.toInt ≤ 191) ∧ 65536 ≤ V.toInt ∧ V.toInt ≤ 1114111 ∧ (V.toInt < 55296 ∨ 57343 < V.toInt)) ∧ f2_80 u1 u2 u3 av 4 c = 0) := by
  subst hV
  unfold f2_80 f2_137 f2_164
  rw [if_neg hav]
  by_cases h : f3 u1 = 0
  · rw [if_pos h]; right; have := (own_f3z r1).mp h; exact ⟨by omega, rfl⟩
  rw [if_neg h, if_neg (by decide : ¬ (4 : Int32) < 3)]
  by_cases h2 : f3 u2 = 0
  · rw [if_pos h2]; right; have := (own_f3z r2).mp h2; exact ⟨by omega, rfl⟩
  rw [if_neg h2, if_neg (by decide : ¬ (4 : Int32) < 4)]
  by_cases h3 : f3 u3 = 0
  · rw [if_pos h3]; right; have := (own_f3z r3).mp h3; exact ⟨by omega, rfl⟩
  rw [if_neg h3, if_neg (by decide : ¬ (4 : Int32) = 2), if_neg (by decide : ¬ (4 : Int32) = 3)]
  have e : (65536 : Int32).toInt = 65536 := rfl
  have := own_190 4 ((((((c <<< ((6 : Int32) &&& 31)) ||| (u1 &&& (63 : Int32))) <<< ((6 : Int32) &&& 31)) ||| (u2 &&& (63 : Int32))) <<< ((6 : Int32) &&& 31)) ||| (u3 &&& (63 : Int32))) 65536
  rw [e] at this
  generalize ((((((c <<< ((6 : Int32) &&& 31)) ||| (u1 &&& (63 : Int32))) <<< ((6 : Int32) &&& 31)) ||| (u2 &&& (63 : Int32))) <<< ((6 : Int32) &&& 31)) ||| (u3 &&& (63 : Int32))) = V at *
  rcases this with ⟨a, b, d, f⟩ | ⟨a, f⟩
  · left; exact ⟨⟨own_nf r1 h, own_nf r2 h2, own_nf r3 h3, a, b, d⟩, f⟩
  · right; exact ⟨fun z => a z.2.2.2, f⟩
theorem own_reg {y : Int} (h : 0 ≤ y ∧ y ≤ 255) : (0 ≤ y ∧ y ≤ 127) ∨ (128 ≤ y ∧ y ≤ 191) ∨ (192 ≤ y ∧ y ≤ 193) ∨ (194 ≤ y ∧ y ≤ 223) ∨ (224 ≤ y ∧ y ≤ 224) ∨ (225 ≤ y ∧ y ≤ 236) ∨ (237 ≤ y ∧ y ≤ 237) ∨ (238 ≤ y ∧ y ≤ 239) ∨ (240 ≤ y ∧ y ≤ 240) ∨ (241 ≤ y ∧ y ≤ 243) ∨ (244 ≤ y ∧ y ≤ 244) ∨ (245 ≤ y ∧ y ≤ 247) ∨ (248 ≤ y ∧ y ≤ 255) := by omega
theorem own_L {y : Int32} (K : Int32) (k : Int) (hK : K.toInt = k) (h : y.toInt < k) : y < K := by rw [Int32.lt_iff_toInt_lt, hK]; exact h
theorem own_NL {y : Int32} (K : Int32) (k : Int) (hK : K.toInt = k) (h : k ≤ y.toInt) : ¬ y < K := by rw [Int32.lt_iff_toInt_lt, hK]; omega
theorem own_G {y : Int32} (K : Int32) (k : Int) (hK : K.toInt = k) (h : k < y.toInt) : K < y := by rw [Int32.lt_iff_toInt_lt, hK]; exact h
theorem own_NG {y : Int32} (K : Int32) (k : Int) (hK : K.toInt = k) (h : y.toInt ≤ k) : ¬ K < y := by rw [Int32.lt_iff_toInt_lt, hK]; omega
theorem own_E {y : Int32} (K : Int32) (k : Int) (hK : K.toInt = k) (h : y.toInt = k) : y = K := Int32.toInt_inj.mp (h.trans hK.symm)
theorem own_NE {y : Int32} (K : Int32) (k : Int) (hK : K.toInt = k) (h : y.toInt ≠ k) : ¬ y = K := fun q => h (by rw [q, hK])
theorem own_k2_2 {x1 u1 : Int32} (a1 : x1 &&& (255 : Int32) = u1) (k1 : x1 &&& (192 : Int32) = u1 &&& (192 : Int32)) (r1 : 0 ≤ u1.toInt ∧ u1.toInt ≤ 255) : ((((128 : Int) ≤ u1.toInt ∧ u1.toInt ≤ (191 : Int))) ∧ sl2_140k2 x1 = 2) ∨ (¬ (((128 : Int) ≤ u1.toInt ∧ u1.toInt ≤ (191 : Int))) ∧ sl2_140k2 x1 = 0) := by
  unfold sl2_140k2
  rw [a1]
  have e1 : (128 : Int32).toInt = 128 := rfl
  have e2 : (191 : Int32).toInt = 191 := rfl
  by_cases h : u1 < (128 : Int32)
  · rw [if_pos h]; rw [Int32.lt_iff_toInt_lt] at h; right; exact ⟨by omega, rfl⟩
  rw [if_neg h]; rw [Int32.lt_iff_toInt_lt] at h
  by_cases h' : (191 : Int32) < u1
  · rw [if_pos h']; rw [Int32.lt_iff_toInt_lt] at h'; right; exact ⟨by omega, rfl⟩
  rw [if_neg h']; rw [Int32.lt_iff_toInt_lt] at h'
  left; exact ⟨by omega, rfl⟩
theorem own_k2_3 {x1 u1 : Int32} (a1 : x1 &&& (255 : Int32) = u1) (k1 : x1 &&& (192 : Int32) = u1 &&& (192 : Int32)) (r1 : 0 ≤ u1.toInt ∧ u1.toInt ≤ 255) : ((((128 : Int) ≤ u1.toInt ∧ u1.toInt ≤ (191 : Int))) ∧ sl3_140k2 x1 = 2) ∨ (¬ (((128 : Int) ≤ u1.toInt ∧ u1.toInt ≤ (191 : Int))) ∧ sl3_140k2 x1 = 0) := by
  unfold sl3_140k2
  rw [a1]
  have e1 : (128 : Int32).toInt = 128 := rfl
  have e2 : (191 : Int32).toInt = 191 := rfl
  by_cases h : u1 < (128 : Int32)
  · rw [if_pos h]; rw [Int32.lt_iff_toInt_lt] at h; right; exact ⟨by omega, rfl⟩
  rw [if_neg h]; rw [Int32.lt_iff_toInt_lt] at h
  by_cases h' : (191 : Int32) < u1
  · rw [if_pos h']; rw [Int32.lt_iff_toInt_lt] at h'; right; exact ⟨by omega, rfl⟩
  rw [if_neg h']; rw [Int32.lt_iff_toInt_lt] at h'
  left; exact ⟨by omega, rfl⟩
theorem own_k3_3 {x1 x2 u1 u2 : Int32} (lo hi : Int32) (a1 : x1 &&& (255 : Int32) = u1) (k1 : x1 &&& (192 : Int32) = u1 &&& (192 : Int32)) (a2 : x2 &&& (255 : Int32) = u2) (k2 : x2 &&& (192 : Int32) = u2 &&& (192 : Int32)) (r1 : 0 ≤ u1.toInt ∧ u1.toInt ≤ 255) (r2 : 0 ≤ u2.toInt ∧ u2.toInt ≤ 255) : (((lo.toInt ≤ u1.toInt ∧ u1.toInt ≤ hi.toInt) ∧ (128 ≤ u2.toInt ∧ u2.toInt ≤ 191)) ∧ sl3_140k3 x1 x2 lo hi = 3) ∨ (¬ ((lo.toInt ≤ u1.toInt ∧ u1.toInt ≤ hi.toInt) ∧ (128 ≤ u2.toInt ∧ u2.toInt ≤ 191)) ∧ sl3_140k3 x1 x2 lo hi = 0) := by
  unfold sl3_140k3
  rw [a1, k2]
  have e1 : (128 : Int32).toInt = 128 := rfl
  have e2 : (191 : Int32).toInt = 191 := rfl
  by_cases h : u1 < lo
  · rw [if_pos h]; rw [Int32.lt_iff_toInt_lt] at h; right; exact ⟨by omega, rfl⟩
  rw [if_neg h]; rw [Int32.lt_iff_toInt_lt] at h
  by_cases h' : hi < u1
  · rw [if_pos h']; rw [Int32.lt_iff_toInt_lt] at h'; right; exact ⟨by omega, rfl⟩
  rw [if_neg h']; rw [Int32.lt_iff_toInt_lt] at h'
  by_cases c2 : (u2 &&& (192 : Int32)) = (128 : Int32)
  case neg => rw [if_neg c2]; right; exact ⟨fun z => c2 ((own_c192 r2).mpr (by omega)), rfl⟩
  rw [if_pos c2]; have q2 := (own_c192 r2).mp c2
  left; exact ⟨by omega, rfl⟩
theorem own_k2_4 {x1 u1 : Int32} (a1 : x1 &&& (255 : Int32) = u1) (k1 : x1 &&& (192 : Int32) = u1 &&& (192 : Int32)) (r1 : 0 ≤ u1.toInt ∧ u1.toInt ≤ 255) : ((((128 : Int) ≤ u1.toInt ∧ u1.toInt ≤ (191 : Int))) ∧ sl4_140k2 x1 = 2) ∨ (¬ (((128 : Int) ≤ u1.toInt ∧ u1.toInt ≤ (191 : Int))) ∧ sl4_140k2 x1 = 0) := by
  unfold sl4_140k2
  rw [a1]
  have e1 : (128 : Int32).toInt = 128 := rfl
  have e2 : (191 : Int32).toInt = 191 := rfl
  by_cases h : u1 < (128 : Int32)
  · rw [if_pos h]; rw [Int32.lt_iff_toInt_lt] at h; right; exact ⟨by omega, rfl⟩
  rw [if_neg h]; rw [Int32.lt_iff_toInt_lt] at h
  by_cases h' : (191 : Int32) < u1
  · rw [if_pos h']; rw [Int32.lt_iff_toInt_lt] at h'; right; exact ⟨by omega, rfl⟩
  rw [if_neg h']; rw [Int32.lt_iff_toInt_lt] at h'
  left; exact ⟨by omega, rfl⟩
theorem own_k3_4 {x1 x2 u1 u2 : Int32} (lo hi : Int32) (a1 : x1 &&& (255 : Int32) = u1) (k1 : x1 &&& (192 : Int32) = u1 &&& (192 : Int32)) (a2 : x2 &&& (255 : Int32) = u2) (k2 : x2 &&& (192 : Int32) = u2 &&& (192 : Int32)) (r1 : 0 ≤ u1.toInt ∧ u1.toInt ≤ 255) (r2 : 0 ≤ u2.toInt ∧ u2.toInt ≤ 255) : (((lo.toInt ≤ u1.toInt ∧ u1.toInt ≤ hi.toInt) ∧ (128 ≤ u2.toInt ∧ u2.toInt ≤ 191)) ∧ sl4_140k3 x1 x2 lo hi = 3) ∨ (¬ ((lo.toInt ≤ u1.toInt ∧ u1.toInt ≤ hi.toInt) ∧ (128 ≤ u2.toInt ∧ u2.toInt ≤ 191)) ∧ sl4_140k3 x1 x2 lo hi = 0) := by
  unfold sl4_140k3
  rw [a1, k2]
  have e1 : (128 : Int32).toInt = 128 := rfl
  have e2 : (191 : Int32).toInt = 191 := rfl
  by_cases h : u1 < lo
  · rw [if_pos h]; rw [Int32.lt_iff_toInt_lt] at h; right; exact ⟨by omega, rfl⟩
  rw [if_neg h]; rw [Int32.lt_iff_toInt_lt] at h
  by_cases h' : hi < u1
  · rw [if_pos h']; rw [Int32.lt_iff_toInt_lt] at h'; right; exact ⟨by omega, rfl⟩
  rw [if_neg h']; rw [Int32.lt_iff_toInt_lt] at h'
  by_cases c2 : (u2 &&& (192 : Int32)) = (128 : Int32)
  case neg => rw [if_neg c2]; right; exact ⟨fun z => c2 ((own_c192 r2).mpr (by omega)), rfl⟩
  rw [if_pos c2]; have q2 := (own_c192 r2).mp c2
  left; exact ⟨by omega, rfl⟩
theorem own_k4_4 {x1 x2 x3 u1 u2 u3 : Int32} (lo hi : Int32) (a1 : x1 &&& (255 : Int32) = u1) (k1 : x1 &&& (192 : Int32) = u1 &&& (192 : Int32)) (a2 : x2 &&& (255 : Int32) = u2) (k2 : x2 &&& (192 : Int32) = u2 &&& (192 : Int32)) (a3 : x3 &&& (255 : Int32) = u3) (k3 : x3 &&& (192 : Int32) = u3 &&& (192 : Int32)) (r1 : 0 ≤ u1.toInt ∧ u1.toInt ≤ 255) (r2 : 0 ≤ u2.toInt ∧ u2.toInt ≤ 255) (r3 : 0 ≤ u3.toInt ∧ u3.toInt ≤ 255) : (((lo.toInt ≤ u1.toInt ∧ u1.toInt ≤ hi.toInt) ∧ (128 ≤ u2.toInt ∧ u2.toInt ≤ 191) ∧ (128 ≤ u3.toInt ∧ u3.toInt ≤ 191)) ∧ sl4_140k4 x1 x2 x3 lo hi = 4) ∨ (¬ ((lo.toInt ≤ u1.toInt ∧ u1.toInt ≤ hi.toInt) ∧ (128 ≤ u2.toInt ∧ u2.toInt ≤ 191) ∧ (128 ≤ u3.toInt ∧ u3.toInt ≤ 191)) ∧ sl4_140k4 x1 x2 x3 lo hi = 0) := by
  unfold sl4_140k4
  rw [a1, k2, k3]
  have e1 : (128 : Int32).toInt = 128 := rfl
  have e2 : (191 : Int32).toInt = 191 := rfl
  by_cases h : u1 < lo
  · rw [if_pos h]; rw [Int32.lt_iff_toInt_lt] at h; right; exact ⟨by omega, rfl⟩
  rw [if_neg h]; rw [Int32.lt_iff_toInt_lt] at h
  by_cases h' : hi < u1
  · rw [if_pos h']; rw [Int32.lt_iff_toInt_lt] at h'; right; exact ⟨by omega, rfl⟩
  rw [if_neg h']; rw [Int32.lt_iff_toInt_lt] at h'
  by_cases c2 : (u2 &&& (192 : Int32)) = (128 : Int32)
  case neg => rw [if_neg c2]; right; exact ⟨fun z => c2 ((own_c192 r2).mpr (by omega)), rfl⟩
  rw [if_pos c2]; have q2 := (own_c192 r2).mp c2
  by_cases c3 : (u3 &&& (192 : Int32)) = (128 : Int32)
  case neg => rw [if_neg c3]; right; exact ⟨fun z => c3 ((own_c192 r3).mpr (by omega)), rfl⟩
  rw [if_pos c3]; have q3 := (own_c192 r3).mp c3
  left; exact ⟨by omega, rfl⟩
set_option maxHeartbeats 4000000 in
theorem own_law1 (b0 b1 b2 b3 : Int32) : sl1 ((b0.toInt8.toInt32).toInt8.toInt32) = f2 (b0 &&& (255 : Int32)) (b1 &&& (255 : Int32)) (b2 &&& (255 : Int32)) (b3 &&& (255 : Int32)) (1 : Int32) := by
  have a0 := own_nb b0
  have k0 := own_and (m' := 192) (by decide) a0
  have r0 := own_byte b0
  have a1 := own_nb b1
  have k1 := own_and (m' := 192) (by decide) a1
  have r1 := own_byte b1
  have a2 := own_nb b2
  have k2 := own_and (m' := 192) (by decide) a2
  have r2 := own_byte b2
  have a3 := own_nb b3
  have k3 := own_and (m' := 192) (by decide) a3
  have r3 := own_byte b3
  generalize ((b0.toInt8.toInt32).toInt8.toInt32) = x0 at *
  generalize b0 &&& (255 : Int32) = u0 at *
  generalize ((b1.toInt8.toInt32).toInt8.toInt32) = x1 at *
  generalize b1 &&& (255 : Int32) = u1 at *
  generalize ((b2.toInt8.toInt32).toInt8.toInt32) = x2 at *
  generalize b2 &&& (255 : Int32) = u2 at *
  generalize ((b3.toInt8.toInt32).toInt8.toInt32) = x3 at *
  generalize b3 &&& (255 : Int32) = u3 at *
  unfold sl1 f2
  rw [a0]
  rcases own_reg r0 with h | h | h | h | h | h | h | h | h | h | h | h | h
  · rw [if_pos (own_L (y := u0) (128 : Int32) 128 rfl (by omega))]
    rw [if_pos (own_L (y := u0) (128 : Int32) 128 rfl (by omega))]
  · rw [if_neg (own_NL (y := u0) (128 : Int32) 128 rfl (by omega))]
    rw [if_pos (own_L (y := u0) (194 : Int32) 194 rfl (by omega))]
    unfold sl1_46; rw [a0]
    rw [if_pos (own_L (y := u0) (224 : Int32) 224 rfl (by omega))]
    unfold sl1_92; rw [a0]
    rw [if_pos (own_L (y := u0) (240 : Int32) 240 rfl (by omega))]
    rw [if_neg (own_NL (y := u0) (128 : Int32) 128 rfl (by omega))]
    rw [if_neg (fun z => absurd ((own_c224 r0).mp z) (by omega))]
    rw [if_neg (fun z => absurd ((own_c240 r0).mp z) (by omega))]
    rw [if_neg (fun z => absurd ((own_c248 r0).mp z) (by omega))]
  · rw [if_neg (own_NL (y := u0) (128 : Int32) 128 rfl (by omega))]
    rw [if_pos (own_L (y := u0) (194 : Int32) 194 rfl (by omega))]
    unfold sl1_46; rw [a0]
    rw [if_pos (own_L (y := u0) (224 : Int32) 224 rfl (by omega))]
    unfold sl1_92; rw [a0]
    rw [if_pos (own_L (y := u0) (240 : Int32) 240 rfl (by omega))]
    rw [if_neg (own_NL (y := u0) (128 : Int32) 128 rfl (by omega))]
    rw [if_pos ((own_c224 r0).mpr (by omega))]
    rw [show f2_80 u1 u2 u3 (1 : Int32) (2 : Int32) (u0 &&& (31 : Int32)) = 0 from by unfold f2_80; rw [if_pos (by decide)]]
  · rw [if_neg (own_NL (y := u0) (128 : Int32) 128 rfl (by omega))]
    rw [if_neg (own_NL (y := u0) (194 : Int32) 194 rfl (by omega))]
    rw [if_neg (own_NG (y := u0) (223 : Int32) 223 rfl (by omega))]
    rw [if_neg (own_NL (y := u0) (128 : Int32) 128 rfl (by omega))]
    rw [if_pos ((own_c224 r0).mpr (by omega))]
    unfold sl1_140k2
    rw [show f2_80 u1 u2 u3 (1 : Int32) (2 : Int32) (u0 &&& (31 : Int32)) = 0 from by unfold f2_80; rw [if_pos (by decide)]]
  · rw [if_neg (own_NL (y := u0) (128 : Int32) 128 rfl (by omega))]
    rw [if_neg (own_NL (y := u0) (194 : Int32) 194 rfl (by omega))]
    rw [if_pos (own_G (y := u0) (223 : Int32) 223 rfl (by omega))]
    unfold sl1_46; rw [a0]
    rw [if_neg (own_NL (y := u0) (224 : Int32) 224 rfl (by omega))]
    rw [if_neg (own_NG (y := u0) (239 : Int32) 239 rfl (by omega))]
    rw [if_pos (own_E (y := u0) (224 : Int32) 224 rfl (by omega))]
    rw [if_neg (own_NL (y := u0) (128 : Int32) 128 rfl (by omega))]
    rw [if_neg (fun z => absurd ((own_c224 r0).mp z) (by omega))]
    rw [if_pos ((own_c240 r0).mpr (by omega))]
    unfold sl1_140k3
    rw [show f2_80 u1 u2 u3 (1 : Int32) (3 : Int32) (u0 &&& (15 : Int32)) = 0 from by unfold f2_80; rw [if_pos (by decide)]]
  · rw [if_neg (own_NL (y := u0) (128 : Int32) 128 rfl (by omega))]
    rw [if_neg (own_NL (y := u0) (194 : Int32) 194 rfl (by omega))]
    rw [if_pos (own_G (y := u0) (223 : Int32) 223 rfl (by omega))]
    unfold sl1_46; rw [a0]
    rw [if_neg (own_NL (y := u0) (224 : Int32) 224 rfl (by omega))]
    rw [if_neg (own_NG (y := u0) (239 : Int32) 239 rfl (by omega))]
    rw [if_neg (own_NE (y := u0) (224 : Int32) 224 rfl (by omega))]
    rw [if_neg (own_NE (y := u0) (237 : Int32) 237 rfl (by omega))]
    rw [if_neg (own_NL (y := u0) (128 : Int32) 128 rfl (by omega))]
    rw [if_neg (fun z => absurd ((own_c224 r0).mp z) (by omega))]
    rw [if_pos ((own_c240 r0).mpr (by omega))]
    unfold sl1_140k3
    rw [show f2_80 u1 u2 u3 (1 : Int32) (3 : Int32) (u0 &&& (15 : Int32)) = 0 from by unfold f2_80; rw [if_pos (by decide)]]
  · rw [if_neg (own_NL (y := u0) (128 : Int32) 128 rfl (by omega))]
    rw [if_neg (own_NL (y := u0) (194 : Int32) 194 rfl (by omega))]
    rw [if_pos (own_G (y := u0) (223 : Int32) 223 rfl (by omega))]
    unfold sl1_46; rw [a0]
    rw [if_neg (own_NL (y := u0) (224 : Int32) 224 rfl (by omega))]
    rw [if_neg (own_NG (y := u0) (239 : Int32) 239 rfl (by omega))]
    rw [if_neg (own_NE (y := u0) (224 : Int32) 224 rfl (by omega))]
    rw [if_pos (own_E (y := u0) (237 : Int32) 237 rfl (by omega))]
    rw [if_neg (own_NL (y := u0) (128 : Int32) 128 rfl (by omega))]
    rw [if_neg (fun z => absurd ((own_c224 r0).mp z) (by omega))]
    rw [if_pos ((own_c240 r0).mpr (by omega))]
    unfold sl1_140k3
    rw [show f2_80 u1 u2 u3 (1 : Int32) (3 : Int32) (u0 &&& (15 : Int32)) = 0 from by unfold f2_80; rw [if_pos (by decide)]]
  · rw [if_neg (own_NL (y := u0) (128 : Int32) 128 rfl (by omega))]
    rw [if_neg (own_NL (y := u0) (194 : Int32) 194 rfl (by omega))]
    rw [if_pos (own_G (y := u0) (223 : Int32) 223 rfl (by omega))]
    unfold sl1_46; rw [a0]
    rw [if_neg (own_NL (y := u0) (224 : Int32) 224 rfl (by omega))]
    rw [if_neg (own_NG (y := u0) (239 : Int32) 239 rfl (by omega))]
    rw [if_neg (own_NE (y := u0) (224 : Int32) 224 rfl (by omega))]
    rw [if_neg (own_NE (y := u0) (237 : Int32) 237 rfl (by omega))]
    rw [if_neg (own_NL (y := u0) (128 : Int32) 128 rfl (by omega))]
    rw [if_neg (fun z => absurd ((own_c224 r0).mp z) (by omega))]
    rw [if_pos ((own_c240 r0).mpr (by omega))]
    unfold sl1_140k3
    rw [show f2_80 u1 u2 u3 (1 : Int32) (3 : Int32) (u0 &&& (15 : Int32)) = 0 from by unfold f2_80; rw [if_pos (by decide)]]
  · rw [if_neg (own_NL (y := u0) (128 : Int32) 128 rfl (by omega))]
    rw [if_neg (own_NL (y := u0) (194 : Int32) 194 rfl (by omega))]
    rw [if_pos (own_G (y := u0) (223 : Int32) 223 rfl (by omega))]
    unfold sl1_46; rw [a0]
    rw [if_neg (own_NL (y := u0) (224 : Int32) 224 rfl (by omega))]
    rw [if_pos (own_G (y := u0) (239 : Int32) 239 rfl (by omega))]
    unfold sl1_92; rw [a0]
    rw [if_neg (own_NL (y := u0) (240 : Int32) 240 rfl (by omega))]
    rw [if_neg (own_NG (y := u0) (244 : Int32) 244 rfl (by omega))]
    rw [if_pos (own_E (y := u0) (240 : Int32) 240 rfl (by omega))]
    rw [if_neg (own_NL (y := u0) (128 : Int32) 128 rfl (by omega))]
    rw [if_neg (fun z => absurd ((own_c224 r0).mp z) (by omega))]
    rw [if_neg (fun z => absurd ((own_c240 r0).mp z) (by omega))]
    rw [if_pos ((own_c248 r0).mpr (by omega))]
    unfold sl1_140k4
    rw [show f2_80 u1 u2 u3 (1 : Int32) (4 : Int32) (u0 &&& (7 : Int32)) = 0 from by unfold f2_80; rw [if_pos (by decide)]]
  · rw [if_neg (own_NL (y := u0) (128 : Int32) 128 rfl (by omega))]
    rw [if_neg (own_NL (y := u0) (194 : Int32) 194 rfl (by omega))]
    rw [if_pos (own_G (y := u0) (223 : Int32) 223 rfl (by omega))]
    unfold sl1_46; rw [a0]
    rw [if_neg (own_NL (y := u0) (224 : Int32) 224 rfl (by omega))]
    rw [if_pos (own_G (y := u0) (239 : Int32) 239 rfl (by omega))]
    unfold sl1_92; rw [a0]
    rw [if_neg (own_NL (y := u0) (240 : Int32) 240 rfl (by omega))]
    rw [if_neg (own_NG (y := u0) (244 : Int32) 244 rfl (by omega))]
    rw [if_neg (own_NE (y := u0) (240 : Int32) 240 rfl (by omega))]
    rw [if_neg (own_NE (y := u0) (244 : Int32) 244 rfl (by omega))]
    rw [if_neg (own_NL (y := u0) (128 : Int32) 128 rfl (by omega))]
    rw [if_neg (fun z => absurd ((own_c224 r0).mp z) (by omega))]
    rw [if_neg (fun z => absurd ((own_c240 r0).mp z) (by omega))]
    rw [if_pos ((own_c248 r0).mpr (by omega))]
    unfold sl1_140k4
    rw [show f2_80 u1 u2 u3 (1 : Int32) (4 : Int32) (u0 &&& (7 : Int32)) = 0 from by unfold f2_80; rw [if_pos (by decide)]]
  · rw [if_neg (own_NL (y := u0) (128 : Int32) 128 rfl (by omega))]
    rw [if_neg (own_NL (y := u0) (194 : Int32) 194 rfl (by omega))]
    rw [if_pos (own_G (y := u0) (223 : Int32) 223 rfl (by omega))]
    unfold sl1_46; rw [a0]
    rw [if_neg (own_NL (y := u0) (224 : Int32) 224 rfl (by omega))]
    rw [if_pos (own_G (y := u0) (239 : Int32) 239 rfl (by omega))]
    unfold sl1_92; rw [a0]
    rw [if_neg (own_NL (y := u0) (240 : Int32) 240 rfl (by omega))]
    rw [if_neg (own_NG (y := u0) (244 : Int32) 244 rfl (by omega))]
    rw [if_neg (own_NE (y := u0) (240 : Int32) 240 rfl (by omega))]
    rw [if_pos (own_E (y := u0) (244 : Int32) 244 rfl (by omega))]
    rw [if_neg (own_NL (y := u0) (128 : Int32) 128 rfl (by omega))]
    rw [if_neg (fun z => absurd ((own_c224 r0).mp z) (by omega))]
    rw [if_neg (fun z => absurd ((own_c240 r0).mp z) (by omega))]
    rw [if_pos ((own_c248 r0).mpr (by omega))]
    unfold sl1_140k4
    rw [show f2_80 u1 u2 u3 (1 : Int32) (4 : Int32) (u0 &&& (7 : Int32)) = 0 from by unfold f2_80; rw [if_pos (by decide)]]
  · rw [if_neg (own_NL (y := u0) (128 : Int32) 128 rfl (by omega))]
    rw [if_neg (own_NL (y := u0) (194 : Int32) 194 rfl (by omega))]
    rw [if_pos (own_G (y := u0) (223 : Int32) 223 rfl (by omega))]
    unfold sl1_46; rw [a0]
    rw [if_neg (own_NL (y := u0) (224 : Int32) 224 rfl (by omega))]
    rw [if_pos (own_G (y := u0) (239 : Int32) 239 rfl (by omega))]
    unfold sl1_92; rw [a0]
    rw [if_neg (own_NL (y := u0) (240 : Int32) 240 rfl (by omega))]
    rw [if_pos (own_G (y := u0) (244 : Int32) 244 rfl (by omega))]
    rw [if_neg (own_NL (y := u0) (128 : Int32) 128 rfl (by omega))]
    rw [if_neg (fun z => absurd ((own_c224 r0).mp z) (by omega))]
    rw [if_neg (fun z => absurd ((own_c240 r0).mp z) (by omega))]
    rw [if_pos ((own_c248 r0).mpr (by omega))]
    rw [show f2_80 u1 u2 u3 (1 : Int32) (4 : Int32) (u0 &&& (7 : Int32)) = 0 from by unfold f2_80; rw [if_pos (by decide)]]
  · rw [if_neg (own_NL (y := u0) (128 : Int32) 128 rfl (by omega))]
    rw [if_neg (own_NL (y := u0) (194 : Int32) 194 rfl (by omega))]
    rw [if_pos (own_G (y := u0) (223 : Int32) 223 rfl (by omega))]
    unfold sl1_46; rw [a0]
    rw [if_neg (own_NL (y := u0) (224 : Int32) 224 rfl (by omega))]
    rw [if_pos (own_G (y := u0) (239 : Int32) 239 rfl (by omega))]
    unfold sl1_92; rw [a0]
    rw [if_neg (own_NL (y := u0) (240 : Int32) 240 rfl (by omega))]
    rw [if_pos (own_G (y := u0) (244 : Int32) 244 rfl (by omega))]
    rw [if_neg (own_NL (y := u0) (128 : Int32) 128 rfl (by omega))]
    rw [if_neg (fun z => absurd ((own_c224 r0).mp z) (by omega))]
    rw [if_neg (fun z => absurd ((own_c240 r0).mp z) (by omega))]
    rw [if_neg (fun z => absurd ((own_c248 r0).mp z) (by omega))]
set_option maxHeartbeats 4000000 in
theorem own_law2 (b0 b1 b2 b3 : Int32) : sl2 ((b0.toInt8.toInt32).toInt8.toInt32) ((b1.toInt8.toInt32).toInt8.toInt32) = f2 (b0 &&& (255 : Int32)) (b1 &&& (255 : Int32)) (b2 &&& (255 : Int32)) (b3 &&& (255 : Int32)) (2 : Int32) := by
  have a0 := own_nb b0
  have k0 := own_and (m' := 192) (by decide) a0
  have r0 := own_byte b0
  have a1 := own_nb b1
  have k1 := own_and (m' := 192) (by decide) a1
  have r1 := own_byte b1
  have a2 := own_nb b2
  have k2 := own_and (m' := 192) (by decide) a2
  have r2 := own_byte b2
  have a3 := own_nb b3
  have k3 := own_and (m' := 192) (by decide) a3
  have r3 := own_byte b3
  generalize ((b0.toInt8.toInt32).toInt8.toInt32) = x0 at *
  generalize b0 &&& (255 : Int32) = u0 at *
  generalize ((b1.toInt8.toInt32).toInt8.toInt32) = x1 at *
  generalize b1 &&& (255 : Int32) = u1 at *
  generalize ((b2.toInt8.toInt32).toInt8.toInt32) = x2 at *
  generalize b2 &&& (255 : Int32) = u2 at *
  generalize ((b3.toInt8.toInt32).toInt8.toInt32) = x3 at *
  generalize b3 &&& (255 : Int32) = u3 at *
  unfold sl2 f2
  rw [a0]
  rcases own_reg r0 with h | h | h | h | h | h | h | h | h | h | h | h | h
  · rw [if_pos (own_L (y := u0) (128 : Int32) 128 rfl (by omega))]
    rw [if_pos (own_L (y := u0) (128 : Int32) 128 rfl (by omega))]
  · rw [if_neg (own_NL (y := u0) (128 : Int32) 128 rfl (by omega))]
    rw [if_pos (own_L (y := u0) (194 : Int32) 194 rfl (by omega))]
    unfold sl2_46; rw [a0]
    rw [if_pos (own_L (y := u0) (224 : Int32) 224 rfl (by omega))]
    unfold sl2_92; rw [a0]
    rw [if_pos (own_L (y := u0) (240 : Int32) 240 rfl (by omega))]
    rw [if_neg (own_NL (y := u0) (128 : Int32) 128 rfl (by omega))]
    rw [if_neg (fun z => absurd ((own_c224 r0).mp z) (by omega))]
    rw [if_neg (fun z => absurd ((own_c240 r0).mp z) (by omega))]
    rw [if_neg (fun z => absurd ((own_c248 r0).mp z) (by omega))]
  · rw [if_neg (own_NL (y := u0) (128 : Int32) 128 rfl (by omega))]
    rw [if_pos (own_L (y := u0) (194 : Int32) 194 rfl (by omega))]
    unfold sl2_46; rw [a0]
    rw [if_pos (own_L (y := u0) (224 : Int32) 224 rfl (by omega))]
    unfold sl2_92; rw [a0]
    rw [if_pos (own_L (y := u0) (240 : Int32) 240 rfl (by omega))]
    rw [if_neg (own_NL (y := u0) (128 : Int32) 128 rfl (by omega))]
    rw [if_pos ((own_c224 r0).mpr (by omega))]
    obtain ⟨V, w⟩ : ∃ z, z = (((u0 &&& (31 : Int32)) <<< ((6 : Int32) &&& 31)) ||| (u1 &&& (63 : Int32))) := ⟨_, rfl⟩
    have v := own_v2 r0 r1 w
    rcases own_e2 u2 u3 (u0 &&& (31 : Int32)) V (2 : Int32) r1 (by decide) w with ⟨q, e⟩ | ⟨q, e⟩ <;> rw [e]
    all_goals (exfalso; omega)
  · rw [if_neg (own_NL (y := u0) (128 : Int32) 128 rfl (by omega))]
    rw [if_neg (own_NL (y := u0) (194 : Int32) 194 rfl (by omega))]
    rw [if_neg (own_NG (y := u0) (223 : Int32) 223 rfl (by omega))]
    rw [if_neg (own_NL (y := u0) (128 : Int32) 128 rfl (by omega))]
    rw [if_pos ((own_c224 r0).mpr (by omega))]
    obtain ⟨V, w⟩ : ∃ z, z = (((u0 &&& (31 : Int32)) <<< ((6 : Int32) &&& 31)) ||| (u1 &&& (63 : Int32))) := ⟨_, rfl⟩
    have v := own_v2 r0 r1 w
    rcases own_e2 u2 u3 (u0 &&& (31 : Int32)) V (2 : Int32) r1 (by decide) w with ⟨q, e⟩ | ⟨q, e⟩ <;> rw [e]
    all_goals rcases own_k2_2 a1 k1 r1 with ⟨s, g⟩ | ⟨s, g⟩ <;> rw [g]
    all_goals (exfalso; omega)
  · rw [if_neg (own_NL (y := u0) (128 : Int32) 128 rfl (by omega))]
    rw [if_neg (own_NL (y := u0) (194 : Int32) 194 rfl (by omega))]
    rw [if_pos (own_G (y := u0) (223 : Int32) 223 rfl (by omega))]
    unfold sl2_46; rw [a0]
    rw [if_neg (own_NL (y := u0) (224 : Int32) 224 rfl (by omega))]
    rw [if_neg (own_NG (y := u0) (239 : Int32) 239 rfl (by omega))]
    rw [if_pos (own_E (y := u0) (224 : Int32) 224 rfl (by omega))]
    rw [if_neg (own_NL (y := u0) (128 : Int32) 128 rfl (by omega))]
    rw [if_neg (fun z => absurd ((own_c224 r0).mp z) (by omega))]
    rw [if_pos ((own_c240 r0).mpr (by omega))]
    unfold sl2_140k3
    rw [show f2_80 u1 u2 u3 (2 : Int32) (3 : Int32) (u0 &&& (15 : Int32)) = 0 from by unfold f2_80; rw [if_pos (by decide)]]
  · rw [if_neg (own_NL (y := u0) (128 : Int32) 128 rfl (by omega))]
    rw [if_neg (own_NL (y := u0) (194 : Int32) 194 rfl (by omega))]
    rw [if_pos (own_G (y := u0) (223 : Int32) 223 rfl (by omega))]
    unfold sl2_46; rw [a0]
    rw [if_neg (own_NL (y := u0) (224 : Int32) 224 rfl (by omega))]
    rw [if_neg (own_NG (y := u0) (239 : Int32) 239 rfl (by omega))]
    rw [if_neg (own_NE (y := u0) (224 : Int32) 224 rfl (by omega))]
    rw [if_neg (own_NE (y := u0) (237 : Int32) 237 rfl (by omega))]
    rw [if_neg (own_NL (y := u0) (128 : Int32) 128 rfl (by omega))]
    rw [if_neg (fun z => absurd ((own_c224 r0).mp z) (by omega))]
    rw [if_pos ((own_c240 r0).mpr (by omega))]
    unfold sl2_140k3
    rw [show f2_80 u1 u2 u3 (2 : Int32) (3 : Int32) (u0 &&& (15 : Int32)) = 0 from by unfold f2_80; rw [if_pos (by decide)]]
  · rw [if_neg (own_NL (y := u0) (128 : Int32) 128 rfl (by omega))]
    rw [if_neg (own_NL (y := u0) (194 : Int32) 194 rfl (by omega))]
    rw [if_pos (own_G (y := u0) (223 : Int32) 223 rfl (by omega))]
    unfold sl2_46; rw [a0]
    rw [if_neg (own_NL (y := u0) (224 : Int32) 224 rfl (by omega))]
    rw [if_neg (own_NG (y := u0) (239 : Int32) 239 rfl (by omega))]
    rw [if_neg (own_NE (y := u0) (224 : Int32) 224 rfl (by omega))]
    rw [if_pos (own_E (y := u0) (237 : Int32) 237 rfl (by omega))]
    rw [if_neg (own_NL (y := u0) (128 : Int32) 128 rfl (by omega))]
    rw [if_neg (fun z => absurd ((own_c224 r0).mp z) (by omega))]
    rw [if_pos ((own_c240 r0).mpr (by omega))]
    unfold sl2_140k3
    rw [show f2_80 u1 u2 u3 (2 : Int32) (3 : Int32) (u0 &&& (15 : Int32)) = 0 from by unfold f2_80; rw [if_pos (by decide)]]
  · rw [if_neg (own_NL (y := u0) (128 : Int32) 128 rfl (by omega))]
    rw [if_neg (own_NL (y := u0) (194 : Int32) 194 rfl (by omega))]
    rw [if_pos (own_G (y := u0) (223 : Int32) 223 rfl (by omega))]
    unfold sl2_46; rw [a0]
    rw [if_neg (own_NL (y := u0) (224 : Int32) 224 rfl (by omega))]
    rw [if_neg (own_NG (y := u0) (239 : Int32) 239 rfl (by omega))]
    rw [if_neg (own_NE (y := u0) (224 : Int32) 224 rfl (by omega))]
    rw [if_neg (own_NE (y := u0) (237 : Int32) 237 rfl (by omega))]
    rw [if_neg (own_NL (y := u0) (128 : Int32) 128 rfl (by omega))]
    rw [if_neg (fun z => absurd ((own_c224 r0).mp z) (by omega))]
    rw [if_pos ((own_c240 r0).mpr (by omega))]
    unfold sl2_140k3
    rw [show f2_80 u1 u2 u3 (2 : Int32) (3 : Int32) (u0 &&& (15 : Int32)) = 0 from by unfold f2_80; rw [if_pos (by decide)]]
  · rw [if_neg (own_NL (y := u0) (128 : Int32) 128 rfl (by omega))]
    rw [if_neg (own_NL (y := u0) (194 : Int32) 194 rfl (by omega))]
    rw [if_pos (own_G (y := u0) (223 : Int32) 223 rfl (by omega))]
    unfold sl2_46; rw [a0]
    rw [if_neg (own_NL (y := u0) (224 : Int32) 224 rfl (by omega))]
    rw [if_pos (own_G (y := u0) (239 : Int32) 239 rfl (by omega))]
    unfold sl2_92; rw [a0]
    rw [if_neg (own_NL (y := u0) (240 : Int32) 240 rfl (by omega))]
    rw [if_neg (own_NG (y := u0) (244 : Int32) 244 rfl (by omega))]
    rw [if_pos (own_E (y := u0) (240 : Int32) 240 rfl (by omega))]
    rw [if_neg (own_NL (y := u0) (128 : Int32) 128 rfl (by omega))]
    rw [if_neg (fun z => absurd ((own_c224 r0).mp z) (by omega))]
    rw [if_neg (fun z => absurd ((own_c240 r0).mp z) (by omega))]
    rw [if_pos ((own_c248 r0).mpr (by omega))]
    unfold sl2_140k4
    rw [show f2_80 u1 u2 u3 (2 : Int32) (4 : Int32) (u0 &&& (7 : Int32)) = 0 from by unfold f2_80; rw [if_pos (by decide)]]
  · rw [if_neg (own_NL (y := u0) (128 : Int32) 128 rfl (by omega))]
    rw [if_neg (own_NL (y := u0) (194 : Int32) 194 rfl (by omega))]
    rw [if_pos (own_G (y := u0) (223 : Int32) 223 rfl (by omega))]
    unfold sl2_46; rw [a0]
    rw [if_neg (own_NL (y := u0) (224 : Int32) 224 rfl (by omega))]
    rw [if_pos (own_G (y := u0) (239 : Int32) 239 rfl (by omega))]
    unfold sl2_92; rw [a0]
    rw [if_neg (own_NL (y := u0) (240 : Int32) 240 rfl (by omega))]
    rw [if_neg (own_NG (y := u0) (244 : Int32) 244 rfl (by omega))]
    rw [if_neg (own_NE (y := u0) (240 : Int32) 240 rfl (by omega))]
    rw [if_neg (own_NE (y := u0) (244 : Int32) 244 rfl (by omega))]
    rw [if_neg (own_NL (y := u0) (128 : Int32) 128 rfl (by omega))]
    rw [if_neg (fun z => absurd ((own_c224 r0).mp z) (by omega))]
    rw [if_neg (fun z => absurd ((own_c240 r0).mp z) (by omega))]
    rw [if_pos ((own_c248 r0).mpr (by omega))]
    unfold sl2_140k4
    rw [show f2_80 u1 u2 u3 (2 : Int32) (4 : Int32) (u0 &&& (7 : Int32)) = 0 from by unfold f2_80; rw [if_pos (by decide)]]
  · rw [if_neg (own_NL (y := u0) (128 : Int32) 128 rfl (by omega))]
    rw [if_neg (own_NL (y := u0) (194 : Int32) 194 rfl (by omega))]
    rw [if_pos (own_G (y := u0) (223 : Int32) 223 rfl (by omega))]
    unfold sl2_46; rw [a0]
    rw [if_neg (own_NL (y := u0) (224 : Int32) 224 rfl (by omega))]
    rw [if_pos (own_G (y := u0) (239 : Int32) 239 rfl (by omega))]
    unfold sl2_92; rw [a0]
    rw [if_neg (own_NL (y := u0) (240 : Int32) 240 rfl (by omega))]
    rw [if_neg (own_NG (y := u0) (244 : Int32) 244 rfl (by omega))]
    rw [if_neg (own_NE (y := u0) (240 : Int32) 240 rfl (by omega))]
    rw [if_pos (own_E (y := u0) (244 : Int32) 244 rfl (by omega))]
    rw [if_neg (own_NL (y := u0) (128 : Int32) 128 rfl (by omega))]
    rw [if_neg (fun z => absurd ((own_c224 r0).mp z) (by omega))]
    rw [if_neg (fun z => absurd ((own_c240 r0).mp z) (by omega))]
    rw [if_pos ((own_c248 r0).mpr (by omega))]
    unfold sl2_140k4
    rw [show f2_80 u1 u2 u3 (2 : Int32) (4 : Int32) (u0 &&& (7 : Int32)) = 0 from by unfold f2_80; rw [if_pos (by decide)]]
  · rw [if_neg (own_NL (y := u0) (128 : Int32) 128 rfl (by omega))]
    rw [if_neg (own_NL (y := u0) (194 : Int32) 194 rfl (by omega))]
    rw [if_pos (own_G (y := u0) (223 : Int32) 223 rfl (by omega))]
    unfold sl2_46; rw [a0]
    rw [if_neg (own_NL (y := u0) (224 : Int32) 224 rfl (by omega))]
    rw [if_pos (own_G (y := u0) (239 : Int32) 239 rfl (by omega))]
    unfold sl2_92; rw [a0]
    rw [if_neg (own_NL (y := u0) (240 : Int32) 240 rfl (by omega))]
    rw [if_pos (own_G (y := u0) (244 : Int32) 244 rfl (by omega))]
    rw [if_neg (own_NL (y := u0) (128 : Int32) 128 rfl (by omega))]
    rw [if_neg (fun z => absurd ((own_c224 r0).mp z) (by omega))]
    rw [if_neg (fun z => absurd ((own_c240 r0).mp z) (by omega))]
    rw [if_pos ((own_c248 r0).mpr (by omega))]
    rw [show f2_80 u1 u2 u3 (2 : Int32) (4 : Int32) (u0 &&& (7 : Int32)) = 0 from by unfold f2_80; rw [if_pos (by decide)]]
  · rw [if_neg (own_NL (y := u0) (128 : Int32) 128 rfl (by omega))]
    rw [if_neg (own_NL (y := u0) (194 : Int32) 194 rfl (by omega))]
    rw [if_pos (own_G (y := u0) (223 : Int32) 223 rfl (by omega))]
    unfold sl2_46; rw [a0]
    rw [if_neg (own_NL (y := u0) (224 : Int32) 224 rfl (by omega))]
    rw [if_pos (own_G (y := u0) (239 : Int32) 239 rfl (by omega))]
    unfold sl2_92; rw [a0]
    rw [if_neg (own_NL (y := u0) (240 : Int32) 240 rfl (by omega))]
    rw [if_pos (own_G (y := u0) (244 : Int32) 244 rfl (by omega))]
    rw [if_neg (own_NL (y := u0) (128 : Int32) 128 rfl (by omega))]
    rw [if_neg (fun z => absurd ((own_c224 r0).mp z) (by omega))]
    rw [if_neg (fun z => absurd ((own_c240 r0).mp z) (by omega))]
    rw [if_neg (fun z => absurd ((own_c248 r0).mp z) (by omega))]
set_option maxHeartbeats 4000000 in
theorem own_law3 (b0 b1 b2 b3 : Int32) : sl3 ((b0.toInt8.toInt32).toInt8.toInt32) ((b1.toInt8.toInt32).toInt8.toInt32) ((b2.toInt8.toInt32).toInt8.toInt32) = f2 (b0 &&& (255 : Int32)) (b1 &&& (255 : Int32)) (b2 &&& (255 : Int32)) (b3 &&& (255 : Int32)) (3 : Int32) := by
  have a0 := own_nb b0
  have k0 := own_and (m' := 192) (by decide) a0
  have r0 := own_byte b0
  have a1 := own_nb b1
  have k1 := own_and (m' := 192) (by decide) a1
  have r1 := own_byte b1
  have a2 := own_nb b2
  have k2 := own_and (m' := 192) (by decide) a2
  have r2 := own_byte b2
  have a3 := own_nb b3
  have k3 := own_and (m' := 192) (by decide) a3
  have r3 := own_byte b3
  generalize ((b0.toInt8.toInt32).toInt8.toInt32) = x0 at *
  generalize b0 &&& (255 : Int32) = u0 at *
  generalize ((b1.toInt8.toInt32).toInt8.toInt32) = x1 at *
  generalize b1 &&& (255 : Int32) = u1 at *
  generalize ((b2.toInt8.toInt32).toInt8.toInt32) = x2 at *
  generalize b2 &&& (255 : Int32) = u2 at *
  generalize ((b3.toInt8.toInt32).toInt8.toInt32) = x3 at *
  generalize b3 &&& (255 : Int32) = u3 at *
  unfold sl3 f2
  rw [a0]
  rcases own_reg r0 with h | h | h | h | h | h | h | h | h | h | h | h | h
  · rw [if_pos (own_L (y := u0) (128 : Int32) 128 rfl (by omega))]
    rw [if_pos (own_L (y := u0) (128 : Int32) 128 rfl (by omega))]
  · rw [if_neg (own_NL (y := u0) (128 : Int32) 128 rfl (by omega))]
    rw [if_pos (own_L (y := u0) (194 : Int32) 194 rfl (by omega))]
    unfold sl3_46; rw [a0]
    rw [if_pos (own_L (y := u0) (224 : Int32) 224 rfl (by omega))]
    unfold sl3_92; rw [a0]
    rw [if_pos (own_L (y := u0) (240 : Int32) 240 rfl (by omega))]
    rw [if_neg (own_NL (y := u0) (128 : Int32) 128 rfl (by omega))]
    rw [if_neg (fun z => absurd ((own_c224 r0).mp z) (by omega))]
    rw [if_neg (fun z => absurd ((own_c240 r0).mp z) (by omega))]
    rw [if_neg (fun z => absurd ((own_c248 r0).mp z) (by omega))]
  · rw [if_neg (own_NL (y := u0) (128 : Int32) 128 rfl (by omega))]
    rw [if_pos (own_L (y := u0) (194 : Int32) 194 rfl (by omega))]
    unfold sl3_46; rw [a0]
    rw [if_pos (own_L (y := u0) (224 : Int32) 224 rfl (by omega))]
    unfold sl3_92; rw [a0]
    rw [if_pos (own_L (y := u0) (240 : Int32) 240 rfl (by omega))]
    rw [if_neg (own_NL (y := u0) (128 : Int32) 128 rfl (by omega))]
    rw [if_pos ((own_c224 r0).mpr (by omega))]
    obtain ⟨V, w⟩ : ∃ z, z = (((u0 &&& (31 : Int32)) <<< ((6 : Int32) &&& 31)) ||| (u1 &&& (63 : Int32))) := ⟨_, rfl⟩
    have v := own_v2 r0 r1 w
    rcases own_e2 u2 u3 (u0 &&& (31 : Int32)) V (3 : Int32) r1 (by decide) w with ⟨q, e⟩ | ⟨q, e⟩ <;> rw [e]
    all_goals (exfalso; omega)
  · rw [if_neg (own_NL (y := u0) (128 : Int32) 128 rfl (by omega))]
    rw [if_neg (own_NL (y := u0) (194 : Int32) 194 rfl (by omega))]
    rw [if_neg (own_NG (y := u0) (223 : Int32) 223 rfl (by omega))]
    rw [if_neg (own_NL (y := u0) (128 : Int32) 128 rfl (by omega))]
    rw [if_pos ((own_c224 r0).mpr (by omega))]
    obtain ⟨V, w⟩ : ∃ z, z = (((u0 &&& (31 : Int32)) <<< ((6 : Int32) &&& 31)) ||| (u1 &&& (63 : Int32))) := ⟨_, rfl⟩
    have v := own_v2 r0 r1 w
    rcases own_e2 u2 u3 (u0 &&& (31 : Int32)) V (3 : Int32) r1 (by decide) w with ⟨q, e⟩ | ⟨q, e⟩ <;> rw [e]
    all_goals rcases own_k2_3 a1 k1 r1 with ⟨s, g⟩ | ⟨s, g⟩ <;> rw [g]
    all_goals (exfalso; omega)
  · rw [if_neg (own_NL (y := u0) (128 : Int32) 128 rfl (by omega))]
    rw [if_neg (own_NL (y := u0) (194 : Int32) 194 rfl (by omega))]
    rw [if_pos (own_G (y := u0) (223 : Int32) 223 rfl (by omega))]
    unfold sl3_46; rw [a0]
    rw [if_neg (own_NL (y := u0) (224 : Int32) 224 rfl (by omega))]
    rw [if_neg (own_NG (y := u0) (239 : Int32) 239 rfl (by omega))]
    rw [if_pos (own_E (y := u0) (224 : Int32) 224 rfl (by omega))]
    rw [if_neg (own_NL (y := u0) (128 : Int32) 128 rfl (by omega))]
    rw [if_neg (fun z => absurd ((own_c224 r0).mp z) (by omega))]
    rw [if_pos ((own_c240 r0).mpr (by omega))]
    obtain ⟨V, w⟩ : ∃ z, z = (((((u0 &&& (15 : Int32)) <<< ((6 : Int32) &&& 31)) ||| (u1 &&& (63 : Int32))) <<< ((6 : Int32) &&& 31)) ||| (u2 &&& (63 : Int32))) := ⟨_, rfl⟩
    have v := own_v3 r0 r1 r2 w
    rcases own_e3 u3 (u0 &&& (15 : Int32)) V (3 : Int32) r1 r2 (by decide) w with ⟨q, e⟩ | ⟨q, e⟩ <;> rw [e]
    all_goals rcases own_k3_3 (160 : Int32) (191 : Int32) a1 k1 a2 k2 r1 r2 with ⟨s, g⟩ | ⟨s, g⟩ <;> rw [g]
    all_goals rw [show (160 : Int32).toInt = 160 from rfl, show (191 : Int32).toInt = 191 from rfl] at s
    all_goals (exfalso; omega)
  · rw [if_neg (own_NL (y := u0) (128 : Int32) 128 rfl (by omega))]
    rw [if_neg (own_NL (y := u0) (194 : Int32) 194 rfl (by omega))]
    rw [if_pos (own_G (y := u0) (223 : Int32) 223 rfl (by omega))]
    unfold sl3_46; rw [a0]
    rw [if_neg (own_NL (y := u0) (224 : Int32) 224 rfl (by omega))]
    rw [if_neg (own_NG (y := u0) (239 : Int32) 239 rfl (by omega))]
    rw [if_neg (own_NE (y := u0) (224 : Int32) 224 rfl (by omega))]
    rw [if_neg (own_NE (y := u0) (237 : Int32) 237 rfl (by omega))]
    rw [if_neg (own_NL (y := u0) (128 : Int32) 128 rfl (by omega))]
    rw [if_neg (fun z => absurd ((own_c224 r0).mp z) (by omega))]
    rw [if_pos ((own_c240 r0).mpr (by omega))]
    obtain ⟨V, w⟩ : ∃ z, z = (((((u0 &&& (15 : Int32)) <<< ((6 : Int32) &&& 31)) ||| (u1 &&& (63 : Int32))) <<< ((6 : Int32) &&& 31)) ||| (u2 &&& (63 : Int32))) := ⟨_, rfl⟩
    have v := own_v3 r0 r1 r2 w
    rcases own_e3 u3 (u0 &&& (15 : Int32)) V (3 : Int32) r1 r2 (by decide) w with ⟨q, e⟩ | ⟨q, e⟩ <;> rw [e]
    all_goals rcases own_k3_3 (128 : Int32) (191 : Int32) a1 k1 a2 k2 r1 r2 with ⟨s, g⟩ | ⟨s, g⟩ <;> rw [g]
    all_goals rw [show (128 : Int32).toInt = 128 from rfl, show (191 : Int32).toInt = 191 from rfl] at s
    all_goals (exfalso; omega)
  · rw [if_neg (own_NL (y := u0) (128 : Int32) 128 rfl (by omega))]
    rw [if_neg (own_NL (y := u0) (194 : Int32) 194 rfl (by omega))]
    rw [if_pos (own_G (y := u0) (223 : Int32) 223 rfl (by omega))]
    unfold sl3_46; rw [a0]
    rw [if_neg (own_NL (y := u0) (224 : Int32) 224 rfl (by omega))]
    rw [if_neg (own_NG (y := u0) (239 : Int32) 239 rfl (by omega))]
    rw [if_neg (own_NE (y := u0) (224 : Int32) 224 rfl (by omega))]
    rw [if_pos (own_E (y := u0) (237 : Int32) 237 rfl (by omega))]
    rw [if_neg (own_NL (y := u0) (128 : Int32) 128 rfl (by omega))]
    rw [if_neg (fun z => absurd ((own_c224 r0).mp z) (by omega))]
    rw [if_pos ((own_c240 r0).mpr (by omega))]
    obtain ⟨V, w⟩ : ∃ z, z = (((((u0 &&& (15 : Int32)) <<< ((6 : Int32) &&& 31)) ||| (u1 &&& (63 : Int32))) <<< ((6 : Int32) &&& 31)) ||| (u2 &&& (63 : Int32))) := ⟨_, rfl⟩
    have v := own_v3 r0 r1 r2 w
    rcases own_e3 u3 (u0 &&& (15 : Int32)) V (3 : Int32) r1 r2 (by decide) w with ⟨q, e⟩ | ⟨q, e⟩ <;> rw [e]
    all_goals rcases own_k3_3 (128 : Int32) (159 : Int32) a1 k1 a2 k2 r1 r2 with ⟨s, g⟩ | ⟨s, g⟩ <;> rw [g]
    all_goals rw [show (128 : Int32).toInt = 128 from rfl, show (159 : Int32).toInt = 159 from rfl] at s
    all_goals (exfalso; omega)
  · rw [if_neg (own_NL (y := u0) (128 : Int32) 128 rfl (by omega))]
    rw [if_neg (own_NL (y := u0) (194 : Int32) 194 rfl (by omega))]
    rw [if_pos (own_G (y := u0) (223 : Int32) 223 rfl (by omega))]
    unfold sl3_46; rw [a0]
    rw [if_neg (own_NL (y := u0) (224 : Int32) 224 rfl (by omega))]
    rw [if_neg (own_NG (y := u0) (239 : Int32) 239 rfl (by omega))]
    rw [if_neg (own_NE (y := u0) (224 : Int32) 224 rfl (by omega))]
    rw [if_neg (own_NE (y := u0) (237 : Int32) 237 rfl (by omega))]
    rw [if_neg (own_NL (y := u0) (128 : Int32) 128 rfl (by omega))]
    rw [if_neg (fun z => absurd ((own_c224 r0).mp z) (by omega))]
    rw [if_pos ((own_c240 r0).mpr (by omega))]
    obtain ⟨V, w⟩ : ∃ z, z = (((((u0 &&& (15 : Int32)) <<< ((6 : Int32) &&& 31)) ||| (u1 &&& (63 : Int32))) <<< ((6 : Int32) &&& 31)) ||| (u2 &&& (63 : Int32))) := ⟨_, rfl⟩
    have v := own_v3 r0 r1 r2 w
    rcases own_e3 u3 (u0 &&& (15 : Int32)) V (3 : Int32) r1 r2 (by decide) w with ⟨q, e⟩ | ⟨q, e⟩ <;> rw [e]
    all_goals rcases own_k3_3 (128 : Int32) (191 : Int32) a1 k1 a2 k2 r1 r2 with ⟨s, g⟩ | ⟨s, g⟩ <;> rw [g]
    all_goals rw [show (128 : Int32).toInt = 128 from rfl, show (191 : Int32).toInt = 191 from rfl] at s
    all_goals (exfalso; omega)
  · rw [if_neg (own_NL (y := u0) (128 : Int32) 128 rfl (by omega))]
    rw [if_neg (own_NL (y := u0) (194 : Int32) 194 rfl (by omega))]
    rw [if_pos (own_G (y := u0) (223 : Int32) 223 rfl (by omega))]
    unfold sl3_46; rw [a0]
    rw [if_neg (own_NL (y := u0) (224 : Int32) 224 rfl (by omega))]
    rw [if_pos (own_G (y := u0) (239 : Int32) 239 rfl (by omega))]
    unfold sl3_92; rw [a0]
    rw [if_neg (own_NL (y := u0) (240 : Int32) 240 rfl (by omega))]
    rw [if_neg (own_NG (y := u0) (244 : Int32) 244 rfl (by omega))]
    rw [if_pos (own_E (y := u0) (240 : Int32) 240 rfl (by omega))]
    rw [if_neg (own_NL (y := u0) (128 : Int32) 128 rfl (by omega))]
    rw [if_neg (fun z => absurd ((own_c224 r0).mp z) (by omega))]
    rw [if_neg (fun z => absurd ((own_c240 r0).mp z) (by omega))]
    rw [if_pos ((own_c248 r0).mpr (by omega))]
    unfold sl3_140k4
    rw [show f2_80 u1 u2 u3 (3 : Int32) (4 : Int32) (u0 &&& (7 : Int32)) = 0 from by unfold f2_80; rw [if_pos (by decide)]]
  · rw [if_neg (own_NL (y := u0) (128 : Int32) 128 rfl (by omega))]
    rw [if_neg (own_NL (y := u0) (194 : Int32) 194 rfl (by omega))]
    rw [if_pos (own_G (y := u0) (223 : Int32) 223 rfl (by omega))]
    unfold sl3_46; rw [a0]
    rw [if_neg (own_NL (y := u0) (224 : Int32) 224 rfl (by omega))]
    rw [if_pos (own_G (y := u0) (239 : Int32) 239 rfl (by omega))]
    unfold sl3_92; rw [a0]
    rw [if_neg (own_NL (y := u0) (240 : Int32) 240 rfl (by omega))]
    rw [if_neg (own_NG (y := u0) (244 : Int32) 244 rfl (by omega))]
    rw [if_neg (own_NE (y := u0) (240 : Int32) 240 rfl (by omega))]
    rw [if_neg (own_NE (y := u0) (244 : Int32) 244 rfl (by omega))]
    rw [if_neg (own_NL (y := u0) (128 : Int32) 128 rfl (by omega))]
    rw [if_neg (fun z => absurd ((own_c224 r0).mp z) (by omega))]
    rw [if_neg (fun z => absurd ((own_c240 r0).mp z) (by omega))]
    rw [if_pos ((own_c248 r0).mpr (by omega))]
    unfold sl3_140k4
    rw [show f2_80 u1 u2 u3 (3 : Int32) (4 : Int32) (u0 &&& (7 : Int32)) = 0 from by unfold f2_80; rw [if_pos (by decide)]]
  · rw [if_neg (own_NL (y := u0) (128 : Int32) 128 rfl (by omega))]
    rw [if_neg (own_NL (y := u0) (194 : Int32) 194 rfl (by omega))]
    rw [if_pos (own_G (y := u0) (223 : Int32) 223 rfl (by omega))]
    unfold sl3_46; rw [a0]
    rw [if_neg (own_NL (y := u0) (224 : Int32) 224 rfl (by omega))]
    rw [if_pos (own_G (y := u0) (239 : Int32) 239 rfl (by omega))]
    unfold sl3_92; rw [a0]
    rw [if_neg (own_NL (y := u0) (240 : Int32) 240 rfl (by omega))]
    rw [if_neg (own_NG (y := u0) (244 : Int32) 244 rfl (by omega))]
    rw [if_neg (own_NE (y := u0) (240 : Int32) 240 rfl (by omega))]
    rw [if_pos (own_E (y := u0) (244 : Int32) 244 rfl (by omega))]
    rw [if_neg (own_NL (y := u0) (128 : Int32) 128 rfl (by omega))]
    rw [if_neg (fun z => absurd ((own_c224 r0).mp z) (by omega))]
    rw [if_neg (fun z => absurd ((own_c240 r0).mp z) (by omega))]
    rw [if_pos ((own_c248 r0).mpr (by omega))]
    unfold sl3_140k4
    rw [show f2_80 u1 u2 u3 (3 : Int32) (4 : Int32) (u0 &&& (7 : Int32)) = 0 from by unfold f2_80; rw [if_pos (by decide)]]
  · rw [if_neg (own_NL (y := u0) (128 : Int32) 128 rfl (by omega))]
    rw [if_neg (own_NL (y := u0) (194 : Int32) 194 rfl (by omega))]
    rw [if_pos (own_G (y := u0) (223 : Int32) 223 rfl (by omega))]
    unfold sl3_46; rw [a0]
    rw [if_neg (own_NL (y := u0) (224 : Int32) 224 rfl (by omega))]
    rw [if_pos (own_G (y := u0) (239 : Int32) 239 rfl (by omega))]
    unfold sl3_92; rw [a0]
    rw [if_neg (own_NL (y := u0) (240 : Int32) 240 rfl (by omega))]
    rw [if_pos (own_G (y := u0) (244 : Int32) 244 rfl (by omega))]
    rw [if_neg (own_NL (y := u0) (128 : Int32) 128 rfl (by omega))]
    rw [if_neg (fun z => absurd ((own_c224 r0).mp z) (by omega))]
    rw [if_neg (fun z => absurd ((own_c240 r0).mp z) (by omega))]
    rw [if_pos ((own_c248 r0).mpr (by omega))]
    rw [show f2_80 u1 u2 u3 (3 : Int32) (4 : Int32) (u0 &&& (7 : Int32)) = 0 from by unfold f2_80; rw [if_pos (by decide)]]
  · rw [if_neg (own_NL (y := u0) (128 : Int32) 128 rfl (by omega))]
    rw [if_neg (own_NL (y := u0) (194 : Int32) 194 rfl (by omega))]
    rw [if_pos (own_G (y := u0) (223 : Int32) 223 rfl (by omega))]
    unfold sl3_46; rw [a0]
    rw [if_neg (own_NL (y := u0) (224 : Int32) 224 rfl (by omega))]
    rw [if_pos (own_G (y := u0) (239 : Int32) 239 rfl (by omega))]
    unfold sl3_92; rw [a0]
    rw [if_neg (own_NL (y := u0) (240 : Int32) 240 rfl (by omega))]
    rw [if_pos (own_G (y := u0) (244 : Int32) 244 rfl (by omega))]
    rw [if_neg (own_NL (y := u0) (128 : Int32) 128 rfl (by omega))]
    rw [if_neg (fun z => absurd ((own_c224 r0).mp z) (by omega))]
    rw [if_neg (fun z => absurd ((own_c240 r0).mp z) (by omega))]
    rw [if_neg (fun z => absurd ((own_c248 r0).mp z) (by omega))]
set_option maxHeartbeats 4000000 in
theorem own_law4 (b0 b1 b2 b3 : Int32) : sl4 ((b0.toInt8.toInt32).toInt8.toInt32) ((b1.toInt8.toInt32).toInt8.toInt32) ((b2.toInt8.toInt32).toInt8.toInt32) ((b3.toInt8.toInt32).toInt8.toInt32) = f2 (b0 &&& (255 : Int32)) (b1 &&& (255 : Int32)) (b2 &&& (255 : Int32)) (b3 &&& (255 : Int32)) (4 : Int32) := by
  have a0 := own_nb b0
  have k0 := own_and (m' := 192) (by decide) a0
  have r0 := own_byte b0
  have a1 := own_nb b1
  have k1 := own_and (m' := 192) (by decide) a1
  have r1 := own_byte b1
  have a2 := own_nb b2
  have k2 := own_and (m' := 192) (by decide) a2
  have r2 := own_byte b2
  have a3 := own_nb b3
  have k3 := own_and (m' := 192) (by decide) a3
  have r3 := own_byte b3
  generalize ((b0.toInt8.toInt32).toInt8.toInt32) = x0 at *
  generalize b0 &&& (255 : Int32) = u0 at *
  generalize ((b1.toInt8.toInt32).toInt8.toInt32) = x1 at *
  generalize b1 &&& (255 : Int32) = u1 at *
  generalize ((b2.toInt8.toInt32).toInt8.toInt32) = x2 at *
  generalize b2 &&& (255 : Int32) = u2 at *
  generalize ((b3.toInt8.toInt32).toInt8.toInt32) = x3 at *
  generalize b3 &&& (255 : Int32) = u3 at *
  unfold sl4 f2
  rw [a0]
  rcases own_reg r0 with h | h | h | h | h | h | h | h | h | h | h | h | h
  · rw [if_pos (own_L (y := u0) (128 : Int32) 128 rfl (by omega))]
    rw [if_pos (own_L (y := u0) (128 : Int32) 128 rfl (by omega))]
  · rw [if_neg (own_NL (y := u0) (128 : Int32) 128 rfl (by omega))]
    rw [if_pos (own_L (y := u0) (194 : Int32) 194 rfl (by omega))]
    unfold sl4_46; rw [a0]
    rw [if_pos (own_L (y := u0) (224 : Int32) 224 rfl (by omega))]
    unfold sl4_92; rw [a0]
    rw [if_pos (own_L (y := u0) (240 : Int32) 240 rfl (by omega))]
    rw [if_neg (own_NL (y := u0) (128 : Int32) 128 rfl (by omega))]
    rw [if_neg (fun z => absurd ((own_c224 r0).mp z) (by omega))]
    rw [if_neg (fun z => absurd ((own_c240 r0).mp z) (by omega))]
    rw [if_neg (fun z => absurd ((own_c248 r0).mp z) (by omega))]
  · rw [if_neg (own_NL (y := u0) (128 : Int32) 128 rfl (by omega))]
    rw [if_pos (own_L (y := u0) (194 : Int32) 194 rfl (by omega))]
    unfold sl4_46; rw [a0]
    rw [if_pos (own_L (y := u0) (224 : Int32) 224 rfl (by omega))]
    unfold sl4_92; rw [a0]
    rw [if_pos (own_L (y := u0) (240 : Int32) 240 rfl (by omega))]
    rw [if_neg (own_NL (y := u0) (128 : Int32) 128 rfl (by omega))]
    rw [if_pos ((own_c224 r0).mpr (by omega))]
    obtain ⟨V, w⟩ : ∃ z, z = (((u0 &&& (31 : Int32)) <<< ((6 : Int32) &&& 31)) ||| (u1 &&& (63 : Int32))) := ⟨_, rfl⟩
    have v := own_v2 r0 r1 w
    rcases own_e2 u2 u3 (u0 &&& (31 : Int32)) V (4 : Int32) r1 (by decide) w with ⟨q, e⟩ | ⟨q, e⟩ <;> rw [e]
    all_goals (exfalso; omega)
  · rw [if_neg (own_NL (y := u0) (128 : Int32) 128 rfl (by omega))]
    rw [if_neg (own_NL (y := u0) (194 : Int32) 194 rfl (by omega))]
    rw [if_neg (own_NG (y := u0) (223 : Int32) 223 rfl (by omega))]
    rw [if_neg (own_NL (y := u0) (128 : Int32) 128 rfl (by omega))]
    rw [if_pos ((own_c224 r0).mpr (by omega))]
    obtain ⟨V, w⟩ : ∃ z, z = (((u0 &&& (31 : Int32)) <<< ((6 : Int32) &&& 31)) ||| (u1 &&& (63 : Int32))) := ⟨_, rfl⟩
    have v := own_v2 r0 r1 w
    rcases own_e2 u2 u3 (u0 &&& (31 : Int32)) V (4 : Int32) r1 (by decide) w with ⟨q, e⟩ | ⟨q, e⟩ <;> rw [e]
    all_goals rcases own_k2_4 a1 k1 r1 with ⟨s, g⟩ | ⟨s, g⟩ <;> rw [g]
    all_goals (exfalso; omega)
  · rw [if_neg (own_NL (y := u0) (128 : Int32) 128 rfl (by omega))]
    rw [if_neg (own_NL (y := u0) (194 : Int32) 194 rfl (by omega))]
    rw [if_pos (own_G (y := u0) (223 : Int32) 223 rfl (by omega))]
    unfold sl4_46; rw [a0]
    rw [if_neg (own_NL (y := u0) (224 : Int32) 224 rfl (by omega))]
    rw [if_neg (own_NG (y := u0) (239 : Int32) 239 rfl (by omega))]
    rw [if_pos (own_E (y := u0) (224 : Int32) 224 rfl (by omega))]
    rw [if_neg (own_NL (y := u0) (128 : Int32) 128 rfl (by omega))]
    rw [if_neg (fun z => absurd ((own_c224 r0).mp z) (by omega))]
    rw [if_pos ((own_c240 r0).mpr (by omega))]
    obtain ⟨V, w⟩ : ∃ z, z = (((((u0 &&& (15 : Int32)) <<< ((6 : Int32) &&& 31)) ||| (u1 &&& (63 : Int32))) <<< ((6 : Int32) &&& 31)) ||| (u2 &&& (63 : Int32))) := ⟨_, rfl⟩
    have v := own_v3 r0 r1 r2 w
    rcases own_e3 u3 (u0 &&& (15 : Int32)) V (4 : Int32) r1 r2 (by decide) w with ⟨q, e⟩ | ⟨q, e⟩ <;> rw [e]
    all_goals rcases own_k3_4 (160 : Int32) (191 : Int32) a1 k1 a2 k2 r1 r2 with ⟨s, g⟩ | ⟨s, g⟩ <;> rw [g]
    all_goals rw [show (160 : Int32).toInt = 160 from rfl, show (191 : Int32).toInt = 191 from rfl] at s
    all_goals (exfalso; omega)
  · rw [if_neg (own_NL (y := u0) (128 : Int32) 128 rfl (by omega))]
    rw [if_neg (own_NL (y := u0) (194 : Int32) 194 rfl (by omega))]
    rw [if_pos (own_G (y := u0) (223 : Int32) 223 rfl (by omega))]
    unfold sl4_46; rw [a0]
    rw [if_neg (own_NL (y := u0) (224 : Int32) 224 rfl (by omega))]
    rw [if_neg (own_NG (y := u0) (239 : Int32) 239 rfl (by omega))]
    rw [if_neg (own_NE (y := u0) (224 : Int32) 224 rfl (by omega))]
    rw [if_neg (own_NE (y := u0) (237 : Int32) 237 rfl (by omega))]
    rw [if_neg (own_NL (y := u0) (128 : Int32) 128 rfl (by omega))]
    rw [if_neg (fun z => absurd ((own_c224 r0).mp z) (by omega))]
    rw [if_pos ((own_c240 r0).mpr (by omega))]
    obtain ⟨V, w⟩ : ∃ z, z = (((((u0 &&& (15 : Int32)) <<< ((6 : Int32) &&& 31)) ||| (u1 &&& (63 : Int32))) <<< ((6 : Int32) &&& 31)) ||| (u2 &&& (63 : Int32))) := ⟨_, rfl⟩
    have v := own_v3 r0 r1 r2 w
    rcases own_e3 u3 (u0 &&& (15 : Int32)) V (4 : Int32) r1 r2 (by decide) w with ⟨q, e⟩ | ⟨q, e⟩ <;> rw [e]
    all_goals rcases own_k3_4 (128 : Int32) (191 : Int32) a1 k1 a2 k2 r1 r2 with ⟨s, g⟩ | ⟨s, g⟩ <;> rw [g]
    all_goals rw [show (128 : Int32).toInt = 128 from rfl, show (191 : Int32).toInt = 191 from rfl] at s
    all_goals (exfalso; omega)
  · rw [if_neg (own_NL (y := u0) (128 : Int32) 128 rfl (by omega))]
    rw [if_neg (own_NL (y := u0) (194 : Int32) 194 rfl (by omega))]
    rw [if_pos (own_G (y := u0) (223 : Int32) 223 rfl (by omega))]
    unfold sl4_46; rw [a0]
    rw [if_neg (own_NL (y := u0) (224 : Int32) 224 rfl (by omega))]
    rw [if_neg (own_NG (y := u0) (239 : Int32) 239 rfl (by omega))]
    rw [if_neg (own_NE (y := u0) (224 : Int32) 224 rfl (by omega))]
    rw [if_pos (own_E (y := u0) (237 : Int32) 237 rfl (by omega))]
    rw [if_neg (own_NL (y := u0) (128 : Int32) 128 rfl (by omega))]
    rw [if_neg (fun z => absurd ((own_c224 r0).mp z) (by omega))]
    rw [if_pos ((own_c240 r0).mpr (by omega))]
    obtain ⟨V, w⟩ : ∃ z, z = (((((u0 &&& (15 : Int32)) <<< ((6 : Int32) &&& 31)) ||| (u1 &&& (63 : Int32))) <<< ((6 : Int32) &&& 31)) ||| (u2 &&& (63 : Int32))) := ⟨_, rfl⟩
    have v := own_v3 r0 r1 r2 w
    rcases own_e3 u3 (u0 &&& (15 : Int32)) V (4 : Int32) r1 r2 (by decide) w with ⟨q, e⟩ | ⟨q, e⟩ <;> rw [e]
    all_goals rcases own_k3_4 (128 : Int32) (159 : Int32) a1 k1 a2 k2 r1 r2 with ⟨s, g⟩ | ⟨s, g⟩ <;> rw [g]
    all_goals rw [show (128 : Int32).toInt = 128 from rfl, show (159 : Int32).toInt = 159 from rfl] at s
    all_goals (exfalso; omega)
  · rw [if_neg (own_NL (y := u0) (128 : Int32) 128 rfl (by omega))]
    rw [if_neg (own_NL (y := u0) (194 : Int32) 194 rfl (by omega))]
    rw [if_pos (own_G (y := u0) (223 : Int32) 223 rfl (by omega))]
    unfold sl4_46; rw [a0]
    rw [if_neg (own_NL (y := u0) (224 : Int32) 224 rfl (by omega))]
    rw [if_neg (own_NG (y := u0) (239 : Int32) 239 rfl (by omega))]
    rw [if_neg (own_NE (y := u0) (224 : Int32) 224 rfl (by omega))]
    rw [if_neg (own_NE (y := u0) (237 : Int32) 237 rfl (by omega))]
    rw [if_neg (own_NL (y := u0) (128 : Int32) 128 rfl (by omega))]
    rw [if_neg (fun z => absurd ((own_c224 r0).mp z) (by omega))]
    rw [if_pos ((own_c240 r0).mpr (by omega))]
    obtain ⟨V, w⟩ : ∃ z, z = (((((u0 &&& (15 : Int32)) <<< ((6 : Int32) &&& 31)) ||| (u1 &&& (63 : Int32))) <<< ((6 : Int32) &&& 31)) ||| (u2 &&& (63 : Int32))) := ⟨_, rfl⟩
    have v := own_v3 r0 r1 r2 w
    rcases own_e3 u3 (u0 &&& (15 : Int32)) V (4 : Int32) r1 r2 (by decide) w with ⟨q, e⟩ | ⟨q, e⟩ <;> rw [e]
    all_goals rcases own_k3_4 (128 : Int32) (191 : Int32) a1 k1 a2 k2 r1 r2 with ⟨s, g⟩ | ⟨s, g⟩ <;> rw [g]
    all_goals rw [show (128 : Int32).toInt = 128 from rfl, show (191 : Int32).toInt = 191 from rfl] at s
    all_goals (exfalso; omega)
  · rw [if_neg (own_NL (y := u0) (128 : Int32) 128 rfl (by omega))]
    rw [if_neg (own_NL (y := u0) (194 : Int32) 194 rfl (by omega))]
    rw [if_pos (own_G (y := u0) (223 : Int32) 223 rfl (by omega))]
    unfold sl4_46; rw [a0]
    rw [if_neg (own_NL (y := u0) (224 : Int32) 224 rfl (by omega))]
    rw [if_pos (own_G (y := u0) (239 : Int32) 239 rfl (by omega))]
    unfold sl4_92; rw [a0]
    rw [if_neg (own_NL (y := u0) (240 : Int32) 240 rfl (by omega))]
    rw [if_neg (own_NG (y := u0) (244 : Int32) 244 rfl (by omega))]
    rw [if_pos (own_E (y := u0) (240 : Int32) 240 rfl (by omega))]
    rw [if_neg (own_NL (y := u0) (128 : Int32) 128 rfl (by omega))]
    rw [if_neg (fun z => absurd ((own_c224 r0).mp z) (by omega))]
    rw [if_neg (fun z => absurd ((own_c240 r0).mp z) (by omega))]
    rw [if_pos ((own_c248 r0).mpr (by omega))]
    obtain ⟨V, w⟩ : ∃ z, z = (((((((u0 &&& (7 : Int32)) <<< ((6 : Int32) &&& 31)) ||| (u1 &&& (63 : Int32))) <<< ((6 : Int32) &&& 31)) ||| (u2 &&& (63 : Int32))) <<< ((6 : Int32) &&& 31)) ||| (u3 &&& (63 : Int32))) := ⟨_, rfl⟩
    have v := own_v4 r0 r1 r2 r3 w
    rcases own_e4 (u0 &&& (7 : Int32)) V (4 : Int32) r1 r2 r3 (by decide) w with ⟨q, e⟩ | ⟨q, e⟩ <;> rw [e]
    all_goals rcases own_k4_4 (144 : Int32) (191 : Int32) a1 k1 a2 k2 a3 k3 r1 r2 r3 with ⟨s, g⟩ | ⟨s, g⟩ <;> rw [g]
    all_goals rw [show (144 : Int32).toInt = 144 from rfl, show (191 : Int32).toInt = 191 from rfl] at s
    all_goals (exfalso; omega)
  · rw [if_neg (own_NL (y := u0) (128 : Int32) 128 rfl (by omega))]
    rw [if_neg (own_NL (y := u0) (194 : Int32) 194 rfl (by omega))]
    rw [if_pos (own_G (y := u0) (223 : Int32) 223 rfl (by omega))]
    unfold sl4_46; rw [a0]
    rw [if_neg (own_NL (y := u0) (224 : Int32) 224 rfl (by omega))]
    rw [if_pos (own_G (y := u0) (239 : Int32) 239 rfl (by omega))]
    unfold sl4_92; rw [a0]
    rw [if_neg (own_NL (y := u0) (240 : Int32) 240 rfl (by omega))]
    rw [if_neg (own_NG (y := u0) (244 : Int32) 244 rfl (by omega))]
    rw [if_neg (own_NE (y := u0) (240 : Int32) 240 rfl (by omega))]
    rw [if_neg (own_NE (y := u0) (244 : Int32) 244 rfl (by omega))]
    rw [if_neg (own_NL (y := u0) (128 : Int32) 128 rfl (by omega))]
    rw [if_neg (fun z => absurd ((own_c224 r0).mp z) (by omega))]
    rw [if_neg (fun z => absurd ((own_c240 r0).mp z) (by omega))]
    rw [if_pos ((own_c248 r0).mpr (by omega))]
    obtain ⟨V, w⟩ : ∃ z, z = (((((((u0 &&& (7 : Int32)) <<< ((6 : Int32) &&& 31)) ||| (u1 &&& (63 : Int32))) <<< ((6 : Int32) &&& 31)) ||| (u2 &&& (63 : Int32))) <<< ((6 : Int32) &&& 31)) ||| (u3 &&& (63 : Int32))) := ⟨_, rfl⟩
    have v := own_v4 r0 r1 r2 r3 w
    rcases own_e4 (u0 &&& (7 : Int32)) V (4 : Int32) r1 r2 r3 (by decide) w with ⟨q, e⟩ | ⟨q, e⟩ <;> rw [e]
    all_goals rcases own_k4_4 (128 : Int32) (191 : Int32) a1 k1 a2 k2 a3 k3 r1 r2 r3 with ⟨s, g⟩ | ⟨s, g⟩ <;> rw [g]
    all_goals rw [show (128 : Int32).toInt = 128 from rfl, show (191 : Int32).toInt = 191 from rfl] at s
    all_goals (exfalso; omega)
  · rw [if_neg (own_NL (y := u0) (128 : Int32) 128 rfl (by omega))]
    rw [if_neg (own_NL (y := u0) (194 : Int32) 194 rfl (by omega))]
    rw [if_pos (own_G (y := u0) (223 : Int32) 223 rfl (by omega))]
    unfold sl4_46; rw [a0]
    rw [if_neg (own_NL (y := u0) (224 : Int32) 224 rfl (by omega))]
    rw [if_pos (own_G (y := u0) (239 : Int32) 239 rfl (by omega))]
    unfold sl4_92; rw [a0]
    rw [if_neg (own_NL (y := u0) (240 : Int32) 240 rfl (by omega))]
    rw [if_neg (own_NG (y := u0) (244 : Int32) 244 rfl (by omega))]
    rw [if_neg (own_NE (y := u0) (240 : Int32) 240 rfl (by omega))]
    rw [if_pos (own_E (y := u0) (244 : Int32) 244 rfl (by omega))]
    rw [if_neg (own_NL (y := u0) (128 : Int32) 128 rfl (by omega))]
    rw [if_neg (fun z => absurd ((own_c224 r0).mp z) (by omega))]
    rw [if_neg (fun z => absurd ((own_c240 r0).mp z) (by omega))]
    rw [if_pos ((own_c248 r0).mpr (by omega))]
    obtain ⟨V, w⟩ : ∃ z, z = (((((((u0 &&& (7 : Int32)) <<< ((6 : Int32) &&& 31)) ||| (u1 &&& (63 : Int32))) <<< ((6 : Int32) &&& 31)) ||| (u2 &&& (63 : Int32))) <<< ((6 : Int32) &&& 31)) ||| (u3 &&& (63 : Int32))) := ⟨_, rfl⟩
    have v := own_v4 r0 r1 r2 r3 w
    rcases own_e4 (u0 &&& (7 : Int32)) V (4 : Int32) r1 r2 r3 (by decide) w with ⟨q, e⟩ | ⟨q, e⟩ <;> rw [e]
    all_goals rcases own_k4_4 (128 : Int32) (143 : Int32) a1 k1 a2 k2 a3 k3 r1 r2 r3 with ⟨s, g⟩ | ⟨s, g⟩ <;> rw [g]
    all_goals rw [show (128 : Int32).toInt = 128 from rfl, show (143 : Int32).toInt = 143 from rfl] at s
    all_goals (exfalso; omega)
  · rw [if_neg (own_NL (y := u0) (128 : Int32) 128 rfl (by omega))]
    rw [if_neg (own_NL (y := u0) (194 : Int32) 194 rfl (by omega))]
    rw [if_pos (own_G (y := u0) (223 : Int32) 223 rfl (by omega))]
    unfold sl4_46; rw [a0]
    rw [if_neg (own_NL (y := u0) (224 : Int32) 224 rfl (by omega))]
    rw [if_pos (own_G (y := u0) (239 : Int32) 239 rfl (by omega))]
    unfold sl4_92; rw [a0]
    rw [if_neg (own_NL (y := u0) (240 : Int32) 240 rfl (by omega))]
    rw [if_pos (own_G (y := u0) (244 : Int32) 244 rfl (by omega))]
    rw [if_neg (own_NL (y := u0) (128 : Int32) 128 rfl (by omega))]
    rw [if_neg (fun z => absurd ((own_c224 r0).mp z) (by omega))]
    rw [if_neg (fun z => absurd ((own_c240 r0).mp z) (by omega))]
    rw [if_pos ((own_c248 r0).mpr (by omega))]
    obtain ⟨V, w⟩ : ∃ z, z = (((((((u0 &&& (7 : Int32)) <<< ((6 : Int32) &&& 31)) ||| (u1 &&& (63 : Int32))) <<< ((6 : Int32) &&& 31)) ||| (u2 &&& (63 : Int32))) <<< ((6 : Int32) &&& 31)) ||| (u3 &&& (63 : Int32))) := ⟨_, rfl⟩
    have v := own_v4 r0 r1 r2 r3 w
    rcases own_e4 (u0 &&& (7 : Int32)) V (4 : Int32) r1 r2 r3 (by decide) w with ⟨q, e⟩ | ⟨q, e⟩ <;> rw [e]
    all_goals (exfalso; omega)
  · rw [if_neg (own_NL (y := u0) (128 : Int32) 128 rfl (by omega))]
    rw [if_neg (own_NL (y := u0) (194 : Int32) 194 rfl (by omega))]
    rw [if_pos (own_G (y := u0) (223 : Int32) 223 rfl (by omega))]
    unfold sl4_46; rw [a0]
    rw [if_neg (own_NL (y := u0) (224 : Int32) 224 rfl (by omega))]
    rw [if_pos (own_G (y := u0) (239 : Int32) 239 rfl (by omega))]
    unfold sl4_92; rw [a0]
    rw [if_neg (own_NL (y := u0) (240 : Int32) 240 rfl (by omega))]
    rw [if_pos (own_G (y := u0) (244 : Int32) 244 rfl (by omega))]
    rw [if_neg (own_NL (y := u0) (128 : Int32) 128 rfl (by omega))]
    rw [if_neg (fun z => absurd ((own_c224 r0).mp z) (by omega))]
    rw [if_neg (fun z => absurd ((own_c240 r0).mp z) (by omega))]
    rw [if_neg (fun z => absurd ((own_c248 r0).mp z) (by omega))]
theorem ef0 (m : MethodId) (x0 : Int32) (x1 : Int32) (x2 : Int32) (x3 : Int32) (x4 : Int32) (x5 : Int32) : entryFrame m #[(.int x0), (.int x1), (.int x2), (.int x3), (.int x4), (.int x5)] maxLocals = mkF m 0 #[.val (.int x0), .val (.int x1), .val (.int x2), .val (.int x3), .val (.int x4), .val (.int x5), .unset, .unset, .unset, .unset] [] := by first | (simp [entryFrame, mkF, argsToLocals, Value.category, maxLocals]; done) | rfl
theorem pd1 : parseMethodDescriptor "([BI)I" = some ⟨[(.array .byte), .int], some .int⟩ := by decide +kernel
theorem pd2 : parseMethodDescriptor "(IIIII)I" = some ⟨[.int, .int, .int, .int, .int], some .int⟩ := by decide +kernel
set_option maxRecDepth 65536 in
set_option maxHeartbeats 80000000 in
theorem rm0 (l : Launch) (Z : State) (a0 : Array Value) (hw : ∀ d ∈ tables_1, d.before a0 Z = true) (ws : List Jvm.Cond) (b0 : Int32) (b1 : Int32) (b2 : Int32) (b3 : Int32) (sh : Int32) (fi : Int32) (h0 : Heap) (n0 : Nat) (Z0 : n0 ≤ h0.size) :
    own_Met l Z x code maxLocals ret ws room_1 #[(.int b0), (.int b1), (.int b2), (.int b3), (.int sh), (.int fi)] h0 (fun v h L => v = some (.int 1) ∧ Fr n0 L) := by
  refine own_body (plainFor_of_name pn0) ?_
  intro p e s m below meth c T0 X0 hx hby hml hret hlk hZ hown hnm e0
  replace hml : c.maxLocals = 10 := hml
  have N0 := Fr.nil n0
  refine own_entry (ef0 m b0 b1 b2 b3 sh fi) ?_
  refine own_st (T' := T0) (F' := (mkF m 2 #[.val (.int b0), .val (.int b1), .val (.int b2), .val (.int b3), .val (.int sh), .val (.int fi), .unset, .unset, .unset, .unset] [(.int sh)])) (fun _ kq => XS.iload X0.here hx rfl (hb hby at_0) rfl kq) ?_
  refine own_st (T' := T0) (F' := (mkF m 3 #[.val (.int b0), .val (.int b1), .val (.int b2), .val (.int b3), .val (.int sh), .val (.int fi), .unset, .unset, .unset, .unset] [(.int (1 : Int32)), (.int sh)])) (fun _ kq => XS.iconst X0.here hx rfl (hb hby at_2) kq) ?_
  refine own_st (T' := T0) (F' := (mkF m 4 #[.val (.int b0), .val (.int b1), .val (.int b2), .val (.int b3), .val (.int sh), .val (.int fi), .unset, .unset, .unset, .unset] [(.int (sh &&& (1 : Int32)))])) (fun _ kq => XS.iand X0.here hx rfl (hb hby at_3) rfl kq) ?_
  generalize hn144 : (sh &&& (1 : Int32)) = n144
  rcases own_a1 hn144 with rfl | rfl
  ·
    refine own_st (T' := T0) (F' := (mkF m 6 #[.val (.int b0), .val (.int b1), .val (.int b2), .val (.int b3), .val (.int sh), .val (.int fi), .val (.int (0 : Int32)), .unset, .unset, .unset] [])) (fun _ kq => XS.istore X0.here hx rfl (hb hby at_4) rfl (l' := #[.val (.int b0), .val (.int b1), .val (.int b2), .val (.int b3), .val (.int sh), .val (.int fi), .val (.int (0 : Int32)), .unset, .unset, .unset]) rfl kq) ?_
    refine own_st (T' := T0) (F' := (mkF m 7 #[.val (.int b0), .val (.int b1), .val (.int b2), .val (.int b3), .val (.int sh), .val (.int fi), .val (.int (0 : Int32)), .unset, .unset, .unset] [(.int (1 : Int32))])) (fun _ kq => XS.iconst X0.here hx rfl (hb hby at_6) kq) ?_
    refine own_st (T' := T0) (F' := (mkF m 9 #[.val (.int b0), .val (.int b1), .val (.int b2), .val (.int b3), .val (.int sh), .val (.int fi), .val (.int (0 : Int32)), .unset, .unset, .unset] [(.int sh), (.int (1 : Int32))])) (fun _ kq => XS.iload X0.here hx rfl (hb hby at_7) rfl kq) ?_
    refine own_st (T' := T0) (F' := (mkF m 10 #[.val (.int b0), .val (.int b1), .val (.int b2), .val (.int b3), .val (.int sh), .val (.int fi), .val (.int (0 : Int32)), .unset, .unset, .unset] [(.int (1 : Int32)), (.int sh), (.int (1 : Int32))])) (fun _ kq => XS.iconst X0.here hx rfl (hb hby at_9) kq) ?_
    refine own_st (T' := T0) (F' := (mkF m 11 #[.val (.int b0), .val (.int b1), .val (.int b2), .val (.int b3), .val (.int sh), .val (.int fi), .val (.int (0 : Int32)), .unset, .unset, .unset] [(.int ((sh.toUInt32 >>> ((1 : Int32) &&& 31).toUInt32).toInt32)), (.int (1 : Int32))])) (fun _ kq => XS.iushr X0.here hx rfl (hb hby at_10) rfl kq) ?_
    refine own_st (T' := T0) (F' := (mkF m 12 #[.val (.int b0), .val (.int b1), .val (.int b2), .val (.int b3), .val (.int sh), .val (.int fi), .val (.int (0 : Int32)), .unset, .unset, .unset] [(.int (3 : Int32)), (.int ((sh.toUInt32 >>> ((1 : Int32) &&& 31).toUInt32).toInt32)), (.int (1 : Int32))])) (fun _ kq => XS.iconst X0.here hx rfl (hb hby at_11) kq) ?_
    refine own_st (T' := T0) (F' := (mkF m 13 #[.val (.int b0), .val (.int b1), .val (.int b2), .val (.int b3), .val (.int sh), .val (.int fi), .val (.int (0 : Int32)), .unset, .unset, .unset] [(.int (((sh.toUInt32 >>> ((1 : Int32) &&& 31).toUInt32).toInt32) &&& (3 : Int32))), (.int (1 : Int32))])) (fun _ kq => XS.iand X0.here hx rfl (hb hby at_12) rfl kq) ?_
    refine own_st (T' := T0) (F' := (mkF m 14 #[.val (.int b0), .val (.int b1), .val (.int b2), .val (.int b3), .val (.int sh), .val (.int fi), .val (.int (0 : Int32)), .unset, .unset, .unset] [(.int ((1 : Int32) + (((sh.toUInt32 >>> ((1 : Int32) &&& 31).toUInt32).toInt32) &&& (3 : Int32))))])) (fun _ kq => XS.iadd X0.here hx rfl (hb hby at_13) rfl kq) ?_
    generalize hn145 : ((1 : Int32) + (((sh.toUInt32 >>> ((1 : Int32) &&& 31).toUInt32).toInt32) &&& (3 : Int32))) = n145
    rcases own_n4 hn145 with rfl | rfl | rfl | rfl
    ·
      refine own_st (T' := T0) (F' := (mkF m 16 #[.val (.int b0), .val (.int b1), .val (.int b2), .val (.int b3), .val (.int sh), .val (.int fi), .val (.int (0 : Int32)), .val (.int (1 : Int32)), .unset, .unset] [])) (fun _ kq => XS.istore X0.here hx rfl (hb hby at_14) rfl (l' := #[.val (.int b0), .val (.int b1), .val (.int b2), .val (.int b3), .val (.int sh), .val (.int fi), .val (.int (0 : Int32)), .val (.int (1 : Int32)), .unset, .unset]) rfl kq) ?_
      refine own_st (T' := T0) (F' := (mkF m 18 #[.val (.int b0), .val (.int b1), .val (.int b2), .val (.int b3), .val (.int sh), .val (.int fi), .val (.int (0 : Int32)), .val (.int (1 : Int32)), .unset, .unset] [(.int (0 : Int32))])) (fun _ kq => XS.iload X0.here hx rfl (hb hby at_16) rfl kq) ?_
      refine own_st (T' := T0) (F' := (mkF m 20 #[.val (.int b0), .val (.int b1), .val (.int b2), .val (.int b3), .val (.int sh), .val (.int fi), .val (.int (0 : Int32)), .val (.int (1 : Int32)), .unset, .unset] [(.int (1 : Int32)), (.int (0 : Int32))])) (fun _ kq => XS.iload X0.here hx rfl (hb hby at_18) rfl kq) ?_
      refine own_st (T' := T0) (F' := (mkF m 21 #[.val (.int b0), .val (.int b1), .val (.int b2), .val (.int b3), .val (.int sh), .val (.int fi), .val (.int (0 : Int32)), .val (.int (1 : Int32)), .unset, .unset] [(.int (1 : Int32))])) (fun _ kq => XS.iadd X0.here hx rfl (hb hby at_20) rfl kq) ?_
      obtain ⟨T146, h146, b146, X146, e146, E146, g146, gb146, Z146, V146, st146⟩ := own_newI X0 hx hZ (aty := .byte) (hw _ (List.mem_of_getElem? (i := 0) rfl)) e0 Z0 (g := (mkF m 21 #[.val (.int b0), .val (.int b1), .val (.int b2), .val (.int b3), .val (.int sh), .val (.int fi), .val (.int (0 : Int32)), .val (.int (1 : Int32)), .unset, .unset] [(.int (1 : Int32))])) rfl rfl (hb hby at_21) rfl (by decide) 1 1 rfl (by decide) (by decide) (by decide) (by decide)
      refine own_st (T' := T146) (F' := (mkF m 23 #[.val (.int b0), .val (.int b1), .val (.int b2), .val (.int b3), .val (.int sh), .val (.int fi), .val (.int (0 : Int32)), .val (.int (1 : Int32)), .unset, .unset] [(.ref b146)])) (st146) ?_
      refine own_st (T' := T146) (F' := (mkF m 25 #[.val (.int b0), .val (.int b1), .val (.int b2), .val (.int b3), .val (.int sh), .val (.int fi), .val (.int (0 : Int32)), .val (.int (1 : Int32)), .val (.ref b146), .unset] [])) (fun _ kq => XS.astore X146.here hx rfl (hb hby at_23) rfl rfl (l' := #[.val (.int b0), .val (.int b1), .val (.int b2), .val (.int b3), .val (.int sh), .val (.int fi), .val (.int (0 : Int32)), .val (.int (1 : Int32)), .val (.ref b146), .unset]) rfl kq) ?_
      refine own_st (T' := T146) (F' := (mkF m 27 #[.val (.int b0), .val (.int b1), .val (.int b2), .val (.int b3), .val (.int sh), .val (.int fi), .val (.int (0 : Int32)), .val (.int (1 : Int32)), .val (.ref b146), .unset] [(.int (0 : Int32))])) (fun _ kq => XS.iload X146.here hx rfl (hb hby at_25) rfl kq) ?_
      refine own_st (T' := T146) (F' := (mkF m 28 #[.val (.int b0), .val (.int b1), .val (.int b2), .val (.int b3), .val (.int sh), .val (.int fi), .val (.int (0 : Int32)), .val (.int (1 : Int32)), .val (.ref b146), .unset] [(.int (1 : Int32)), (.int (0 : Int32))])) (fun _ kq => XS.iconst X146.here hx rfl (hb hby at_27) kq) ?_
      refine own_st (T' := T146) (F' := (mkF m 38 #[.val (.int b0), .val (.int b1), .val (.int b2), .val (.int b3), .val (.int sh), .val (.int fi), .val (.int (0 : Int32)), .val (.int (1 : Int32)), .val (.ref b146), .unset] [])) (fun _ kq => XS.icmpYes X146.here hx rfl (pc0 := 28) (pc' := 38) rfl (hb hby at_28) rfl (feq (by decide : ¬ ((0 : Int32) = (1 : Int32)))).2 (by decide) (by decide) kq) ?_
      refine own_st (T' := T146) (F' := (mkF m 40 #[.val (.int b0), .val (.int b1), .val (.int b2), .val (.int b3), .val (.int sh), .val (.int fi), .val (.int (0 : Int32)), .val (.int (1 : Int32)), .val (.ref b146), .unset] [(.ref b146)])) (fun _ kq => XS.aload X146.here hx rfl (hb hby at_38) rfl rfl kq) ?_
      refine own_st (T' := T146) (F' := (mkF m 42 #[.val (.int b0), .val (.int b1), .val (.int b2), .val (.int b3), .val (.int sh), .val (.int fi), .val (.int (0 : Int32)), .val (.int (1 : Int32)), .val (.ref b146), .unset] [(.int (0 : Int32)), (.ref b146)])) (fun _ kq => XS.iload X146.here hx rfl (hb hby at_40) rfl kq) ?_
      refine own_st (T' := T146) (F' := (mkF m 43 #[.val (.int b0), .val (.int b1), .val (.int b2), .val (.int b3), .val (.int sh), .val (.int fi), .val (.int (0 : Int32)), .val (.int (1 : Int32)), .val (.ref b146), .unset] [(.int b0), (.int (0 : Int32)), (.ref b146)])) (fun _ kq => XS.iloadN X146.here hx rfl (hb hby at_42) rfl kq) ?_
      refine own_st (T' := T146) (F' := (mkF m 44 #[.val (.int b0), .val (.int b1), .val (.int b2), .val (.int b3), .val (.int sh), .val (.int fi), .val (.int (0 : Int32)), .val (.int (1 : Int32)), .val (.ref b146), .unset] [(.int (b0.toInt8.toInt32)), (.int (0 : Int32)), (.ref b146)])) (fun _ kq => XS.i2b X146.here hx rfl (hb hby at_43) rfl kq) ?_
      obtain ⟨T148, h148, locs148, X148, e148, N148, W148, V148, st148⟩ := own_stB X146 hx hZ e146 N0 (ys := [((b0.toInt8.toInt32).toInt8.toInt32)]) V146 gb146 (g := (mkF m 44 #[.val (.int b0), .val (.int b1), .val (.int b2), .val (.int b3), .val (.int sh), .val (.int fi), .val (.int (0 : Int32)), .val (.int (1 : Int32)), .val (.ref b146), .unset] [(.int (b0.toInt8.toInt32)), (.int (0 : Int32)), (.ref b146)])) rfl rfl (hb hby at_44) (by decide) (Nat.le_of_ble_eq_true rfl) rfl
      have Z148 : n0 ≤ h148.size := by rw [W148.size]; exact Z146
      refine own_st (T' := T148) (F' := (mkF m 45 #[.val (.int b0), .val (.int b1), .val (.int b2), .val (.int b3), .val (.int sh), .val (.int fi), .val (.int (0 : Int32)), .val (.int (1 : Int32)), .val (.ref b146), .unset] [])) (st148) ?_
      refine own_st (T' := T148) (F' := (mkF m 47 #[.val (.int b0), .val (.int b1), .val (.int b2), .val (.int b3), .val (.int sh), .val (.int fi), .val (.int (0 : Int32)), .val (.int (1 : Int32)), .val (.ref b146), .unset] [(.int (1 : Int32))])) (fun _ kq => XS.iload X148.here hx rfl (hb hby at_45) rfl kq) ?_
      refine own_st (T' := T148) (F' := (mkF m 48 #[.val (.int b0), .val (.int b1), .val (.int b2), .val (.int b3), .val (.int sh), .val (.int fi), .val (.int (0 : Int32)), .val (.int (1 : Int32)), .val (.ref b146), .unset] [(.int (1 : Int32)), (.int (1 : Int32))])) (fun _ kq => XS.iconst X148.here hx rfl (hb hby at_47) kq) ?_
      refine own_st (T' := T148) (F' := (mkF m 60 #[.val (.int b0), .val (.int b1), .val (.int b2), .val (.int b3), .val (.int sh), .val (.int fi), .val (.int (0 : Int32)), .val (.int (1 : Int32)), .val (.ref b146), .unset] [])) (fun _ kq => XS.icmpYes X148.here hx rfl (pc0 := 48) (pc' := 60) rfl (hb hby at_48) rfl (flt (by decide : ¬ ((1 : Int32) < (1 : Int32)))).2.2.2 (by decide) (by decide) kq) ?_
      refine own_st (T' := T148) (F' := (mkF m 62 #[.val (.int b0), .val (.int b1), .val (.int b2), .val (.int b3), .val (.int sh), .val (.int fi), .val (.int (0 : Int32)), .val (.int (1 : Int32)), .val (.ref b146), .unset] [(.int (1 : Int32))])) (fun _ kq => XS.iload X148.here hx rfl (hb hby at_60) rfl kq) ?_
      refine own_st (T' := T148) (F' := (mkF m 63 #[.val (.int b0), .val (.int b1), .val (.int b2), .val (.int b3), .val (.int sh), .val (.int fi), .val (.int (0 : Int32)), .val (.int (1 : Int32)), .val (.ref b146), .unset] [(.int (2 : Int32)), (.int (1 : Int32))])) (fun _ kq => XS.iconst X148.here hx rfl (hb hby at_62) kq) ?_
      refine own_st (T' := T148) (F' := (mkF m 75 #[.val (.int b0), .val (.int b1), .val (.int b2), .val (.int b3), .val (.int sh), .val (.int fi), .val (.int (0 : Int32)), .val (.int (1 : Int32)), .val (.ref b146), .unset] [])) (fun _ kq => XS.icmpYes X148.here hx rfl (pc0 := 63) (pc' := 75) rfl (hb hby at_63) rfl (flt (by decide : ¬ ((2 : Int32) < (1 : Int32)))).2.2.2 (by decide) (by decide) kq) ?_
      refine own_st (T' := T148) (F' := (mkF m 77 #[.val (.int b0), .val (.int b1), .val (.int b2), .val (.int b3), .val (.int sh), .val (.int fi), .val (.int (0 : Int32)), .val (.int (1 : Int32)), .val (.ref b146), .unset] [(.int (1 : Int32))])) (fun _ kq => XS.iload X148.here hx rfl (hb hby at_75) rfl kq) ?_
      refine own_st (T' := T148) (F' := (mkF m 78 #[.val (.int b0), .val (.int b1), .val (.int b2), .val (.int b3), .val (.int sh), .val (.int fi), .val (.int (0 : Int32)), .val (.int (1 : Int32)), .val (.ref b146), .unset] [(.int (3 : Int32)), (.int (1 : Int32))])) (fun _ kq => XS.iconst X148.here hx rfl (hb hby at_77) kq) ?_
      refine own_st (T' := T148) (F' := (mkF m 90 #[.val (.int b0), .val (.int b1), .val (.int b2), .val (.int b3), .val (.int sh), .val (.int fi), .val (.int (0 : Int32)), .val (.int (1 : Int32)), .val (.ref b146), .unset] [])) (fun _ kq => XS.icmpYes X148.here hx rfl (pc0 := 78) (pc' := 90) rfl (hb hby at_78) rfl (flt (by decide : ¬ ((3 : Int32) < (1 : Int32)))).2.2.2 (by decide) (by decide) kq) ?_
      refine own_st (T' := T148) (F' := (mkF m 92 #[.val (.int b0), .val (.int b1), .val (.int b2), .val (.int b3), .val (.int sh), .val (.int fi), .val (.int (0 : Int32)), .val (.int (1 : Int32)), .val (.ref b146), .unset] [(.ref b146)])) (fun _ kq => XS.aload X148.here hx rfl (hb hby at_90) rfl rfl kq) ?_
      refine own_st (T' := T148) (F' := (mkF m 94 #[.val (.int b0), .val (.int b1), .val (.int b2), .val (.int b3), .val (.int sh), .val (.int fi), .val (.int (0 : Int32)), .val (.int (1 : Int32)), .val (.ref b146), .unset] [(.int (0 : Int32)), (.ref b146)])) (fun _ kq => XS.iload X148.here hx rfl (hb hby at_92) rfl kq) ?_
      obtain ⟨T150, locs150, X150, e150, N150, st150⟩ := own_callP X148 hx hZ 0 hown (hw _ (List.mem_of_getElem? (i := 1) rfl)) (hw _ (List.mem_of_getElem? (i := 2) rfl)) (hw _ (List.mem_of_getElem? (i := 3) rfl)) (hw _ (List.mem_of_getElem? (i := 4) rfl)) (by decide) (rm1_0_1 l Z a0 hw [] b146 ((b0.toInt8.toInt32).toInt8.toInt32) h148 n0 V148) (by decide) (by decide) rfl rfl e148 N148 (by decide) (by decide) (g := (mkF m 94 #[.val (.int b0), .val (.int b1), .val (.int b2), .val (.int b3), .val (.int sh), .val (.int fi), .val (.int (0 : Int32)), .val (.int (1 : Int32)), .val (.ref b146), .unset] [(.int (0 : Int32)), (.ref b146)])) rfl (by rw [hml]; rfl) (argsL := [(.ref b146), (.int (0 : Int32))]) (rest := []) (lenOf pd1 rfl) rfl rfl (by show 2 * 0 + _ ≤ _; exact Nat.le_of_eq rfl) (hb hby at_94)
      refine own_st (T' := T150) (F' := (mkF m 97 #[.val (.int b0), .val (.int b1), .val (.int b2), .val (.int b3), .val (.int sh), .val (.int fi), .val (.int (0 : Int32)), .val (.int (1 : Int32)), .val (.ref b146), .unset] [(.int (sl1 ((b0.toInt8.toInt32).toInt8.toInt32)))])) (st150) ?_
      refine own_st (T' := T150) (F' := (mkF m 99 #[.val (.int b0), .val (.int b1), .val (.int b2), .val (.int b3), .val (.int sh), .val (.int fi), .val (.int (0 : Int32)), .val (.int (1 : Int32)), .val (.ref b146), .val (.int (sl1 ((b0.toInt8.toInt32).toInt8.toInt32)))] [])) (fun _ kq => XS.istore X150.here hx rfl (hb hby at_97) rfl (l' := #[.val (.int b0), .val (.int b1), .val (.int b2), .val (.int b3), .val (.int sh), .val (.int fi), .val (.int (0 : Int32)), .val (.int (1 : Int32)), .val (.ref b146), .val (.int (sl1 ((b0.toInt8.toInt32).toInt8.toInt32)))]) rfl kq) ?_
      refine own_st (T' := T150) (F' := (mkF m 101 #[.val (.int b0), .val (.int b1), .val (.int b2), .val (.int b3), .val (.int sh), .val (.int fi), .val (.int (0 : Int32)), .val (.int (1 : Int32)), .val (.ref b146), .val (.int (sl1 ((b0.toInt8.toInt32).toInt8.toInt32)))] [(.int (sl1 ((b0.toInt8.toInt32).toInt8.toInt32)))])) (fun _ kq => XS.iload X150.here hx rfl (hb hby at_99) rfl kq) ?_
      refine own_st (T' := T150) (F' := (mkF m 102 #[.val (.int b0), .val (.int b1), .val (.int b2), .val (.int b3), .val (.int sh), .val (.int fi), .val (.int (0 : Int32)), .val (.int (1 : Int32)), .val (.ref b146), .val (.int (sl1 ((b0.toInt8.toInt32).toInt8.toInt32)))] [(.int b0), (.int (sl1 ((b0.toInt8.toInt32).toInt8.toInt32)))])) (fun _ kq => XS.iloadN X150.here hx rfl (hb hby at_101) rfl kq) ?_
      refine own_st (T' := T150) (F' := (mkF m 105 #[.val (.int b0), .val (.int b1), .val (.int b2), .val (.int b3), .val (.int sh), .val (.int fi), .val (.int (0 : Int32)), .val (.int (1 : Int32)), .val (.ref b146), .val (.int (sl1 ((b0.toInt8.toInt32).toInt8.toInt32)))] [(.int (255 : Int32)), (.int b0), (.int (sl1 ((b0.toInt8.toInt32).toInt8.toInt32)))])) (fun _ kq => XS.sipush X150.here hx rfl (hb hby at_102) kq) ?_
      refine own_st (T' := T150) (F' := (mkF m 106 #[.val (.int b0), .val (.int b1), .val (.int b2), .val (.int b3), .val (.int sh), .val (.int fi), .val (.int (0 : Int32)), .val (.int (1 : Int32)), .val (.ref b146), .val (.int (sl1 ((b0.toInt8.toInt32).toInt8.toInt32)))] [(.int (b0 &&& (255 : Int32))), (.int (sl1 ((b0.toInt8.toInt32).toInt8.toInt32)))])) (fun _ kq => XS.iand X150.here hx rfl (hb hby at_105) rfl kq) ?_
      refine own_st (T' := T150) (F' := (mkF m 107 #[.val (.int b0), .val (.int b1), .val (.int b2), .val (.int b3), .val (.int sh), .val (.int fi), .val (.int (0 : Int32)), .val (.int (1 : Int32)), .val (.ref b146), .val (.int (sl1 ((b0.toInt8.toInt32).toInt8.toInt32)))] [(.int b1), (.int (b0 &&& (255 : Int32))), (.int (sl1 ((b0.toInt8.toInt32).toInt8.toInt32)))])) (fun _ kq => XS.iloadN X150.here hx rfl (hb hby at_106) rfl kq) ?_
      refine own_st (T' := T150) (F' := (mkF m 110 #[.val (.int b0), .val (.int b1), .val (.int b2), .val (.int b3), .val (.int sh), .val (.int fi), .val (.int (0 : Int32)), .val (.int (1 : Int32)), .val (.ref b146), .val (.int (sl1 ((b0.toInt8.toInt32).toInt8.toInt32)))] [(.int (255 : Int32)), (.int b1), (.int (b0 &&& (255 : Int32))), (.int (sl1 ((b0.toInt8.toInt32).toInt8.toInt32)))])) (fun _ kq => XS.sipush X150.here hx rfl (hb hby at_107) kq) ?_
      refine own_st (T' := T150) (F' := (mkF m 111 #[.val (.int b0), .val (.int b1), .val (.int b2), .val (.int b3), .val (.int sh), .val (.int fi), .val (.int (0 : Int32)), .val (.int (1 : Int32)), .val (.ref b146), .val (.int (sl1 ((b0.toInt8.toInt32).toInt8.toInt32)))] [(.int (b1 &&& (255 : Int32))), (.int (b0 &&& (255 : Int32))), (.int (sl1 ((b0.toInt8.toInt32).toInt8.toInt32)))])) (fun _ kq => XS.iand X150.here hx rfl (hb hby at_110) rfl kq) ?_
      refine own_st (T' := T150) (F' := (mkF m 112 #[.val (.int b0), .val (.int b1), .val (.int b2), .val (.int b3), .val (.int sh), .val (.int fi), .val (.int (0 : Int32)), .val (.int (1 : Int32)), .val (.ref b146), .val (.int (sl1 ((b0.toInt8.toInt32).toInt8.toInt32)))] [(.int b2), (.int (b1 &&& (255 : Int32))), (.int (b0 &&& (255 : Int32))), (.int (sl1 ((b0.toInt8.toInt32).toInt8.toInt32)))])) (fun _ kq => XS.iloadN X150.here hx rfl (hb hby at_111) rfl kq) ?_
      refine own_st (T' := T150) (F' := (mkF m 115 #[.val (.int b0), .val (.int b1), .val (.int b2), .val (.int b3), .val (.int sh), .val (.int fi), .val (.int (0 : Int32)), .val (.int (1 : Int32)), .val (.ref b146), .val (.int (sl1 ((b0.toInt8.toInt32).toInt8.toInt32)))] [(.int (255 : Int32)), (.int b2), (.int (b1 &&& (255 : Int32))), (.int (b0 &&& (255 : Int32))), (.int (sl1 ((b0.toInt8.toInt32).toInt8.toInt32)))])) (fun _ kq => XS.sipush X150.here hx rfl (hb hby at_112) kq) ?_
      refine own_st (T' := T150) (F' := (mkF m 116 #[.val (.int b0), .val (.int b1), .val (.int b2), .val (.int b3), .val (.int sh), .val (.int fi), .val (.int (0 : Int32)), .val (.int (1 : Int32)), .val (.ref b146), .val (.int (sl1 ((b0.toInt8.toInt32).toInt8.toInt32)))] [(.int (b2 &&& (255 : Int32))), (.int (b1 &&& (255 : Int32))), (.int (b0 &&& (255 : Int32))), (.int (sl1 ((b0.toInt8.toInt32).toInt8.toInt32)))])) (fun _ kq => XS.iand X150.here hx rfl (hb hby at_115) rfl kq) ?_
      refine own_st (T' := T150) (F' := (mkF m 117 #[.val (.int b0), .val (.int b1), .val (.int b2), .val (.int b3), .val (.int sh), .val (.int fi), .val (.int (0 : Int32)), .val (.int (1 : Int32)), .val (.ref b146), .val (.int (sl1 ((b0.toInt8.toInt32).toInt8.toInt32)))] [(.int b3), (.int (b2 &&& (255 : Int32))), (.int (b1 &&& (255 : Int32))), (.int (b0 &&& (255 : Int32))), (.int (sl1 ((b0.toInt8.toInt32).toInt8.toInt32)))])) (fun _ kq => XS.iloadN X150.here hx rfl (hb hby at_116) rfl kq) ?_
      refine own_st (T' := T150) (F' := (mkF m 120 #[.val (.int b0), .val (.int b1), .val (.int b2), .val (.int b3), .val (.int sh), .val (.int fi), .val (.int (0 : Int32)), .val (.int (1 : Int32)), .val (.ref b146), .val (.int (sl1 ((b0.toInt8.toInt32).toInt8.toInt32)))] [(.int (255 : Int32)), (.int b3), (.int (b2 &&& (255 : Int32))), (.int (b1 &&& (255 : Int32))), (.int (b0 &&& (255 : Int32))), (.int (sl1 ((b0.toInt8.toInt32).toInt8.toInt32)))])) (fun _ kq => XS.sipush X150.here hx rfl (hb hby at_117) kq) ?_
      refine own_st (T' := T150) (F' := (mkF m 121 #[.val (.int b0), .val (.int b1), .val (.int b2), .val (.int b3), .val (.int sh), .val (.int fi), .val (.int (0 : Int32)), .val (.int (1 : Int32)), .val (.ref b146), .val (.int (sl1 ((b0.toInt8.toInt32).toInt8.toInt32)))] [(.int (b3 &&& (255 : Int32))), (.int (b2 &&& (255 : Int32))), (.int (b1 &&& (255 : Int32))), (.int (b0 &&& (255 : Int32))), (.int (sl1 ((b0.toInt8.toInt32).toInt8.toInt32)))])) (fun _ kq => XS.iand X150.here hx rfl (hb hby at_120) rfl kq) ?_
      refine own_st (T' := T150) (F' := (mkF m 123 #[.val (.int b0), .val (.int b1), .val (.int b2), .val (.int b3), .val (.int sh), .val (.int fi), .val (.int (0 : Int32)), .val (.int (1 : Int32)), .val (.ref b146), .val (.int (sl1 ((b0.toInt8.toInt32).toInt8.toInt32)))] [(.int (1 : Int32)), (.int (b3 &&& (255 : Int32))), (.int (b2 &&& (255 : Int32))), (.int (b1 &&& (255 : Int32))), (.int (b0 &&& (255 : Int32))), (.int (sl1 ((b0.toInt8.toInt32).toInt8.toInt32)))])) (fun _ kq => XS.iload X150.here hx rfl (hb hby at_121) rfl kq) ?_
      obtain ⟨T151, locs151, X151, e151, N151, st151⟩ := own_callP X150 hx hZ 1 hown (hw _ (List.mem_of_getElem? (i := 5) rfl)) (hw _ (List.mem_of_getElem? (i := 6) rfl)) (hw _ (List.mem_of_getElem? (i := 7) rfl)) (hw _ (List.mem_of_getElem? (i := 8) rfl)) (by decide) (rm2 l Z a0 hw [] (b0 &&& (255 : Int32)) (b1 &&& (255 : Int32)) (b2 &&& (255 : Int32)) (b3 &&& (255 : Int32)) (1 : Int32) h148 n0) (by decide) (by decide) rfl rfl e150 N150 (by decide) (by decide) (g := (mkF m 123 #[.val (.int b0), .val (.int b1), .val (.int b2), .val (.int b3), .val (.int sh), .val (.int fi), .val (.int (0 : Int32)), .val (.int (1 : Int32)), .val (.ref b146), .val (.int (sl1 ((b0.toInt8.toInt32).toInt8.toInt32)))] [(.int (1 : Int32)), (.int (b3 &&& (255 : Int32))), (.int (b2 &&& (255 : Int32))), (.int (b1 &&& (255 : Int32))), (.int (b0 &&& (255 : Int32))), (.int (sl1 ((b0.toInt8.toInt32).toInt8.toInt32)))])) rfl (by rw [hml]; rfl) (argsL := [(.int (b0 &&& (255 : Int32))), (.int (b1 &&& (255 : Int32))), (.int (b2 &&& (255 : Int32))), (.int (b3 &&& (255 : Int32))), (.int (1 : Int32))]) (rest := [(.int (sl1 ((b0.toInt8.toInt32).toInt8.toInt32)))]) (lenOf pd2 rfl) rfl rfl (by show 2 * 0 + _ ≤ _; exact Nat.le_of_eq rfl) (hb hby at_123)
      refine own_st (T' := T151) (F' := (mkF m 126 #[.val (.int b0), .val (.int b1), .val (.int b2), .val (.int b3), .val (.int sh), .val (.int fi), .val (.int (0 : Int32)), .val (.int (1 : Int32)), .val (.ref b146), .val (.int (sl1 ((b0.toInt8.toInt32).toInt8.toInt32)))] [(.int (f2 (b0 &&& (255 : Int32)) (b1 &&& (255 : Int32)) (b2 &&& (255 : Int32)) (b3 &&& (255 : Int32)) (1 : Int32))), (.int (sl1 ((b0.toInt8.toInt32).toInt8.toInt32)))])) (st151) ?_
      refine own_st (T' := T151) (F' := (mkF m 129 #[.val (.int b0), .val (.int b1), .val (.int b2), .val (.int b3), .val (.int sh), .val (.int fi), .val (.int (0 : Int32)), .val (.int (1 : Int32)), .val (.ref b146), .val (.int (sl1 ((b0.toInt8.toInt32).toInt8.toInt32)))] [])) (fun _ kq => XS.icmpNo X151.here hx rfl (hb hby at_126) rfl (teq (own_law1 b0 b1 b2 b3)).2 kq) ?_
      refine own_st (T' := T151) (F' := (mkF m 130 #[.val (.int b0), .val (.int b1), .val (.int b2), .val (.int b3), .val (.int sh), .val (.int fi), .val (.int (0 : Int32)), .val (.int (1 : Int32)), .val (.ref b146), .val (.int (sl1 ((b0.toInt8.toInt32).toInt8.toInt32)))] [(.int (1 : Int32))])) (fun _ kq => XS.iconst X151.here hx rfl (hb hby at_129) kq) ?_
      refine own_st (T' := T151) (F' := (mkF m 134 #[.val (.int b0), .val (.int b1), .val (.int b2), .val (.int b3), .val (.int sh), .val (.int fi), .val (.int (0 : Int32)), .val (.int (1 : Int32)), .val (.ref b146), .val (.int (sl1 ((b0.toInt8.toInt32).toInt8.toInt32)))] [(.int (1 : Int32))])) (fun _ kq => XS.goto X151.here hx rfl (pc0 := 130) (pc' := 134) rfl (hb hby at_130) (by decide) (by decide) kq) ?_
      exact own_retN X151 hx hlk hret (by simp) (hb hby at_134) (by decide) (by decide) ⟨rfl, N151⟩
    ·
      refine own_st (T' := T0) (F' := (mkF m 16 #[.val (.int b0), .val (.int b1), .val (.int b2), .val (.int b3), .val (.int sh), .val (.int fi), .val (.int (0 : Int32)), .val (.int (2 : Int32)), .unset, .unset] [])) (fun _ kq => XS.istore X0.here hx rfl (hb hby at_14) rfl (l' := #[.val (.int b0), .val (.int b1), .val (.int b2), .val (.int b3), .val (.int sh), .val (.int fi), .val (.int (0 : Int32)), .val (.int (2 : Int32)), .unset, .unset]) rfl kq) ?_
      refine own_st (T' := T0) (F' := (mkF m 18 #[.val (.int b0), .val (.int b1), .val (.int b2), .val (.int b3), .val (.int sh), .val (.int fi), .val (.int (0 : Int32)), .val (.int (2 : Int32)), .unset, .unset] [(.int (0 : Int32))])) (fun _ kq => XS.iload X0.here hx rfl (hb hby at_16) rfl kq) ?_
      refine own_st (T' := T0) (F' := (mkF m 20 #[.val (.int b0), .val (.int b1), .val (.int b2), .val (.int b3), .val (.int sh), .val (.int fi), .val (.int (0 : Int32)), .val (.int (2 : Int32)), .unset, .unset] [(.int (2 : Int32)), (.int (0 : Int32))])) (fun _ kq => XS.iload X0.here hx rfl (hb hby at_18) rfl kq) ?_
      refine own_st (T' := T0) (F' := (mkF m 21 #[.val (.int b0), .val (.int b1), .val (.int b2), .val (.int b3), .val (.int sh), .val (.int fi), .val (.int (0 : Int32)), .val (.int (2 : Int32)), .unset, .unset] [(.int (2 : Int32))])) (fun _ kq => XS.iadd X0.here hx rfl (hb hby at_20) rfl kq) ?_
      obtain ⟨T152, h152, b152, X152, e152, E152, g152, gb152, Z152, V152, st152⟩ := own_newI X0 hx hZ (aty := .byte) (hw _ (List.mem_of_getElem? (i := 0) rfl)) e0 Z0 (g := (mkF m 21 #[.val (.int b0), .val (.int b1), .val (.int b2), .val (.int b3), .val (.int sh), .val (.int fi), .val (.int (0 : Int32)), .val (.int (2 : Int32)), .unset, .unset] [(.int (2 : Int32))])) rfl rfl (hb hby at_21) rfl (by decide) 2 2 rfl (by decide) (by decide) (by decide) (by decide)
      refine own_st (T' := T152) (F' := (mkF m 23 #[.val (.int b0), .val (.int b1), .val (.int b2), .val (.int b3), .val (.int sh), .val (.int fi), .val (.int (0 : Int32)), .val (.int (2 : Int32)), .unset, .unset] [(.ref b152)])) (st152) ?_
      refine own_st (T' := T152) (F' := (mkF m 25 #[.val (.int b0), .val (.int b1), .val (.int b2), .val (.int b3), .val (.int sh), .val (.int fi), .val (.int (0 : Int32)), .val (.int (2 : Int32)), .val (.ref b152), .unset] [])) (fun _ kq => XS.astore X152.here hx rfl (hb hby at_23) rfl rfl (l' := #[.val (.int b0), .val (.int b1), .val (.int b2), .val (.int b3), .val (.int sh), .val (.int fi), .val (.int (0 : Int32)), .val (.int (2 : Int32)), .val (.ref b152), .unset]) rfl kq) ?_
      refine own_st (T' := T152) (F' := (mkF m 27 #[.val (.int b0), .val (.int b1), .val (.int b2), .val (.int b3), .val (.int sh), .val (.int fi), .val (.int (0 : Int32)), .val (.int (2 : Int32)), .val (.ref b152), .unset] [(.int (0 : Int32))])) (fun _ kq => XS.iload X152.here hx rfl (hb hby at_25) rfl kq) ?_
      refine own_st (T' := T152) (F' := (mkF m 28 #[.val (.int b0), .val (.int b1), .val (.int b2), .val (.int b3), .val (.int sh), .val (.int fi), .val (.int (0 : Int32)), .val (.int (2 : Int32)), .val (.ref b152), .unset] [(.int (1 : Int32)), (.int (0 : Int32))])) (fun _ kq => XS.iconst X152.here hx rfl (hb hby at_27) kq) ?_
      refine own_st (T' := T152) (F' := (mkF m 38 #[.val (.int b0), .val (.int b1), .val (.int b2), .val (.int b3), .val (.int sh), .val (.int fi), .val (.int (0 : Int32)), .val (.int (2 : Int32)), .val (.ref b152), .unset] [])) (fun _ kq => XS.icmpYes X152.here hx rfl (pc0 := 28) (pc' := 38) rfl (hb hby at_28) rfl (feq (by decide : ¬ ((0 : Int32) = (1 : Int32)))).2 (by decide) (by decide) kq) ?_
      refine own_st (T' := T152) (F' := (mkF m 40 #[.val (.int b0), .val (.int b1), .val (.int b2), .val (.int b3), .val (.int sh), .val (.int fi), .val (.int (0 : Int32)), .val (.int (2 : Int32)), .val (.ref b152), .unset] [(.ref b152)])) (fun _ kq => XS.aload X152.here hx rfl (hb hby at_38) rfl rfl kq) ?_
      refine own_st (T' := T152) (F' := (mkF m 42 #[.val (.int b0), .val (.int b1), .val (.int b2), .val (.int b3), .val (.int sh), .val (.int fi), .val (.int (0 : Int32)), .val (.int (2 : Int32)), .val (.ref b152), .unset] [(.int (0 : Int32)), (.ref b152)])) (fun _ kq => XS.iload X152.here hx rfl (hb hby at_40) rfl kq) ?_
      refine own_st (T' := T152) (F' := (mkF m 43 #[.val (.int b0), .val (.int b1), .val (.int b2), .val (.int b3), .val (.int sh), .val (.int fi), .val (.int (0 : Int32)), .val (.int (2 : Int32)), .val (.ref b152), .unset] [(.int b0), (.int (0 : Int32)), (.ref b152)])) (fun _ kq => XS.iloadN X152.here hx rfl (hb hby at_42) rfl kq) ?_
      refine own_st (T' := T152) (F' := (mkF m 44 #[.val (.int b0), .val (.int b1), .val (.int b2), .val (.int b3), .val (.int sh), .val (.int fi), .val (.int (0 : Int32)), .val (.int (2 : Int32)), .val (.ref b152), .unset] [(.int (b0.toInt8.toInt32)), (.int (0 : Int32)), (.ref b152)])) (fun _ kq => XS.i2b X152.here hx rfl (hb hby at_43) rfl kq) ?_
      obtain ⟨T154, h154, locs154, X154, e154, N154, W154, V154, st154⟩ := own_stB X152 hx hZ e152 N0 (ys := [((b0.toInt8.toInt32).toInt8.toInt32), (0 : Int32)]) V152 gb152 (g := (mkF m 44 #[.val (.int b0), .val (.int b1), .val (.int b2), .val (.int b3), .val (.int sh), .val (.int fi), .val (.int (0 : Int32)), .val (.int (2 : Int32)), .val (.ref b152), .unset] [(.int (b0.toInt8.toInt32)), (.int (0 : Int32)), (.ref b152)])) rfl rfl (hb hby at_44) (by decide) (Nat.le_of_ble_eq_true rfl) rfl
      have Z154 : n0 ≤ h154.size := by rw [W154.size]; exact Z152
      refine own_st (T' := T154) (F' := (mkF m 45 #[.val (.int b0), .val (.int b1), .val (.int b2), .val (.int b3), .val (.int sh), .val (.int fi), .val (.int (0 : Int32)), .val (.int (2 : Int32)), .val (.ref b152), .unset] [])) (st154) ?_
      refine own_st (T' := T154) (F' := (mkF m 47 #[.val (.int b0), .val (.int b1), .val (.int b2), .val (.int b3), .val (.int sh), .val (.int fi), .val (.int (0 : Int32)), .val (.int (2 : Int32)), .val (.ref b152), .unset] [(.int (2 : Int32))])) (fun _ kq => XS.iload X154.here hx rfl (hb hby at_45) rfl kq) ?_
      refine own_st (T' := T154) (F' := (mkF m 48 #[.val (.int b0), .val (.int b1), .val (.int b2), .val (.int b3), .val (.int sh), .val (.int fi), .val (.int (0 : Int32)), .val (.int (2 : Int32)), .val (.ref b152), .unset] [(.int (1 : Int32)), (.int (2 : Int32))])) (fun _ kq => XS.iconst X154.here hx rfl (hb hby at_47) kq) ?_
      refine own_st (T' := T154) (F' := (mkF m 51 #[.val (.int b0), .val (.int b1), .val (.int b2), .val (.int b3), .val (.int sh), .val (.int fi), .val (.int (0 : Int32)), .val (.int (2 : Int32)), .val (.ref b152), .unset] [])) (fun _ kq => XS.icmpNo X154.here hx rfl (hb hby at_48) rfl (tlt (by decide : (1 : Int32) < (2 : Int32))).2.2.2 kq) ?_
      refine own_st (T' := T154) (F' := (mkF m 53 #[.val (.int b0), .val (.int b1), .val (.int b2), .val (.int b3), .val (.int sh), .val (.int fi), .val (.int (0 : Int32)), .val (.int (2 : Int32)), .val (.ref b152), .unset] [(.ref b152)])) (fun _ kq => XS.aload X154.here hx rfl (hb hby at_51) rfl rfl kq) ?_
      refine own_st (T' := T154) (F' := (mkF m 55 #[.val (.int b0), .val (.int b1), .val (.int b2), .val (.int b3), .val (.int sh), .val (.int fi), .val (.int (0 : Int32)), .val (.int (2 : Int32)), .val (.ref b152), .unset] [(.int (0 : Int32)), (.ref b152)])) (fun _ kq => XS.iload X154.here hx rfl (hb hby at_53) rfl kq) ?_
      refine own_st (T' := T154) (F' := (mkF m 56 #[.val (.int b0), .val (.int b1), .val (.int b2), .val (.int b3), .val (.int sh), .val (.int fi), .val (.int (0 : Int32)), .val (.int (2 : Int32)), .val (.ref b152), .unset] [(.int (1 : Int32)), (.int (0 : Int32)), (.ref b152)])) (fun _ kq => XS.iconst X154.here hx rfl (hb hby at_55) kq) ?_
      refine own_st (T' := T154) (F' := (mkF m 57 #[.val (.int b0), .val (.int b1), .val (.int b2), .val (.int b3), .val (.int sh), .val (.int fi), .val (.int (0 : Int32)), .val (.int (2 : Int32)), .val (.ref b152), .unset] [(.int (1 : Int32)), (.ref b152)])) (fun _ kq => XS.iadd X154.here hx rfl (hb hby at_56) rfl kq) ?_
      refine own_st (T' := T154) (F' := (mkF m 58 #[.val (.int b0), .val (.int b1), .val (.int b2), .val (.int b3), .val (.int sh), .val (.int fi), .val (.int (0 : Int32)), .val (.int (2 : Int32)), .val (.ref b152), .unset] [(.int b1), (.int (1 : Int32)), (.ref b152)])) (fun _ kq => XS.iloadN X154.here hx rfl (hb hby at_57) rfl kq) ?_
      refine own_st (T' := T154) (F' := (mkF m 59 #[.val (.int b0), .val (.int b1), .val (.int b2), .val (.int b3), .val (.int sh), .val (.int fi), .val (.int (0 : Int32)), .val (.int (2 : Int32)), .val (.ref b152), .unset] [(.int (b1.toInt8.toInt32)), (.int (1 : Int32)), (.ref b152)])) (fun _ kq => XS.i2b X154.here hx rfl (hb hby at_58) rfl kq) ?_
      obtain ⟨T156, h156, locs156, X156, e156, N156, W156, V156, st156⟩ := own_stB X154 hx hZ e154 N154 (ys := [((b0.toInt8.toInt32).toInt8.toInt32), ((b1.toInt8.toInt32).toInt8.toInt32)]) V154 gb152 (g := (mkF m 59 #[.val (.int b0), .val (.int b1), .val (.int b2), .val (.int b3), .val (.int sh), .val (.int fi), .val (.int (0 : Int32)), .val (.int (2 : Int32)), .val (.ref b152), .unset] [(.int (b1.toInt8.toInt32)), (.int (1 : Int32)), (.ref b152)])) rfl rfl (hb hby at_59) (by decide) (Nat.le_of_ble_eq_true rfl) rfl
      have Z156 : n0 ≤ h156.size := by rw [W156.size]; exact Z154
      refine own_st (T' := T156) (F' := (mkF m 60 #[.val (.int b0), .val (.int b1), .val (.int b2), .val (.int b3), .val (.int sh), .val (.int fi), .val (.int (0 : Int32)), .val (.int (2 : Int32)), .val (.ref b152), .unset] [])) (st156) ?_
      refine own_st (T' := T156) (F' := (mkF m 62 #[.val (.int b0), .val (.int b1), .val (.int b2), .val (.int b3), .val (.int sh), .val (.int fi), .val (.int (0 : Int32)), .val (.int (2 : Int32)), .val (.ref b152), .unset] [(.int (2 : Int32))])) (fun _ kq => XS.iload X156.here hx rfl (hb hby at_60) rfl kq) ?_
      refine own_st (T' := T156) (F' := (mkF m 63 #[.val (.int b0), .val (.int b1), .val (.int b2), .val (.int b3), .val (.int sh), .val (.int fi), .val (.int (0 : Int32)), .val (.int (2 : Int32)), .val (.ref b152), .unset] [(.int (2 : Int32)), (.int (2 : Int32))])) (fun _ kq => XS.iconst X156.here hx rfl (hb hby at_62) kq) ?_
      refine own_st (T' := T156) (F' := (mkF m 75 #[.val (.int b0), .val (.int b1), .val (.int b2), .val (.int b3), .val (.int sh), .val (.int fi), .val (.int (0 : Int32)), .val (.int (2 : Int32)), .val (.ref b152), .unset] [])) (fun _ kq => XS.icmpYes X156.here hx rfl (pc0 := 63) (pc' := 75) rfl (hb hby at_63) rfl (flt (by decide : ¬ ((2 : Int32) < (2 : Int32)))).2.2.2 (by decide) (by decide) kq) ?_
      refine own_st (T' := T156) (F' := (mkF m 77 #[.val (.int b0), .val (.int b1), .val (.int b2), .val (.int b3), .val (.int sh), .val (.int fi), .val (.int (0 : Int32)), .val (.int (2 : Int32)), .val (.ref b152), .unset] [(.int (2 : Int32))])) (fun _ kq => XS.iload X156.here hx rfl (hb hby at_75) rfl kq) ?_
      refine own_st (T' := T156) (F' := (mkF m 78 #[.val (.int b0), .val (.int b1), .val (.int b2), .val (.int b3), .val (.int sh), .val (.int fi), .val (.int (0 : Int32)), .val (.int (2 : Int32)), .val (.ref b152), .unset] [(.int (3 : Int32)), (.int (2 : Int32))])) (fun _ kq => XS.iconst X156.here hx rfl (hb hby at_77) kq) ?_
      refine own_st (T' := T156) (F' := (mkF m 90 #[.val (.int b0), .val (.int b1), .val (.int b2), .val (.int b3), .val (.int sh), .val (.int fi), .val (.int (0 : Int32)), .val (.int (2 : Int32)), .val (.ref b152), .unset] [])) (fun _ kq => XS.icmpYes X156.here hx rfl (pc0 := 78) (pc' := 90) rfl (hb hby at_78) rfl (flt (by decide : ¬ ((3 : Int32) < (2 : Int32)))).2.2.2 (by decide) (by decide) kq) ?_
      refine own_st (T' := T156) (F' := (mkF m 92 #[.val (.int b0), .val (.int b1), .val (.int b2), .val (.int b3), .val (.int sh), .val (.int fi), .val (.int (0 : Int32)), .val (.int (2 : Int32)), .val (.ref b152), .unset] [(.ref b152)])) (fun _ kq => XS.aload X156.here hx rfl (hb hby at_90) rfl rfl kq) ?_
      refine own_st (T' := T156) (F' := (mkF m 94 #[.val (.int b0), .val (.int b1), .val (.int b2), .val (.int b3), .val (.int sh), .val (.int fi), .val (.int (0 : Int32)), .val (.int (2 : Int32)), .val (.ref b152), .unset] [(.int (0 : Int32)), (.ref b152)])) (fun _ kq => XS.iload X156.here hx rfl (hb hby at_92) rfl kq) ?_
      obtain ⟨T158, locs158, X158, e158, N158, st158⟩ := own_callP X156 hx hZ 0 hown (hw _ (List.mem_of_getElem? (i := 1) rfl)) (hw _ (List.mem_of_getElem? (i := 2) rfl)) (hw _ (List.mem_of_getElem? (i := 3) rfl)) (hw _ (List.mem_of_getElem? (i := 4) rfl)) (by decide) (rm1_0_2 l Z a0 hw [] b152 ((b0.toInt8.toInt32).toInt8.toInt32) ((b1.toInt8.toInt32).toInt8.toInt32) h156 n0 V156) (by decide) (by decide) rfl rfl e156 N156 (by decide) (by decide) (g := (mkF m 94 #[.val (.int b0), .val (.int b1), .val (.int b2), .val (.int b3), .val (.int sh), .val (.int fi), .val (.int (0 : Int32)), .val (.int (2 : Int32)), .val (.ref b152), .unset] [(.int (0 : Int32)), (.ref b152)])) rfl (by rw [hml]; rfl) (argsL := [(.ref b152), (.int (0 : Int32))]) (rest := []) (lenOf pd1 rfl) rfl rfl (by show 2 * 0 + _ ≤ _; exact Nat.le_of_eq rfl) (hb hby at_94)
      refine own_st (T' := T158) (F' := (mkF m 97 #[.val (.int b0), .val (.int b1), .val (.int b2), .val (.int b3), .val (.int sh), .val (.int fi), .val (.int (0 : Int32)), .val (.int (2 : Int32)), .val (.ref b152), .unset] [(.int (sl2 ((b0.toInt8.toInt32).toInt8.toInt32) ((b1.toInt8.toInt32).toInt8.toInt32)))])) (st158) ?_
      refine own_st (T' := T158) (F' := (mkF m 99 #[.val (.int b0), .val (.int b1), .val (.int b2), .val (.int b3), .val (.int sh), .val (.int fi), .val (.int (0 : Int32)), .val (.int (2 : Int32)), .val (.ref b152), .val (.int (sl2 ((b0.toInt8.toInt32).toInt8.toInt32) ((b1.toInt8.toInt32).toInt8.toInt32)))] [])) (fun _ kq => XS.istore X158.here hx rfl (hb hby at_97) rfl (l' := #[.val (.int b0), .val (.int b1), .val (.int b2), .val (.int b3), .val (.int sh), .val (.int fi), .val (.int (0 : Int32)), .val (.int (2 : Int32)), .val (.ref b152), .val (.int (sl2 ((b0.toInt8.toInt32).toInt8.toInt32) ((b1.toInt8.toInt32).toInt8.toInt32)))]) rfl kq) ?_
      refine own_st (T' := T158) (F' := (mkF m 101 #[.val (.int b0), .val (.int b1), .val (.int b2), .val (.int b3), .val (.int sh), .val (.int fi), .val (.int (0 : Int32)), .val (.int (2 : Int32)), .val (.ref b152), .val (.int (sl2 ((b0.toInt8.toInt32).toInt8.toInt32) ((b1.toInt8.toInt32).toInt8.toInt32)))] [(.int (sl2 ((b0.toInt8.toInt32).toInt8.toInt32) ((b1.toInt8.toInt32).toInt8.toInt32)))])) (fun _ kq => XS.iload X158.here hx rfl (hb hby at_99) rfl kq) ?_
      refine own_st (T' := T158) (F' := (mkF m 102 #[.val (.int b0), .val (.int b1), .val (.int b2), .val (.int b3), .val (.int sh), .val (.int fi), .val (.int (0 : Int32)), .val (.int (2 : Int32)), .val (.ref b152), .val (.int (sl2 ((b0.toInt8.toInt32).toInt8.toInt32) ((b1.toInt8.toInt32).toInt8.toInt32)))] [(.int b0), (.int (sl2 ((b0.toInt8.toInt32).toInt8.toInt32) ((b1.toInt8.toInt32).toInt8.toInt32)))])) (fun _ kq => XS.iloadN X158.here hx rfl (hb hby at_101) rfl kq) ?_
      refine own_st (T' := T158) (F' := (mkF m 105 #[.val (.int b0), .val (.int b1), .val (.int b2), .val (.int b3), .val (.int sh), .val (.int fi), .val (.int (0 : Int32)), .val (.int (2 : Int32)), .val (.ref b152), .val (.int (sl2 ((b0.toInt8.toInt32).toInt8.toInt32) ((b1.toInt8.toInt32).toInt8.toInt32)))] [(.int (255 : Int32)), (.int b0), (.int (sl2 ((b0.toInt8.toInt32).toInt8.toInt32) ((b1.toInt8.toInt32).toInt8.toInt32)))])) (fun _ kq => XS.sipush X158.here hx rfl (hb hby at_102) kq) ?_
      refine own_st (T' := T158) (F' := (mkF m 106 #[.val (.int b0), .val (.int b1), .val (.int b2), .val (.int b3), .val (.int sh), .val (.int fi), .val (.int (0 : Int32)), .val (.int (2 : Int32)), .val (.ref b152), .val (.int (sl2 ((b0.toInt8.toInt32).toInt8.toInt32) ((b1.toInt8.toInt32).toInt8.toInt32)))] [(.int (b0 &&& (255 : Int32))), (.int (sl2 ((b0.toInt8.toInt32).toInt8.toInt32) ((b1.toInt8.toInt32).toInt8.toInt32)))])) (fun _ kq => XS.iand X158.here hx rfl (hb hby at_105) rfl kq) ?_
      refine own_st (T' := T158) (F' := (mkF m 107 #[.val (.int b0), .val (.int b1), .val (.int b2), .val (.int b3), .val (.int sh), .val (.int fi), .val (.int (0 : Int32)), .val (.int (2 : Int32)), .val (.ref b152), .val (.int (sl2 ((b0.toInt8.toInt32).toInt8.toInt32) ((b1.toInt8.toInt32).toInt8.toInt32)))] [(.int b1), (.int (b0 &&& (255 : Int32))), (.int (sl2 ((b0.toInt8.toInt32).toInt8.toInt32) ((b1.toInt8.toInt32).toInt8.toInt32)))])) (fun _ kq => XS.iloadN X158.here hx rfl (hb hby at_106) rfl kq) ?_
      refine own_st (T' := T158) (F' := (mkF m 110 #[.val (.int b0), .val (.int b1), .val (.int b2), .val (.int b3), .val (.int sh), .val (.int fi), .val (.int (0 : Int32)), .val (.int (2 : Int32)), .val (.ref b152), .val (.int (sl2 ((b0.toInt8.toInt32).toInt8.toInt32) ((b1.toInt8.toInt32).toInt8.toInt32)))] [(.int (255 : Int32)), (.int b1), (.int (b0 &&& (255 : Int32))), (.int (sl2 ((b0.toInt8.toInt32).toInt8.toInt32) ((b1.toInt8.toInt32).toInt8.toInt32)))])) (fun _ kq => XS.sipush X158.here hx rfl (hb hby at_107) kq) ?_
      refine own_st (T' := T158) (F' := (mkF m 111 #[.val (.int b0), .val (.int b1), .val (.int b2), .val (.int b3), .val (.int sh), .val (.int fi), .val (.int (0 : Int32)), .val (.int (2 : Int32)), .val (.ref b152), .val (.int (sl2 ((b0.toInt8.toInt32).toInt8.toInt32) ((b1.toInt8.toInt32).toInt8.toInt32)))] [(.int (b1 &&& (255 : Int32))), (.int (b0 &&& (255 : Int32))), (.int (sl2 ((b0.toInt8.toInt32).toInt8.toInt32) ((b1.toInt8.toInt32).toInt8.toInt32)))])) (fun _ kq => XS.iand X158.here hx rfl (hb hby at_110) rfl kq) ?_
      refine own_st (T' := T158) (F' := (mkF m 112 #[.val (.int b0), .val (.int b1), .val (.int b2), .val (.int b3), .val (.int sh), .val (.int fi), .val (.int (0 : Int32)), .val (.int (2 : Int32)), .val (.ref b152), .val (.int (sl2 ((b0.toInt8.toInt32).toInt8.toInt32) ((b1.toInt8.toInt32).toInt8.toInt32)))] [(.int b2), (.int (b1 &&& (255 : Int32))), (.int (b0 &&& (255 : Int32))), (.int (sl2 ((b0.toInt8.toInt32).toInt8.toInt32) ((b1.toInt8.toInt32).toInt8.toInt32)))])) (fun _ kq => XS.iloadN X158.here hx rfl (hb hby at_111) rfl kq) ?_
      refine own_st (T' := T158) (F' := (mkF m 115 #[.val (.int b0), .val (.int b1), .val (.int b2), .val (.int b3), .val (.int sh), .val (.int fi), .val (.int (0 : Int32)), .val (.int (2 : Int32)), .val (.ref b152), .val (.int (sl2 ((b0.toInt8.toInt32).toInt8.toInt32) ((b1.toInt8.toInt32).toInt8.toInt32)))] [(.int (255 : Int32)), (.int b2), (.int (b1 &&& (255 : Int32))), (.int (b0 &&& (255 : Int32))), (.int (sl2 ((b0.toInt8.toInt32).toInt8.toInt32) ((b1.toInt8.toInt32).toInt8.toInt32)))])) (fun _ kq => XS.sipush X158.here hx rfl (hb hby at_112) kq) ?_
      refine own_st (T' := T158) (F' := (mkF m 116 #[.val (.int b0), .val (.int b1), .val (.int b2), .val (.int b3), .val (.int sh), .val (.int fi), .val (.int (0 : Int32)), .val (.int (2 : Int32)), .val (.ref b152), .val (.int (sl2 ((b0.toInt8.toInt32).toInt8.toInt32) ((b1.toInt8.toInt32).toInt8.toInt32)))] [(.int (b2 &&& (255 : Int32))), (.int (b1 &&& (255 : Int32))), (.int (b0 &&& (255 : Int32))), (.int (sl2 ((b0.toInt8.toInt32).toInt8.toInt32) ((b1.toInt8.toInt32).toInt8.toInt32)))])) (fun _ kq => XS.iand X158.here hx rfl (hb hby at_115) rfl kq) ?_
      refine own_st (T' := T158) (F' := (mkF m 117 #[.val (.int b0), .val (.int b1), .val (.int b2), .val (.int b3), .val (.int sh), .val (.int fi), .val (.int (0 : Int32)), .val (.int (2 : Int32)), .val (.ref b152), .val (.int (sl2 ((b0.toInt8.toInt32).toInt8.toInt32) ((b1.toInt8.toInt32).toInt8.toInt32)))] [(.int b3), (.int (b2 &&& (255 : Int32))), (.int (b1 &&& (255 : Int32))), (.int (b0 &&& (255 : Int32))), (.int (sl2 ((b0.toInt8.toInt32).toInt8.toInt32) ((b1.toInt8.toInt32).toInt8.toInt32)))])) (fun _ kq => XS.iloadN X158.here hx rfl (hb hby at_116) rfl kq) ?_
      refine own_st (T' := T158) (F' := (mkF m 120 #[.val (.int b0), .val (.int b1), .val (.int b2), .val (.int b3), .val (.int sh), .val (.int fi), .val (.int (0 : Int32)), .val (.int (2 : Int32)), .val (.ref b152), .val (.int (sl2 ((b0.toInt8.toInt32).toInt8.toInt32) ((b1.toInt8.toInt32).toInt8.toInt32)))] [(.int (255 : Int32)), (.int b3), (.int (b2 &&& (255 : Int32))), (.int (b1 &&& (255 : Int32))), (.int (b0 &&& (255 : Int32))), (.int (sl2 ((b0.toInt8.toInt32).toInt8.toInt32) ((b1.toInt8.toInt32).toInt8.toInt32)))])) (fun _ kq => XS.sipush X158.here hx rfl (hb hby at_117) kq) ?_
      refine own_st (T' := T158) (F' := (mkF m 121 #[.val (.int b0), .val (.int b1), .val (.int b2), .val (.int b3), .val (.int sh), .val (.int fi), .val (.int (0 : Int32)), .val (.int (2 : Int32)), .val (.ref b152), .val (.int (sl2 ((b0.toInt8.toInt32).toInt8.toInt32) ((b1.toInt8.toInt32).toInt8.toInt32)))] [(.int (b3 &&& (255 : Int32))), (.int (b2 &&& (255 : Int32))), (.int (b1 &&& (255 : Int32))), (.int (b0 &&& (255 : Int32))), (.int (sl2 ((b0.toInt8.toInt32).toInt8.toInt32) ((b1.toInt8.toInt32).toInt8.toInt32)))])) (fun _ kq => XS.iand X158.here hx rfl (hb hby at_120) rfl kq) ?_
      refine own_st (T' := T158) (F' := (mkF m 123 #[.val (.int b0), .val (.int b1), .val (.int b2), .val (.int b3), .val (.int sh), .val (.int fi), .val (.int (0 : Int32)), .val (.int (2 : Int32)), .val (.ref b152), .val (.int (sl2 ((b0.toInt8.toInt32).toInt8.toInt32) ((b1.toInt8.toInt32).toInt8.toInt32)))] [(.int (2 : Int32)), (.int (b3 &&& (255 : Int32))), (.int (b2 &&& (255 : Int32))), (.int (b1 &&& (255 : Int32))), (.int (b0 &&& (255 : Int32))), (.int (sl2 ((b0.toInt8.toInt32).toInt8.toInt32) ((b1.toInt8.toInt32).toInt8.toInt32)))])) (fun _ kq => XS.iload X158.here hx rfl (hb hby at_121) rfl kq) ?_
      obtain ⟨T159, locs159, X159, e159, N159, st159⟩ := own_callP X158 hx hZ 1 hown (hw _ (List.mem_of_getElem? (i := 5) rfl)) (hw _ (List.mem_of_getElem? (i := 6) rfl)) (hw _ (List.mem_of_getElem? (i := 7) rfl)) (hw _ (List.mem_of_getElem? (i := 8) rfl)) (by decide) (rm2 l Z a0 hw [] (b0 &&& (255 : Int32)) (b1 &&& (255 : Int32)) (b2 &&& (255 : Int32)) (b3 &&& (255 : Int32)) (2 : Int32) h156 n0) (by decide) (by decide) rfl rfl e158 N158 (by decide) (by decide) (g := (mkF m 123 #[.val (.int b0), .val (.int b1), .val (.int b2), .val (.int b3), .val (.int sh), .val (.int fi), .val (.int (0 : Int32)), .val (.int (2 : Int32)), .val (.ref b152), .val (.int (sl2 ((b0.toInt8.toInt32).toInt8.toInt32) ((b1.toInt8.toInt32).toInt8.toInt32)))] [(.int (2 : Int32)), (.int (b3 &&& (255 : Int32))), (.int (b2 &&& (255 : Int32))), (.int (b1 &&& (255 : Int32))), (.int (b0 &&& (255 : Int32))), (.int (sl2 ((b0.toInt8.toInt32).toInt8.toInt32) ((b1.toInt8.toInt32).toInt8.toInt32)))])) rfl (by rw [hml]; rfl) (argsL := [(.int (b0 &&& (255 : Int32))), (.int (b1 &&& (255 : Int32))), (.int (b2 &&& (255 : Int32))), (.int (b3 &&& (255 : Int32))), (.int (2 : Int32))]) (rest := [(.int (sl2 ((b0.toInt8.toInt32).toInt8.toInt32) ((b1.toInt8.toInt32).toInt8.toInt32)))]) (lenOf pd2 rfl) rfl rfl (by show 2 * 0 + _ ≤ _; exact Nat.le_of_eq rfl) (hb hby at_123)
      refine own_st (T' := T159) (F' := (mkF m 126 #[.val (.int b0), .val (.int b1), .val (.int b2), .val (.int b3), .val (.int sh), .val (.int fi), .val (.int (0 : Int32)), .val (.int (2 : Int32)), .val (.ref b152), .val (.int (sl2 ((b0.toInt8.toInt32).toInt8.toInt32) ((b1.toInt8.toInt32).toInt8.toInt32)))] [(.int (f2 (b0 &&& (255 : Int32)) (b1 &&& (255 : Int32)) (b2 &&& (255 : Int32)) (b3 &&& (255 : Int32)) (2 : Int32))), (.int (sl2 ((b0.toInt8.toInt32).toInt8.toInt32) ((b1.toInt8.toInt32).toInt8.toInt32)))])) (st159) ?_
      refine own_st (T' := T159) (F' := (mkF m 129 #[.val (.int b0), .val (.int b1), .val (.int b2), .val (.int b3), .val (.int sh), .val (.int fi), .val (.int (0 : Int32)), .val (.int (2 : Int32)), .val (.ref b152), .val (.int (sl2 ((b0.toInt8.toInt32).toInt8.toInt32) ((b1.toInt8.toInt32).toInt8.toInt32)))] [])) (fun _ kq => XS.icmpNo X159.here hx rfl (hb hby at_126) rfl (teq (own_law2 b0 b1 b2 b3)).2 kq) ?_
      refine own_st (T' := T159) (F' := (mkF m 130 #[.val (.int b0), .val (.int b1), .val (.int b2), .val (.int b3), .val (.int sh), .val (.int fi), .val (.int (0 : Int32)), .val (.int (2 : Int32)), .val (.ref b152), .val (.int (sl2 ((b0.toInt8.toInt32).toInt8.toInt32) ((b1.toInt8.toInt32).toInt8.toInt32)))] [(.int (1 : Int32))])) (fun _ kq => XS.iconst X159.here hx rfl (hb hby at_129) kq) ?_
      refine own_st (T' := T159) (F' := (mkF m 134 #[.val (.int b0), .val (.int b1), .val (.int b2), .val (.int b3), .val (.int sh), .val (.int fi), .val (.int (0 : Int32)), .val (.int (2 : Int32)), .val (.ref b152), .val (.int (sl2 ((b0.toInt8.toInt32).toInt8.toInt32) ((b1.toInt8.toInt32).toInt8.toInt32)))] [(.int (1 : Int32))])) (fun _ kq => XS.goto X159.here hx rfl (pc0 := 130) (pc' := 134) rfl (hb hby at_130) (by decide) (by decide) kq) ?_
      exact own_retN X159 hx hlk hret (by simp) (hb hby at_134) (by decide) (by decide) ⟨rfl, N159⟩
    ·
      refine own_st (T' := T0) (F' := (mkF m 16 #[.val (.int b0), .val (.int b1), .val (.int b2), .val (.int b3), .val (.int sh), .val (.int fi), .val (.int (0 : Int32)), .val (.int (3 : Int32)), .unset, .unset] [])) (fun _ kq => XS.istore X0.here hx rfl (hb hby at_14) rfl (l' := #[.val (.int b0), .val (.int b1), .val (.int b2), .val (.int b3), .val (.int sh), .val (.int fi), .val (.int (0 : Int32)), .val (.int (3 : Int32)), .unset, .unset]) rfl kq) ?_
      refine own_st (T' := T0) (F' := (mkF m 18 #[.val (.int b0), .val (.int b1), .val (.int b2), .val (.int b3), .val (.int sh), .val (.int fi), .val (.int (0 : Int32)), .val (.int (3 : Int32)), .unset, .unset] [(.int (0 : Int32))])) (fun _ kq => XS.iload X0.here hx rfl (hb hby at_16) rfl kq) ?_
      refine own_st (T' := T0) (F' := (mkF m 20 #[.val (.int b0), .val (.int b1), .val (.int b2), .val (.int b3), .val (.int sh), .val (.int fi), .val (.int (0 : Int32)), .val (.int (3 : Int32)), .unset, .unset] [(.int (3 : Int32)), (.int (0 : Int32))])) (fun _ kq => XS.iload X0.here hx rfl (hb hby at_18) rfl kq) ?_
      refine own_st (T' := T0) (F' := (mkF m 21 #[.val (.int b0), .val (.int b1), .val (.int b2), .val (.int b3), .val (.int sh), .val (.int fi), .val (.int (0 : Int32)), .val (.int (3 : Int32)), .unset, .unset] [(.int (3 : Int32))])) (fun _ kq => XS.iadd X0.here hx rfl (hb hby at_20) rfl kq) ?_
      obtain ⟨T160, h160, b160, X160, e160, E160, g160, gb160, Z160, V160, st160⟩ := own_newI X0 hx hZ (aty := .byte) (hw _ (List.mem_of_getElem? (i := 0) rfl)) e0 Z0 (g := (mkF m 21 #[.val (.int b0), .val (.int b1), .val (.int b2), .val (.int b3), .val (.int sh), .val (.int fi), .val (.int (0 : Int32)), .val (.int (3 : Int32)), .unset, .unset] [(.int (3 : Int32))])) rfl rfl (hb hby at_21) rfl (by decide) 3 3 rfl (by decide) (by decide) (by decide) (by decide)
      refine own_st (T' := T160) (F' := (mkF m 23 #[.val (.int b0), .val (.int b1), .val (.int b2), .val (.int b3), .val (.int sh), .val (.int fi), .val (.int (0 : Int32)), .val (.int (3 : Int32)), .unset, .unset] [(.ref b160)])) (st160) ?_
      refine own_st (T' := T160) (F' := (mkF m 25 #[.val (.int b0), .val (.int b1), .val (.int b2), .val (.int b3), .val (.int sh), .val (.int fi), .val (.int (0 : Int32)), .val (.int (3 : Int32)), .val (.ref b160), .unset] [])) (fun _ kq => XS.astore X160.here hx rfl (hb hby at_23) rfl rfl (l' := #[.val (.int b0), .val (.int b1), .val (.int b2), .val (.int b3), .val (.int sh), .val (.int fi), .val (.int (0 : Int32)), .val (.int (3 : Int32)), .val (.ref b160), .unset]) rfl kq) ?_
      refine own_st (T' := T160) (F' := (mkF m 27 #[.val (.int b0), .val (.int b1), .val (.int b2), .val (.int b3), .val (.int sh), .val (.int fi), .val (.int (0 : Int32)), .val (.int (3 : Int32)), .val (.ref b160), .unset] [(.int (0 : Int32))])) (fun _ kq => XS.iload X160.here hx rfl (hb hby at_25) rfl kq) ?_
      refine own_st (T' := T160) (F' := (mkF m 28 #[.val (.int b0), .val (.int b1), .val (.int b2), .val (.int b3), .val (.int sh), .val (.int fi), .val (.int (0 : Int32)), .val (.int (3 : Int32)), .val (.ref b160), .unset] [(.int (1 : Int32)), (.int (0 : Int32))])) (fun _ kq => XS.iconst X160.here hx rfl (hb hby at_27) kq) ?_
      refine own_st (T' := T160) (F' := (mkF m 38 #[.val (.int b0), .val (.int b1), .val (.int b2), .val (.int b3), .val (.int sh), .val (.int fi), .val (.int (0 : Int32)), .val (.int (3 : Int32)), .val (.ref b160), .unset] [])) (fun _ kq => XS.icmpYes X160.here hx rfl (pc0 := 28) (pc' := 38) rfl (hb hby at_28) rfl (feq (by decide : ¬ ((0 : Int32) = (1 : Int32)))).2 (by decide) (by decide) kq) ?_
      refine own_st (T' := T160) (F' := (mkF m 40 #[.val (.int b0), .val (.int b1), .val (.int b2), .val (.int b3), .val (.int sh), .val (.int fi), .val (.int (0 : Int32)), .val (.int (3 : Int32)), .val (.ref b160), .unset] [(.ref b160)])) (fun _ kq => XS.aload X160.here hx rfl (hb hby at_38) rfl rfl kq) ?_
      refine own_st (T' := T160) (F' := (mkF m 42 #[.val (.int b0), .val (.int b1), .val (.int b2), .val (.int b3), .val (.int sh), .val (.int fi), .val (.int (0 : Int32)), .val (.int (3 : Int32)), .val (.ref b160), .unset] [(.int (0 : Int32)), (.ref b160)])) (fun _ kq => XS.iload X160.here hx rfl (hb hby at_40) rfl kq) ?_
      refine own_st (T' := T160) (F' := (mkF m 43 #[.val (.int b0), .val (.int b1), .val (.int b2), .val (.int b3), .val (.int sh), .val (.int fi), .val (.int (0 : Int32)), .val (.int (3 : Int32)), .val (.ref b160), .unset] [(.int b0), (.int (0 : Int32)), (.ref b160)])) (fun _ kq => XS.iloadN X160.here hx rfl (hb hby at_42) rfl kq) ?_
      refine own_st (T' := T160) (F' := (mkF m 44 #[.val (.int b0), .val (.int b1), .val (.int b2), .val (.int b3), .val (.int sh), .val (.int fi), .val (.int (0 : Int32)), .val (.int (3 : Int32)), .val (.ref b160), .unset] [(.int (b0.toInt8.toInt32)), (.int (0 : Int32)), (.ref b160)])) (fun _ kq => XS.i2b X160.here hx rfl (hb hby at_43) rfl kq) ?_
      obtain ⟨T162, h162, locs162, X162, e162, N162, W162, V162, st162⟩ := own_stB X160 hx hZ e160 N0 (ys := [((b0.toInt8.toInt32).toInt8.toInt32), (0 : Int32), (0 : Int32)]) V160 gb160 (g := (mkF m 44 #[.val (.int b0), .val (.int b1), .val (.int b2), .val (.int b3), .val (.int sh), .val (.int fi), .val (.int (0 : Int32)), .val (.int (3 : Int32)), .val (.ref b160), .unset] [(.int (b0.toInt8.toInt32)), (.int (0 : Int32)), (.ref b160)])) rfl rfl (hb hby at_44) (by decide) (Nat.le_of_ble_eq_true rfl) rfl
      have Z162 : n0 ≤ h162.size := by rw [W162.size]; exact Z160
      refine own_st (T' := T162) (F' := (mkF m 45 #[.val (.int b0), .val (.int b1), .val (.int b2), .val (.int b3), .val (.int sh), .val (.int fi), .val (.int (0 : Int32)), .val (.int (3 : Int32)), .val (.ref b160), .unset] [])) (st162) ?_
      refine own_st (T' := T162) (F' := (mkF m 47 #[.val (.int b0), .val (.int b1), .val (.int b2), .val (.int b3), .val (.int sh), .val (.int fi), .val (.int (0 : Int32)), .val (.int (3 : Int32)), .val (.ref b160), .unset] [(.int (3 : Int32))])) (fun _ kq => XS.iload X162.here hx rfl (hb hby at_45) rfl kq) ?_
      refine own_st (T' := T162) (F' := (mkF m 48 #[.val (.int b0), .val (.int b1), .val (.int b2), .val (.int b3), .val (.int sh), .val (.int fi), .val (.int (0 : Int32)), .val (.int (3 : Int32)), .val (.ref b160), .unset] [(.int (1 : Int32)), (.int (3 : Int32))])) (fun _ kq => XS.iconst X162.here hx rfl (hb hby at_47) kq) ?_
      refine own_st (T' := T162) (F' := (mkF m 51 #[.val (.int b0), .val (.int b1), .val (.int b2), .val (.int b3), .val (.int sh), .val (.int fi), .val (.int (0 : Int32)), .val (.int (3 : Int32)), .val (.ref b160), .unset] [])) (fun _ kq => XS.icmpNo X162.here hx rfl (hb hby at_48) rfl (tlt (by decide : (1 : Int32) < (3 : Int32))).2.2.2 kq) ?_
      refine own_st (T' := T162) (F' := (mkF m 53 #[.val (.int b0), .val (.int b1), .val (.int b2), .val (.int b3), .val (.int sh), .val (.int fi), .val (.int (0 : Int32)), .val (.int (3 : Int32)), .val (.ref b160), .unset] [(.ref b160)])) (fun _ kq => XS.aload X162.here hx rfl (hb hby at_51) rfl rfl kq) ?_
      refine own_st (T' := T162) (F' := (mkF m 55 #[.val (.int b0), .val (.int b1), .val (.int b2), .val (.int b3), .val (.int sh), .val (.int fi), .val (.int (0 : Int32)), .val (.int (3 : Int32)), .val (.ref b160), .unset] [(.int (0 : Int32)), (.ref b160)])) (fun _ kq => XS.iload X162.here hx rfl (hb hby at_53) rfl kq) ?_
      refine own_st (T' := T162) (F' := (mkF m 56 #[.val (.int b0), .val (.int b1), .val (.int b2), .val (.int b3), .val (.int sh), .val (.int fi), .val (.int (0 : Int32)), .val (.int (3 : Int32)), .val (.ref b160), .unset] [(.int (1 : Int32)), (.int (0 : Int32)), (.ref b160)])) (fun _ kq => XS.iconst X162.here hx rfl (hb hby at_55) kq) ?_
      refine own_st (T' := T162) (F' := (mkF m 57 #[.val (.int b0), .val (.int b1), .val (.int b2), .val (.int b3), .val (.int sh), .val (.int fi), .val (.int (0 : Int32)), .val (.int (3 : Int32)), .val (.ref b160), .unset] [(.int (1 : Int32)), (.ref b160)])) (fun _ kq => XS.iadd X162.here hx rfl (hb hby at_56) rfl kq) ?_
      refine own_st (T' := T162) (F' := (mkF m 58 #[.val (.int b0), .val (.int b1), .val (.int b2), .val (.int b3), .val (.int sh), .val (.int fi), .val (.int (0 : Int32)), .val (.int (3 : Int32)), .val (.ref b160), .unset] [(.int b1), (.int (1 : Int32)), (.ref b160)])) (fun _ kq => XS.iloadN X162.here hx rfl (hb hby at_57) rfl kq) ?_
      refine own_st (T' := T162) (F' := (mkF m 59 #[.val (.int b0), .val (.int b1), .val (.int b2), .val (.int b3), .val (.int sh), .val (.int fi), .val (.int (0 : Int32)), .val (.int (3 : Int32)), .val (.ref b160), .unset] [(.int (b1.toInt8.toInt32)), (.int (1 : Int32)), (.ref b160)])) (fun _ kq => XS.i2b X162.here hx rfl (hb hby at_58) rfl kq) ?_
      obtain ⟨T164, h164, locs164, X164, e164, N164, W164, V164, st164⟩ := own_stB X162 hx hZ e162 N162 (ys := [((b0.toInt8.toInt32).toInt8.toInt32), ((b1.toInt8.toInt32).toInt8.toInt32), (0 : Int32)]) V162 gb160 (g := (mkF m 59 #[.val (.int b0), .val (.int b1), .val (.int b2), .val (.int b3), .val (.int sh), .val (.int fi), .val (.int (0 : Int32)), .val (.int (3 : Int32)), .val (.ref b160), .unset] [(.int (b1.toInt8.toInt32)), (.int (1 : Int32)), (.ref b160)])) rfl rfl (hb hby at_59) (by decide) (Nat.le_of_ble_eq_true rfl) rfl
      have Z164 : n0 ≤ h164.size := by rw [W164.size]; exact Z162
      refine own_st (T' := T164) (F' := (mkF m 60 #[.val (.int b0), .val (.int b1), .val (.int b2), .val (.int b3), .val (.int sh), .val (.int fi), .val (.int (0 : Int32)), .val (.int (3 : Int32)), .val (.ref b160), .unset] [])) (st164) ?_
      refine own_st (T' := T164) (F' := (mkF m 62 #[.val (.int b0), .val (.int b1), .val (.int b2), .val (.int b3), .val (.int sh), .val (.int fi), .val (.int (0 : Int32)), .val (.int (3 : Int32)), .val (.ref b160), .unset] [(.int (3 : Int32))])) (fun _ kq => XS.iload X164.here hx rfl (hb hby at_60) rfl kq) ?_
      refine own_st (T' := T164) (F' := (mkF m 63 #[.val (.int b0), .val (.int b1), .val (.int b2), .val (.int b3), .val (.int sh), .val (.int fi), .val (.int (0 : Int32)), .val (.int (3 : Int32)), .val (.ref b160), .unset] [(.int (2 : Int32)), (.int (3 : Int32))])) (fun _ kq => XS.iconst X164.here hx rfl (hb hby at_62) kq) ?_
      refine own_st (T' := T164) (F' := (mkF m 66 #[.val (.int b0), .val (.int b1), .val (.int b2), .val (.int b3), .val (.int sh), .val (.int fi), .val (.int (0 : Int32)), .val (.int (3 : Int32)), .val (.ref b160), .unset] [])) (fun _ kq => XS.icmpNo X164.here hx rfl (hb hby at_63) rfl (tlt (by decide : (2 : Int32) < (3 : Int32))).2.2.2 kq) ?_
      refine own_st (T' := T164) (F' := (mkF m 68 #[.val (.int b0), .val (.int b1), .val (.int b2), .val (.int b3), .val (.int sh), .val (.int fi), .val (.int (0 : Int32)), .val (.int (3 : Int32)), .val (.ref b160), .unset] [(.ref b160)])) (fun _ kq => XS.aload X164.here hx rfl (hb hby at_66) rfl rfl kq) ?_
      refine own_st (T' := T164) (F' := (mkF m 70 #[.val (.int b0), .val (.int b1), .val (.int b2), .val (.int b3), .val (.int sh), .val (.int fi), .val (.int (0 : Int32)), .val (.int (3 : Int32)), .val (.ref b160), .unset] [(.int (0 : Int32)), (.ref b160)])) (fun _ kq => XS.iload X164.here hx rfl (hb hby at_68) rfl kq) ?_
      refine own_st (T' := T164) (F' := (mkF m 71 #[.val (.int b0), .val (.int b1), .val (.int b2), .val (.int b3), .val (.int sh), .val (.int fi), .val (.int (0 : Int32)), .val (.int (3 : Int32)), .val (.ref b160), .unset] [(.int (2 : Int32)), (.int (0 : Int32)), (.ref b160)])) (fun _ kq => XS.iconst X164.here hx rfl (hb hby at_70) kq) ?_
      refine own_st (T' := T164) (F' := (mkF m 72 #[.val (.int b0), .val (.int b1), .val (.int b2), .val (.int b3), .val (.int sh), .val (.int fi), .val (.int (0 : Int32)), .val (.int (3 : Int32)), .val (.ref b160), .unset] [(.int (2 : Int32)), (.ref b160)])) (fun _ kq => XS.iadd X164.here hx rfl (hb hby at_71) rfl kq) ?_
      refine own_st (T' := T164) (F' := (mkF m 73 #[.val (.int b0), .val (.int b1), .val (.int b2), .val (.int b3), .val (.int sh), .val (.int fi), .val (.int (0 : Int32)), .val (.int (3 : Int32)), .val (.ref b160), .unset] [(.int b2), (.int (2 : Int32)), (.ref b160)])) (fun _ kq => XS.iloadN X164.here hx rfl (hb hby at_72) rfl kq) ?_
      refine own_st (T' := T164) (F' := (mkF m 74 #[.val (.int b0), .val (.int b1), .val (.int b2), .val (.int b3), .val (.int sh), .val (.int fi), .val (.int (0 : Int32)), .val (.int (3 : Int32)), .val (.ref b160), .unset] [(.int (b2.toInt8.toInt32)), (.int (2 : Int32)), (.ref b160)])) (fun _ kq => XS.i2b X164.here hx rfl (hb hby at_73) rfl kq) ?_
      obtain ⟨T166, h166, locs166, X166, e166, N166, W166, V166, st166⟩ := own_stB X164 hx hZ e164 N164 (ys := [((b0.toInt8.toInt32).toInt8.toInt32), ((b1.toInt8.toInt32).toInt8.toInt32), ((b2.toInt8.toInt32).toInt8.toInt32)]) V164 gb160 (g := (mkF m 74 #[.val (.int b0), .val (.int b1), .val (.int b2), .val (.int b3), .val (.int sh), .val (.int fi), .val (.int (0 : Int32)), .val (.int (3 : Int32)), .val (.ref b160), .unset] [(.int (b2.toInt8.toInt32)), (.int (2 : Int32)), (.ref b160)])) rfl rfl (hb hby at_74) (by decide) (Nat.le_of_ble_eq_true rfl) rfl
      have Z166 : n0 ≤ h166.size := by rw [W166.size]; exact Z164
      refine own_st (T' := T166) (F' := (mkF m 75 #[.val (.int b0), .val (.int b1), .val (.int b2), .val (.int b3), .val (.int sh), .val (.int fi), .val (.int (0 : Int32)), .val (.int (3 : Int32)), .val (.ref b160), .unset] [])) (st166) ?_
      refine own_st (T' := T166) (F' := (mkF m 77 #[.val (.int b0), .val (.int b1), .val (.int b2), .val (.int b3), .val (.int sh), .val (.int fi), .val (.int (0 : Int32)), .val (.int (3 : Int32)), .val (.ref b160), .unset] [(.int (3 : Int32))])) (fun _ kq => XS.iload X166.here hx rfl (hb hby at_75) rfl kq) ?_
      refine own_st (T' := T166) (F' := (mkF m 78 #[.val (.int b0), .val (.int b1), .val (.int b2), .val (.int b3), .val (.int sh), .val (.int fi), .val (.int (0 : Int32)), .val (.int (3 : Int32)), .val (.ref b160), .unset] [(.int (3 : Int32)), (.int (3 : Int32))])) (fun _ kq => XS.iconst X166.here hx rfl (hb hby at_77) kq) ?_
      refine own_st (T' := T166) (F' := (mkF m 90 #[.val (.int b0), .val (.int b1), .val (.int b2), .val (.int b3), .val (.int sh), .val (.int fi), .val (.int (0 : Int32)), .val (.int (3 : Int32)), .val (.ref b160), .unset] [])) (fun _ kq => XS.icmpYes X166.here hx rfl (pc0 := 78) (pc' := 90) rfl (hb hby at_78) rfl (flt (by decide : ¬ ((3 : Int32) < (3 : Int32)))).2.2.2 (by decide) (by decide) kq) ?_
      refine own_st (T' := T166) (F' := (mkF m 92 #[.val (.int b0), .val (.int b1), .val (.int b2), .val (.int b3), .val (.int sh), .val (.int fi), .val (.int (0 : Int32)), .val (.int (3 : Int32)), .val (.ref b160), .unset] [(.ref b160)])) (fun _ kq => XS.aload X166.here hx rfl (hb hby at_90) rfl rfl kq) ?_
      refine own_st (T' := T166) (F' := (mkF m 94 #[.val (.int b0), .val (.int b1), .val (.int b2), .val (.int b3), .val (.int sh), .val (.int fi), .val (.int (0 : Int32)), .val (.int (3 : Int32)), .val (.ref b160), .unset] [(.int (0 : Int32)), (.ref b160)])) (fun _ kq => XS.iload X166.here hx rfl (hb hby at_92) rfl kq) ?_
      obtain ⟨T168, locs168, X168, e168, N168, st168⟩ := own_callP X166 hx hZ 0 hown (hw _ (List.mem_of_getElem? (i := 1) rfl)) (hw _ (List.mem_of_getElem? (i := 2) rfl)) (hw _ (List.mem_of_getElem? (i := 3) rfl)) (hw _ (List.mem_of_getElem? (i := 4) rfl)) (by decide) (rm1_0_3 l Z a0 hw [] b160 ((b0.toInt8.toInt32).toInt8.toInt32) ((b1.toInt8.toInt32).toInt8.toInt32) ((b2.toInt8.toInt32).toInt8.toInt32) h166 n0 V166) (by decide) (by decide) rfl rfl e166 N166 (by decide) (by decide) (g := (mkF m 94 #[.val (.int b0), .val (.int b1), .val (.int b2), .val (.int b3), .val (.int sh), .val (.int fi), .val (.int (0 : Int32)), .val (.int (3 : Int32)), .val (.ref b160), .unset] [(.int (0 : Int32)), (.ref b160)])) rfl (by rw [hml]; rfl) (argsL := [(.ref b160), (.int (0 : Int32))]) (rest := []) (lenOf pd1 rfl) rfl rfl (by show 2 * 0 + _ ≤ _; exact Nat.le_of_eq rfl) (hb hby at_94)
      refine own_st (T' := T168) (F' := (mkF m 97 #[.val (.int b0), .val (.int b1), .val (.int b2), .val (.int b3), .val (.int sh), .val (.int fi), .val (.int (0 : Int32)), .val (.int (3 : Int32)), .val (.ref b160), .unset] [(.int (sl3 ((b0.toInt8.toInt32).toInt8.toInt32) ((b1.toInt8.toInt32).toInt8.toInt32) ((b2.toInt8.toInt32).toInt8.toInt32)))])) (st168) ?_
      refine own_st (T' := T168) (F' := (mkF m 99 #[.val (.int b0), .val (.int b1), .val (.int b2), .val (.int b3), .val (.int sh), .val (.int fi), .val (.int (0 : Int32)), .val (.int (3 : Int32)), .val (.ref b160), .val (.int (sl3 ((b0.toInt8.toInt32).toInt8.toInt32) ((b1.toInt8.toInt32).toInt8.toInt32) ((b2.toInt8.toInt32).toInt8.toInt32)))] [])) (fun _ kq => XS.istore X168.here hx rfl (hb hby at_97) rfl (l' := #[.val (.int b0), .val (.int b1), .val (.int b2), .val (.int b3), .val (.int sh), .val (.int fi), .val (.int (0 : Int32)), .val (.int (3 : Int32)), .val (.ref b160), .val (.int (sl3 ((b0.toInt8.toInt32).toInt8.toInt32) ((b1.toInt8.toInt32).toInt8.toInt32) ((b2.toInt8.toInt32).toInt8.toInt32)))]) rfl kq) ?_
      refine own_st (T' := T168) (F' := (mkF m 101 #[.val (.int b0), .val (.int b1), .val (.int b2), .val (.int b3), .val (.int sh), .val (.int fi), .val (.int (0 : Int32)), .val (.int (3 : Int32)), .val (.ref b160), .val (.int (sl3 ((b0.toInt8.toInt32).toInt8.toInt32) ((b1.toInt8.toInt32).toInt8.toInt32) ((b2.toInt8.toInt32).toInt8.toInt32)))] [(.int (sl3 ((b0.toInt8.toInt32).toInt8.toInt32) ((b1.toInt8.toInt32).toInt8.toInt32) ((b2.toInt8.toInt32).toInt8.toInt32)))])) (fun _ kq => XS.iload X168.here hx rfl (hb hby at_99) rfl kq) ?_
      refine own_st (T' := T168) (F' := (mkF m 102 #[.val (.int b0), .val (.int b1), .val (.int b2), .val (.int b3), .val (.int sh), .val (.int fi), .val (.int (0 : Int32)), .val (.int (3 : Int32)), .val (.ref b160), .val (.int (sl3 ((b0.toInt8.toInt32).toInt8.toInt32) ((b1.toInt8.toInt32).toInt8.toInt32) ((b2.toInt8.toInt32).toInt8.toInt32)))] [(.int b0), (.int (sl3 ((b0.toInt8.toInt32).toInt8.toInt32) ((b1.toInt8.toInt32).toInt8.toInt32) ((b2.toInt8.toInt32).toInt8.toInt32)))])) (fun _ kq => XS.iloadN X168.here hx rfl (hb hby at_101) rfl kq) ?_
      refine own_st (T' := T168) (F' := (mkF m 105 #[.val (.int b0), .val (.int b1), .val (.int b2), .val (.int b3), .val (.int sh), .val (.int fi), .val (.int (0 : Int32)), .val (.int (3 : Int32)), .val (.ref b160), .val (.int (sl3 ((b0.toInt8.toInt32).toInt8.toInt32) ((b1.toInt8.toInt32).toInt8.toInt32) ((b2.toInt8.toInt32).toInt8.toInt32)))] [(.int (255 : Int32)), (.int b0), (.int (sl3 ((b0.toInt8.toInt32).toInt8.toInt32) ((b1.toInt8.toInt32).toInt8.toInt32) ((b2.toInt8.toInt32).toInt8.toInt32)))])) (fun _ kq => XS.sipush X168.here hx rfl (hb hby at_102) kq) ?_
      refine own_st (T' := T168) (F' := (mkF m 106 #[.val (.int b0), .val (.int b1), .val (.int b2), .val (.int b3), .val (.int sh), .val (.int fi), .val (.int (0 : Int32)), .val (.int (3 : Int32)), .val (.ref b160), .val (.int (sl3 ((b0.toInt8.toInt32).toInt8.toInt32) ((b1.toInt8.toInt32).toInt8.toInt32) ((b2.toInt8.toInt32).toInt8.toInt32)))] [(.int (b0 &&& (255 : Int32))), (.int (sl3 ((b0.toInt8.toInt32).toInt8.toInt32) ((b1.toInt8.toInt32).toInt8.toInt32) ((b2.toInt8.toInt32).toInt8.toInt32)))])) (fun _ kq => XS.iand X168.here hx rfl (hb hby at_105) rfl kq) ?_
      refine own_st (T' := T168) (F' := (mkF m 107 #[.val (.int b0), .val (.int b1), .val (.int b2), .val (.int b3), .val (.int sh), .val (.int fi), .val (.int (0 : Int32)), .val (.int (3 : Int32)), .val (.ref b160), .val (.int (sl3 ((b0.toInt8.toInt32).toInt8.toInt32) ((b1.toInt8.toInt32).toInt8.toInt32) ((b2.toInt8.toInt32).toInt8.toInt32)))] [(.int b1), (.int (b0 &&& (255 : Int32))), (.int (sl3 ((b0.toInt8.toInt32).toInt8.toInt32) ((b1.toInt8.toInt32).toInt8.toInt32) ((b2.toInt8.toInt32).toInt8.toInt32)))])) (fun _ kq => XS.iloadN X168.here hx rfl (hb hby at_106) rfl kq) ?_
      refine own_st (T' := T168) (F' := (mkF m 110 #[.val (.int b0), .val (.int b1), .val (.int b2), .val (.int b3), .val (.int sh), .val (.int fi), .val (.int (0 : Int32)), .val (.int (3 : Int32)), .val (.ref b160), .val (.int (sl3 ((b0.toInt8.toInt32).toInt8.toInt32) ((b1.toInt8.toInt32).toInt8.toInt32) ((b2.toInt8.toInt32).toInt8.toInt32)))] [(.int (255 : Int32)), (.int b1), (.int (b0 &&& (255 : Int32))), (.int (sl3 ((b0.toInt8.toInt32).toInt8.toInt32) ((b1.toInt8.toInt32).toInt8.toInt32) ((b2.toInt8.toInt32).toInt8.toInt32)))])) (fun _ kq => XS.sipush X168.here hx rfl (hb hby at_107) kq) ?_
      refine own_st (T' := T168) (F' := (mkF m 111 #[.val (.int b0), .val (.int b1), .val (.int b2), .val (.int b3), .val (.int sh), .val (.int fi), .val (.int (0 : Int32)), .val (.int (3 : Int32)), .val (.ref b160), .val (.int (sl3 ((b0.toInt8.toInt32).toInt8.toInt32) ((b1.toInt8.toInt32).toInt8.toInt32) ((b2.toInt8.toInt32).toInt8.toInt32)))] [(.int (b1 &&& (255 : Int32))), (.int (b0 &&& (255 : Int32))), (.int (sl3 ((b0.toInt8.toInt32).toInt8.toInt32) ((b1.toInt8.toInt32).toInt8.toInt32) ((b2.toInt8.toInt32).toInt8.toInt32)))])) (fun _ kq => XS.iand X168.here hx rfl (hb hby at_110) rfl kq) ?_
      refine own_st (T' := T168) (F' := (mkF m 112 #[.val (.int b0), .val (.int b1), .val (.int b2), .val (.int b3), .val (.int sh), .val (.int fi), .val (.int (0 : Int32)), .val (.int (3 : Int32)), .val (.ref b160), .val (.int (sl3 ((b0.toInt8.toInt32).toInt8.toInt32) ((b1.toInt8.toInt32).toInt8.toInt32) ((b2.toInt8.toInt32).toInt8.toInt32)))] [(.int b2), (.int (b1 &&& (255 : Int32))), (.int (b0 &&& (255 : Int32))), (.int (sl3 ((b0.toInt8.toInt32).toInt8.toInt32) ((b1.toInt8.toInt32).toInt8.toInt32) ((b2.toInt8.toInt32).toInt8.toInt32)))])) (fun _ kq => XS.iloadN X168.here hx rfl (hb hby at_111) rfl kq) ?_
      refine own_st (T' := T168) (F' := (mkF m 115 #[.val (.int b0), .val (.int b1), .val (.int b2), .val (.int b3), .val (.int sh), .val (.int fi), .val (.int (0 : Int32)), .val (.int (3 : Int32)), .val (.ref b160), .val (.int (sl3 ((b0.toInt8.toInt32).toInt8.toInt32) ((b1.toInt8.toInt32).toInt8.toInt32) ((b2.toInt8.toInt32).toInt8.toInt32)))] [(.int (255 : Int32)), (.int b2), (.int (b1 &&& (255 : Int32))), (.int (b0 &&& (255 : Int32))), (.int (sl3 ((b0.toInt8.toInt32).toInt8.toInt32) ((b1.toInt8.toInt32).toInt8.toInt32) ((b2.toInt8.toInt32).toInt8.toInt32)))])) (fun _ kq => XS.sipush X168.here hx rfl (hb hby at_112) kq) ?_
      refine own_st (T' := T168) (F' := (mkF m 116 #[.val (.int b0), .val (.int b1), .val (.int b2), .val (.int b3), .val (.int sh), .val (.int fi), .val (.int (0 : Int32)), .val (.int (3 : Int32)), .val (.ref b160), .val (.int (sl3 ((b0.toInt8.toInt32).toInt8.toInt32) ((b1.toInt8.toInt32).toInt8.toInt32) ((b2.toInt8.toInt32).toInt8.toInt32)))] [(.int (b2 &&& (255 : Int32))), (.int (b1 &&& (255 : Int32))), (.int (b0 &&& (255 : Int32))), (.int (sl3 ((b0.toInt8.toInt32).toInt8.toInt32) ((b1.toInt8.toInt32).toInt8.toInt32) ((b2.toInt8.toInt32).toInt8.toInt32)))])) (fun _ kq => XS.iand X168.here hx rfl (hb hby at_115) rfl kq) ?_
      refine own_st (T' := T168) (F' := (mkF m 117 #[.val (.int b0), .val (.int b1), .val (.int b2), .val (.int b3), .val (.int sh), .val (.int fi), .val (.int (0 : Int32)), .val (.int (3 : Int32)), .val (.ref b160), .val (.int (sl3 ((b0.toInt8.toInt32).toInt8.toInt32) ((b1.toInt8.toInt32).toInt8.toInt32) ((b2.toInt8.toInt32).toInt8.toInt32)))] [(.int b3), (.int (b2 &&& (255 : Int32))), (.int (b1 &&& (255 : Int32))), (.int (b0 &&& (255 : Int32))), (.int (sl3 ((b0.toInt8.toInt32).toInt8.toInt32) ((b1.toInt8.toInt32).toInt8.toInt32) ((b2.toInt8.toInt32).toInt8.toInt32)))])) (fun _ kq => XS.iloadN X168.here hx rfl (hb hby at_116) rfl kq) ?_
      refine own_st (T' := T168) (F' := (mkF m 120 #[.val (.int b0), .val (.int b1), .val (.int b2), .val (.int b3), .val (.int sh), .val (.int fi), .val (.int (0 : Int32)), .val (.int (3 : Int32)), .val (.ref b160), .val (.int (sl3 ((b0.toInt8.toInt32).toInt8.toInt32) ((b1.toInt8.toInt32).toInt8.toInt32) ((b2.toInt8.toInt32).toInt8.toInt32)))] [(.int (255 : Int32)), (.int b3), (.int (b2 &&& (255 : Int32))), (.int (b1 &&& (255 : Int32))), (.int (b0 &&& (255 : Int32))), (.int (sl3 ((b0.toInt8.toInt32).toInt8.toInt32) ((b1.toInt8.toInt32).toInt8.toInt32) ((b2.toInt8.toInt32).toInt8.toInt32)))])) (fun _ kq => XS.sipush X168.here hx rfl (hb hby at_117) kq) ?_
      refine own_st (T' := T168) (F' := (mkF m 121 #[.val (.int b0), .val (.int b1), .val (.int b2), .val (.int b3), .val (.int sh), .val (.int fi), .val (.int (0 : Int32)), .val (.int (3 : Int32)), .val (.ref b160), .val (.int (sl3 ((b0.toInt8.toInt32).toInt8.toInt32) ((b1.toInt8.toInt32).toInt8.toInt32) ((b2.toInt8.toInt32).toInt8.toInt32)))] [(.int (b3 &&& (255 : Int32))), (.int (b2 &&& (255 : Int32))), (.int (b1 &&& (255 : Int32))), (.int (b0 &&& (255 : Int32))), (.int (sl3 ((b0.toInt8.toInt32).toInt8.toInt32) ((b1.toInt8.toInt32).toInt8.toInt32) ((b2.toInt8.toInt32).toInt8.toInt32)))])) (fun _ kq => XS.iand X168.here hx rfl (hb hby at_120) rfl kq) ?_
      refine own_st (T' := T168) (F' := (mkF m 123 #[.val (.int b0), .val (.int b1), .val (.int b2), .val (.int b3), .val (.int sh), .val (.int fi), .val (.int (0 : Int32)), .val (.int (3 : Int32)), .val (.ref b160), .val (.int (sl3 ((b0.toInt8.toInt32).toInt8.toInt32) ((b1.toInt8.toInt32).toInt8.toInt32) ((b2.toInt8.toInt32).toInt8.toInt32)))] [(.int (3 : Int32)), (.int (b3 &&& (255 : Int32))), (.int (b2 &&& (255 : Int32))), (.int (b1 &&& (255 : Int32))), (.int (b0 &&& (255 : Int32))), (.int (sl3 ((b0.toInt8.toInt32).toInt8.toInt32) ((b1.toInt8.toInt32).toInt8.toInt32) ((b2.toInt8.toInt32).toInt8.toInt32)))])) (fun _ kq => XS.iload X168.here hx rfl (hb hby at_121) rfl kq) ?_
      obtain ⟨T169, locs169, X169, e169, N169, st169⟩ := own_callP X168 hx hZ 1 hown (hw _ (List.mem_of_getElem? (i := 5) rfl)) (hw _ (List.mem_of_getElem? (i := 6) rfl)) (hw _ (List.mem_of_getElem? (i := 7) rfl)) (hw _ (List.mem_of_getElem? (i := 8) rfl)) (by decide) (rm2 l Z a0 hw [] (b0 &&& (255 : Int32)) (b1 &&& (255 : Int32)) (b2 &&& (255 : Int32)) (b3 &&& (255 : Int32)) (3 : Int32) h166 n0) (by decide) (by decide) rfl rfl e168 N168 (by decide) (by decide) (g := (mkF m 123 #[.val (.int b0), .val (.int b1), .val (.int b2), .val (.int b3), .val (.int sh), .val (.int fi), .val (.int (0 : Int32)), .val (.int (3 : Int32)), .val (.ref b160), .val (.int (sl3 ((b0.toInt8.toInt32).toInt8.toInt32) ((b1.toInt8.toInt32).toInt8.toInt32) ((b2.toInt8.toInt32).toInt8.toInt32)))] [(.int (3 : Int32)), (.int (b3 &&& (255 : Int32))), (.int (b2 &&& (255 : Int32))), (.int (b1 &&& (255 : Int32))), (.int (b0 &&& (255 : Int32))), (.int (sl3 ((b0.toInt8.toInt32).toInt8.toInt32) ((b1.toInt8.toInt32).toInt8.toInt32) ((b2.toInt8.toInt32).toInt8.toInt32)))])) rfl (by rw [hml]; rfl) (argsL := [(.int (b0 &&& (255 : Int32))), (.int (b1 &&& (255 : Int32))), (.int (b2 &&& (255 : Int32))), (.int (b3 &&& (255 : Int32))), (.int (3 : Int32))]) (rest := [(.int (sl3 ((b0.toInt8.toInt32).toInt8.toInt32) ((b1.toInt8.toInt32).toInt8.toInt32) ((b2.toInt8.toInt32).toInt8.toInt32)))]) (lenOf pd2 rfl) rfl rfl (by show 2 * 0 + _ ≤ _; exact Nat.le_of_eq rfl) (hb hby at_123)
      refine own_st (T' := T169) (F' := (mkF m 126 #[.val (.int b0), .val (.int b1), .val (.int b2), .val (.int b3), .val (.int sh), .val (.int fi), .val (.int (0 : Int32)), .val (.int (3 : Int32)), .val (.ref b160), .val (.int (sl3 ((b0.toInt8.toInt32).toInt8.toInt32) ((b1.toInt8.toInt32).toInt8.toInt32) ((b2.toInt8.toInt32).toInt8.toInt32)))] [(.int (f2 (b0 &&& (255 : Int32)) (b1 &&& (255 : Int32)) (b2 &&& (255 : Int32)) (b3 &&& (255 : Int32)) (3 : Int32))), (.int (sl3 ((b0.toInt8.toInt32).toInt8.toInt32) ((b1.toInt8.toInt32).toInt8.toInt32) ((b2.toInt8.toInt32).toInt8.toInt32)))])) (st169) ?_
      refine own_st (T' := T169) (F' := (mkF m 129 #[.val (.int b0), .val (.int b1), .val (.int b2), .val (.int b3), .val (.int sh), .val (.int fi), .val (.int (0 : Int32)), .val (.int (3 : Int32)), .val (.ref b160), .val (.int (sl3 ((b0.toInt8.toInt32).toInt8.toInt32) ((b1.toInt8.toInt32).toInt8.toInt32) ((b2.toInt8.toInt32).toInt8.toInt32)))] [])) (fun _ kq => XS.icmpNo X169.here hx rfl (hb hby at_126) rfl (teq (own_law3 b0 b1 b2 b3)).2 kq) ?_
      refine own_st (T' := T169) (F' := (mkF m 130 #[.val (.int b0), .val (.int b1), .val (.int b2), .val (.int b3), .val (.int sh), .val (.int fi), .val (.int (0 : Int32)), .val (.int (3 : Int32)), .val (.ref b160), .val (.int (sl3 ((b0.toInt8.toInt32).toInt8.toInt32) ((b1.toInt8.toInt32).toInt8.toInt32) ((b2.toInt8.toInt32).toInt8.toInt32)))] [(.int (1 : Int32))])) (fun _ kq => XS.iconst X169.here hx rfl (hb hby at_129) kq) ?_
      refine own_st (T' := T169) (F' := (mkF m 134 #[.val (.int b0), .val (.int b1), .val (.int b2), .val (.int b3), .val (.int sh), .val (.int fi), .val (.int (0 : Int32)), .val (.int (3 : Int32)), .val (.ref b160), .val (.int (sl3 ((b0.toInt8.toInt32).toInt8.toInt32) ((b1.toInt8.toInt32).toInt8.toInt32) ((b2.toInt8.toInt32).toInt8.toInt32)))] [(.int (1 : Int32))])) (fun _ kq => XS.goto X169.here hx rfl (pc0 := 130) (pc' := 134) rfl (hb hby at_130) (by decide) (by decide) kq) ?_
      exact own_retN X169 hx hlk hret (by simp) (hb hby at_134) (by decide) (by decide) ⟨rfl, N169⟩
    ·
      refine own_st (T' := T0) (F' := (mkF m 16 #[.val (.int b0), .val (.int b1), .val (.int b2), .val (.int b3), .val (.int sh), .val (.int fi), .val (.int (0 : Int32)), .val (.int (4 : Int32)), .unset, .unset] [])) (fun _ kq => XS.istore X0.here hx rfl (hb hby at_14) rfl (l' := #[.val (.int b0), .val (.int b1), .val (.int b2), .val (.int b3), .val (.int sh), .val (.int fi), .val (.int (0 : Int32)), .val (.int (4 : Int32)), .unset, .unset]) rfl kq) ?_
      refine own_st (T' := T0) (F' := (mkF m 18 #[.val (.int b0), .val (.int b1), .val (.int b2), .val (.int b3), .val (.int sh), .val (.int fi), .val (.int (0 : Int32)), .val (.int (4 : Int32)), .unset, .unset] [(.int (0 : Int32))])) (fun _ kq => XS.iload X0.here hx rfl (hb hby at_16) rfl kq) ?_
      refine own_st (T' := T0) (F' := (mkF m 20 #[.val (.int b0), .val (.int b1), .val (.int b2), .val (.int b3), .val (.int sh), .val (.int fi), .val (.int (0 : Int32)), .val (.int (4 : Int32)), .unset, .unset] [(.int (4 : Int32)), (.int (0 : Int32))])) (fun _ kq => XS.iload X0.here hx rfl (hb hby at_18) rfl kq) ?_
      refine own_st (T' := T0) (F' := (mkF m 21 #[.val (.int b0), .val (.int b1), .val (.int b2), .val (.int b3), .val (.int sh), .val (.int fi), .val (.int (0 : Int32)), .val (.int (4 : Int32)), .unset, .unset] [(.int (4 : Int32))])) (fun _ kq => XS.iadd X0.here hx rfl (hb hby at_20) rfl kq) ?_
      obtain ⟨T170, h170, b170, X170, e170, E170, g170, gb170, Z170, V170, st170⟩ := own_newI X0 hx hZ (aty := .byte) (hw _ (List.mem_of_getElem? (i := 0) rfl)) e0 Z0 (g := (mkF m 21 #[.val (.int b0), .val (.int b1), .val (.int b2), .val (.int b3), .val (.int sh), .val (.int fi), .val (.int (0 : Int32)), .val (.int (4 : Int32)), .unset, .unset] [(.int (4 : Int32))])) rfl rfl (hb hby at_21) rfl (by decide) 4 4 rfl (by decide) (by decide) (by decide) (by decide)
      refine own_st (T' := T170) (F' := (mkF m 23 #[.val (.int b0), .val (.int b1), .val (.int b2), .val (.int b3), .val (.int sh), .val (.int fi), .val (.int (0 : Int32)), .val (.int (4 : Int32)), .unset, .unset] [(.ref b170)])) (st170) ?_
      refine own_st (T' := T170) (F' := (mkF m 25 #[.val (.int b0), .val (.int b1), .val (.int b2), .val (.int b3), .val (.int sh), .val (.int fi), .val (.int (0 : Int32)), .val (.int (4 : Int32)), .val (.ref b170), .unset] [])) (fun _ kq => XS.astore X170.here hx rfl (hb hby at_23) rfl rfl (l' := #[.val (.int b0), .val (.int b1), .val (.int b2), .val (.int b3), .val (.int sh), .val (.int fi), .val (.int (0 : Int32)), .val (.int (4 : Int32)), .val (.ref b170), .unset]) rfl kq) ?_
      refine own_st (T' := T170) (F' := (mkF m 27 #[.val (.int b0), .val (.int b1), .val (.int b2), .val (.int b3), .val (.int sh), .val (.int fi), .val (.int (0 : Int32)), .val (.int (4 : Int32)), .val (.ref b170), .unset] [(.int (0 : Int32))])) (fun _ kq => XS.iload X170.here hx rfl (hb hby at_25) rfl kq) ?_
      refine own_st (T' := T170) (F' := (mkF m 28 #[.val (.int b0), .val (.int b1), .val (.int b2), .val (.int b3), .val (.int sh), .val (.int fi), .val (.int (0 : Int32)), .val (.int (4 : Int32)), .val (.ref b170), .unset] [(.int (1 : Int32)), (.int (0 : Int32))])) (fun _ kq => XS.iconst X170.here hx rfl (hb hby at_27) kq) ?_
      refine own_st (T' := T170) (F' := (mkF m 38 #[.val (.int b0), .val (.int b1), .val (.int b2), .val (.int b3), .val (.int sh), .val (.int fi), .val (.int (0 : Int32)), .val (.int (4 : Int32)), .val (.ref b170), .unset] [])) (fun _ kq => XS.icmpYes X170.here hx rfl (pc0 := 28) (pc' := 38) rfl (hb hby at_28) rfl (feq (by decide : ¬ ((0 : Int32) = (1 : Int32)))).2 (by decide) (by decide) kq) ?_
      refine own_st (T' := T170) (F' := (mkF m 40 #[.val (.int b0), .val (.int b1), .val (.int b2), .val (.int b3), .val (.int sh), .val (.int fi), .val (.int (0 : Int32)), .val (.int (4 : Int32)), .val (.ref b170), .unset] [(.ref b170)])) (fun _ kq => XS.aload X170.here hx rfl (hb hby at_38) rfl rfl kq) ?_
      refine own_st (T' := T170) (F' := (mkF m 42 #[.val (.int b0), .val (.int b1), .val (.int b2), .val (.int b3), .val (.int sh), .val (.int fi), .val (.int (0 : Int32)), .val (.int (4 : Int32)), .val (.ref b170), .unset] [(.int (0 : Int32)), (.ref b170)])) (fun _ kq => XS.iload X170.here hx rfl (hb hby at_40) rfl kq) ?_
      refine own_st (T' := T170) (F' := (mkF m 43 #[.val (.int b0), .val (.int b1), .val (.int b2), .val (.int b3), .val (.int sh), .val (.int fi), .val (.int (0 : Int32)), .val (.int (4 : Int32)), .val (.ref b170), .unset] [(.int b0), (.int (0 : Int32)), (.ref b170)])) (fun _ kq => XS.iloadN X170.here hx rfl (hb hby at_42) rfl kq) ?_
      refine own_st (T' := T170) (F' := (mkF m 44 #[.val (.int b0), .val (.int b1), .val (.int b2), .val (.int b3), .val (.int sh), .val (.int fi), .val (.int (0 : Int32)), .val (.int (4 : Int32)), .val (.ref b170), .unset] [(.int (b0.toInt8.toInt32)), (.int (0 : Int32)), (.ref b170)])) (fun _ kq => XS.i2b X170.here hx rfl (hb hby at_43) rfl kq) ?_
      obtain ⟨T172, h172, locs172, X172, e172, N172, W172, V172, st172⟩ := own_stB X170 hx hZ e170 N0 (ys := [((b0.toInt8.toInt32).toInt8.toInt32), (0 : Int32), (0 : Int32), (0 : Int32)]) V170 gb170 (g := (mkF m 44 #[.val (.int b0), .val (.int b1), .val (.int b2), .val (.int b3), .val (.int sh), .val (.int fi), .val (.int (0 : Int32)), .val (.int (4 : Int32)), .val (.ref b170), .unset] [(.int (b0.toInt8.toInt32)), (.int (0 : Int32)), (.ref b170)])) rfl rfl (hb hby at_44) (by decide) (Nat.le_of_ble_eq_true rfl) rfl
      have Z172 : n0 ≤ h172.size := by rw [W172.size]; exact Z170
      refine own_st (T' := T172) (F' := (mkF m 45 #[.val (.int b0), .val (.int b1), .val (.int b2), .val (.int b3), .val (.int sh), .val (.int fi), .val (.int (0 : Int32)), .val (.int (4 : Int32)), .val (.ref b170), .unset] [])) (st172) ?_
      refine own_st (T' := T172) (F' := (mkF m 47 #[.val (.int b0), .val (.int b1), .val (.int b2), .val (.int b3), .val (.int sh), .val (.int fi), .val (.int (0 : Int32)), .val (.int (4 : Int32)), .val (.ref b170), .unset] [(.int (4 : Int32))])) (fun _ kq => XS.iload X172.here hx rfl (hb hby at_45) rfl kq) ?_
      refine own_st (T' := T172) (F' := (mkF m 48 #[.val (.int b0), .val (.int b1), .val (.int b2), .val (.int b3), .val (.int sh), .val (.int fi), .val (.int (0 : Int32)), .val (.int (4 : Int32)), .val (.ref b170), .unset] [(.int (1 : Int32)), (.int (4 : Int32))])) (fun _ kq => XS.iconst X172.here hx rfl (hb hby at_47) kq) ?_
      refine own_st (T' := T172) (F' := (mkF m 51 #[.val (.int b0), .val (.int b1), .val (.int b2), .val (.int b3), .val (.int sh), .val (.int fi), .val (.int (0 : Int32)), .val (.int (4 : Int32)), .val (.ref b170), .unset] [])) (fun _ kq => XS.icmpNo X172.here hx rfl (hb hby at_48) rfl (tlt (by decide : (1 : Int32) < (4 : Int32))).2.2.2 kq) ?_
      refine own_st (T' := T172) (F' := (mkF m 53 #[.val (.int b0), .val (.int b1), .val (.int b2), .val (.int b3), .val (.int sh), .val (.int fi), .val (.int (0 : Int32)), .val (.int (4 : Int32)), .val (.ref b170), .unset] [(.ref b170)])) (fun _ kq => XS.aload X172.here hx rfl (hb hby at_51) rfl rfl kq) ?_
      refine own_st (T' := T172) (F' := (mkF m 55 #[.val (.int b0), .val (.int b1), .val (.int b2), .val (.int b3), .val (.int sh), .val (.int fi), .val (.int (0 : Int32)), .val (.int (4 : Int32)), .val (.ref b170), .unset] [(.int (0 : Int32)), (.ref b170)])) (fun _ kq => XS.iload X172.here hx rfl (hb hby at_53) rfl kq) ?_
      refine own_st (T' := T172) (F' := (mkF m 56 #[.val (.int b0), .val (.int b1), .val (.int b2), .val (.int b3), .val (.int sh), .val (.int fi), .val (.int (0 : Int32)), .val (.int (4 : Int32)), .val (.ref b170), .unset] [(.int (1 : Int32)), (.int (0 : Int32)), (.ref b170)])) (fun _ kq => XS.iconst X172.here hx rfl (hb hby at_55) kq) ?_
      refine own_st (T' := T172) (F' := (mkF m 57 #[.val (.int b0), .val (.int b1), .val (.int b2), .val (.int b3), .val (.int sh), .val (.int fi), .val (.int (0 : Int32)), .val (.int (4 : Int32)), .val (.ref b170), .unset] [(.int (1 : Int32)), (.ref b170)])) (fun _ kq => XS.iadd X172.here hx rfl (hb hby at_56) rfl kq) ?_
      refine own_st (T' := T172) (F' := (mkF m 58 #[.val (.int b0), .val (.int b1), .val (.int b2), .val (.int b3), .val (.int sh), .val (.int fi), .val (.int (0 : Int32)), .val (.int (4 : Int32)), .val (.ref b170), .unset] [(.int b1), (.int (1 : Int32)), (.ref b170)])) (fun _ kq => XS.iloadN X172.here hx rfl (hb hby at_57) rfl kq) ?_
      refine own_st (T' := T172) (F' := (mkF m 59 #[.val (.int b0), .val (.int b1), .val (.int b2), .val (.int b3), .val (.int sh), .val (.int fi), .val (.int (0 : Int32)), .val (.int (4 : Int32)), .val (.ref b170), .unset] [(.int (b1.toInt8.toInt32)), (.int (1 : Int32)), (.ref b170)])) (fun _ kq => XS.i2b X172.here hx rfl (hb hby at_58) rfl kq) ?_
      obtain ⟨T174, h174, locs174, X174, e174, N174, W174, V174, st174⟩ := own_stB X172 hx hZ e172 N172 (ys := [((b0.toInt8.toInt32).toInt8.toInt32), ((b1.toInt8.toInt32).toInt8.toInt32), (0 : Int32), (0 : Int32)]) V172 gb170 (g := (mkF m 59 #[.val (.int b0), .val (.int b1), .val (.int b2), .val (.int b3), .val (.int sh), .val (.int fi), .val (.int (0 : Int32)), .val (.int (4 : Int32)), .val (.ref b170), .unset] [(.int (b1.toInt8.toInt32)), (.int (1 : Int32)), (.ref b170)])) rfl rfl (hb hby at_59) (by decide) (Nat.le_of_ble_eq_true rfl) rfl
      have Z174 : n0 ≤ h174.size := by rw [W174.size]; exact Z172
      refine own_st (T' := T174) (F' := (mkF m 60 #[.val (.int b0), .val (.int b1), .val (.int b2), .val (.int b3), .val (.int sh), .val (.int fi), .val (.int (0 : Int32)), .val (.int (4 : Int32)), .val (.ref b170), .unset] [])) (st174) ?_
      refine own_st (T' := T174) (F' := (mkF m 62 #[.val (.int b0), .val (.int b1), .val (.int b2), .val (.int b3), .val (.int sh), .val (.int fi), .val (.int (0 : Int32)), .val (.int (4 : Int32)), .val (.ref b170), .unset] [(.int (4 : Int32))])) (fun _ kq => XS.iload X174.here hx rfl (hb hby at_60) rfl kq) ?_
      refine own_st (T' := T174) (F' := (mkF m 63 #[.val (.int b0), .val (.int b1), .val (.int b2), .val (.int b3), .val (.int sh), .val (.int fi), .val (.int (0 : Int32)), .val (.int (4 : Int32)), .val (.ref b170), .unset] [(.int (2 : Int32)), (.int (4 : Int32))])) (fun _ kq => XS.iconst X174.here hx rfl (hb hby at_62) kq) ?_
      refine own_st (T' := T174) (F' := (mkF m 66 #[.val (.int b0), .val (.int b1), .val (.int b2), .val (.int b3), .val (.int sh), .val (.int fi), .val (.int (0 : Int32)), .val (.int (4 : Int32)), .val (.ref b170), .unset] [])) (fun _ kq => XS.icmpNo X174.here hx rfl (hb hby at_63) rfl (tlt (by decide : (2 : Int32) < (4 : Int32))).2.2.2 kq) ?_
      refine own_st (T' := T174) (F' := (mkF m 68 #[.val (.int b0), .val (.int b1), .val (.int b2), .val (.int b3), .val (.int sh), .val (.int fi), .val (.int (0 : Int32)), .val (.int (4 : Int32)), .val (.ref b170), .unset] [(.ref b170)])) (fun _ kq => XS.aload X174.here hx rfl (hb hby at_66) rfl rfl kq) ?_
      refine own_st (T' := T174) (F' := (mkF m 70 #[.val (.int b0), .val (.int b1), .val (.int b2), .val (.int b3), .val (.int sh), .val (.int fi), .val (.int (0 : Int32)), .val (.int (4 : Int32)), .val (.ref b170), .unset] [(.int (0 : Int32)), (.ref b170)])) (fun _ kq => XS.iload X174.here hx rfl (hb hby at_68) rfl kq) ?_
      refine own_st (T' := T174) (F' := (mkF m 71 #[.val (.int b0), .val (.int b1), .val (.int b2), .val (.int b3), .val (.int sh), .val (.int fi), .val (.int (0 : Int32)), .val (.int (4 : Int32)), .val (.ref b170), .unset] [(.int (2 : Int32)), (.int (0 : Int32)), (.ref b170)])) (fun _ kq => XS.iconst X174.here hx rfl (hb hby at_70) kq) ?_
      refine own_st (T' := T174) (F' := (mkF m 72 #[.val (.int b0), .val (.int b1), .val (.int b2), .val (.int b3), .val (.int sh), .val (.int fi), .val (.int (0 : Int32)), .val (.int (4 : Int32)), .val (.ref b170), .unset] [(.int (2 : Int32)), (.ref b170)])) (fun _ kq => XS.iadd X174.here hx rfl (hb hby at_71) rfl kq) ?_
      refine own_st (T' := T174) (F' := (mkF m 73 #[.val (.int b0), .val (.int b1), .val (.int b2), .val (.int b3), .val (.int sh), .val (.int fi), .val (.int (0 : Int32)), .val (.int (4 : Int32)), .val (.ref b170), .unset] [(.int b2), (.int (2 : Int32)), (.ref b170)])) (fun _ kq => XS.iloadN X174.here hx rfl (hb hby at_72) rfl kq) ?_
      refine own_st (T' := T174) (F' := (mkF m 74 #[.val (.int b0), .val (.int b1), .val (.int b2), .val (.int b3), .val (.int sh), .val (.int fi), .val (.int (0 : Int32)), .val (.int (4 : Int32)), .val (.ref b170), .unset] [(.int (b2.toInt8.toInt32)), (.int (2 : Int32)), (.ref b170)])) (fun _ kq => XS.i2b X174.here hx rfl (hb hby at_73) rfl kq) ?_
      obtain ⟨T176, h176, locs176, X176, e176, N176, W176, V176, st176⟩ := own_stB X174 hx hZ e174 N174 (ys := [((b0.toInt8.toInt32).toInt8.toInt32), ((b1.toInt8.toInt32).toInt8.toInt32), ((b2.toInt8.toInt32).toInt8.toInt32), (0 : Int32)]) V174 gb170 (g := (mkF m 74 #[.val (.int b0), .val (.int b1), .val (.int b2), .val (.int b3), .val (.int sh), .val (.int fi), .val (.int (0 : Int32)), .val (.int (4 : Int32)), .val (.ref b170), .unset] [(.int (b2.toInt8.toInt32)), (.int (2 : Int32)), (.ref b170)])) rfl rfl (hb hby at_74) (by decide) (Nat.le_of_ble_eq_true rfl) rfl
      have Z176 : n0 ≤ h176.size := by rw [W176.size]; exact Z174
      refine own_st (T' := T176) (F' := (mkF m 75 #[.val (.int b0), .val (.int b1), .val (.int b2), .val (.int b3), .val (.int sh), .val (.int fi), .val (.int (0 : Int32)), .val (.int (4 : Int32)), .val (.ref b170), .unset] [])) (st176) ?_
      refine own_st (T' := T176) (F' := (mkF m 77 #[.val (.int b0), .val (.int b1), .val (.int b2), .val (.int b3), .val (.int sh), .val (.int fi), .val (.int (0 : Int32)), .val (.int (4 : Int32)), .val (.ref b170), .unset] [(.int (4 : Int32))])) (fun _ kq => XS.iload X176.here hx rfl (hb hby at_75) rfl kq) ?_
      refine own_st (T' := T176) (F' := (mkF m 78 #[.val (.int b0), .val (.int b1), .val (.int b2), .val (.int b3), .val (.int sh), .val (.int fi), .val (.int (0 : Int32)), .val (.int (4 : Int32)), .val (.ref b170), .unset] [(.int (3 : Int32)), (.int (4 : Int32))])) (fun _ kq => XS.iconst X176.here hx rfl (hb hby at_77) kq) ?_
      refine own_st (T' := T176) (F' := (mkF m 81 #[.val (.int b0), .val (.int b1), .val (.int b2), .val (.int b3), .val (.int sh), .val (.int fi), .val (.int (0 : Int32)), .val (.int (4 : Int32)), .val (.ref b170), .unset] [])) (fun _ kq => XS.icmpNo X176.here hx rfl (hb hby at_78) rfl (tlt (by decide : (3 : Int32) < (4 : Int32))).2.2.2 kq) ?_
      refine own_st (T' := T176) (F' := (mkF m 83 #[.val (.int b0), .val (.int b1), .val (.int b2), .val (.int b3), .val (.int sh), .val (.int fi), .val (.int (0 : Int32)), .val (.int (4 : Int32)), .val (.ref b170), .unset] [(.ref b170)])) (fun _ kq => XS.aload X176.here hx rfl (hb hby at_81) rfl rfl kq) ?_
      refine own_st (T' := T176) (F' := (mkF m 85 #[.val (.int b0), .val (.int b1), .val (.int b2), .val (.int b3), .val (.int sh), .val (.int fi), .val (.int (0 : Int32)), .val (.int (4 : Int32)), .val (.ref b170), .unset] [(.int (0 : Int32)), (.ref b170)])) (fun _ kq => XS.iload X176.here hx rfl (hb hby at_83) rfl kq) ?_
      refine own_st (T' := T176) (F' := (mkF m 86 #[.val (.int b0), .val (.int b1), .val (.int b2), .val (.int b3), .val (.int sh), .val (.int fi), .val (.int (0 : Int32)), .val (.int (4 : Int32)), .val (.ref b170), .unset] [(.int (3 : Int32)), (.int (0 : Int32)), (.ref b170)])) (fun _ kq => XS.iconst X176.here hx rfl (hb hby at_85) kq) ?_
      refine own_st (T' := T176) (F' := (mkF m 87 #[.val (.int b0), .val (.int b1), .val (.int b2), .val (.int b3), .val (.int sh), .val (.int fi), .val (.int (0 : Int32)), .val (.int (4 : Int32)), .val (.ref b170), .unset] [(.int (3 : Int32)), (.ref b170)])) (fun _ kq => XS.iadd X176.here hx rfl (hb hby at_86) rfl kq) ?_
      refine own_st (T' := T176) (F' := (mkF m 88 #[.val (.int b0), .val (.int b1), .val (.int b2), .val (.int b3), .val (.int sh), .val (.int fi), .val (.int (0 : Int32)), .val (.int (4 : Int32)), .val (.ref b170), .unset] [(.int b3), (.int (3 : Int32)), (.ref b170)])) (fun _ kq => XS.iloadN X176.here hx rfl (hb hby at_87) rfl kq) ?_
      refine own_st (T' := T176) (F' := (mkF m 89 #[.val (.int b0), .val (.int b1), .val (.int b2), .val (.int b3), .val (.int sh), .val (.int fi), .val (.int (0 : Int32)), .val (.int (4 : Int32)), .val (.ref b170), .unset] [(.int (b3.toInt8.toInt32)), (.int (3 : Int32)), (.ref b170)])) (fun _ kq => XS.i2b X176.here hx rfl (hb hby at_88) rfl kq) ?_
      obtain ⟨T178, h178, locs178, X178, e178, N178, W178, V178, st178⟩ := own_stB X176 hx hZ e176 N176 (ys := [((b0.toInt8.toInt32).toInt8.toInt32), ((b1.toInt8.toInt32).toInt8.toInt32), ((b2.toInt8.toInt32).toInt8.toInt32), ((b3.toInt8.toInt32).toInt8.toInt32)]) V176 gb170 (g := (mkF m 89 #[.val (.int b0), .val (.int b1), .val (.int b2), .val (.int b3), .val (.int sh), .val (.int fi), .val (.int (0 : Int32)), .val (.int (4 : Int32)), .val (.ref b170), .unset] [(.int (b3.toInt8.toInt32)), (.int (3 : Int32)), (.ref b170)])) rfl rfl (hb hby at_89) (by decide) (Nat.le_of_ble_eq_true rfl) rfl
      have Z178 : n0 ≤ h178.size := by rw [W178.size]; exact Z176
      refine own_st (T' := T178) (F' := (mkF m 90 #[.val (.int b0), .val (.int b1), .val (.int b2), .val (.int b3), .val (.int sh), .val (.int fi), .val (.int (0 : Int32)), .val (.int (4 : Int32)), .val (.ref b170), .unset] [])) (st178) ?_
      refine own_st (T' := T178) (F' := (mkF m 92 #[.val (.int b0), .val (.int b1), .val (.int b2), .val (.int b3), .val (.int sh), .val (.int fi), .val (.int (0 : Int32)), .val (.int (4 : Int32)), .val (.ref b170), .unset] [(.ref b170)])) (fun _ kq => XS.aload X178.here hx rfl (hb hby at_90) rfl rfl kq) ?_
      refine own_st (T' := T178) (F' := (mkF m 94 #[.val (.int b0), .val (.int b1), .val (.int b2), .val (.int b3), .val (.int sh), .val (.int fi), .val (.int (0 : Int32)), .val (.int (4 : Int32)), .val (.ref b170), .unset] [(.int (0 : Int32)), (.ref b170)])) (fun _ kq => XS.iload X178.here hx rfl (hb hby at_92) rfl kq) ?_
      obtain ⟨T180, locs180, X180, e180, N180, st180⟩ := own_callP X178 hx hZ 0 hown (hw _ (List.mem_of_getElem? (i := 1) rfl)) (hw _ (List.mem_of_getElem? (i := 2) rfl)) (hw _ (List.mem_of_getElem? (i := 3) rfl)) (hw _ (List.mem_of_getElem? (i := 4) rfl)) (by decide) (rm1_0_4 l Z a0 hw [] b170 ((b0.toInt8.toInt32).toInt8.toInt32) ((b1.toInt8.toInt32).toInt8.toInt32) ((b2.toInt8.toInt32).toInt8.toInt32) ((b3.toInt8.toInt32).toInt8.toInt32) h178 n0 V178) (by decide) (by decide) rfl rfl e178 N178 (by decide) (by decide) (g := (mkF m 94 #[.val (.int b0), .val (.int b1), .val (.int b2), .val (.int b3), .val (.int sh), .val (.int fi), .val (.int (0 : Int32)), .val (.int (4 : Int32)), .val (.ref b170), .unset] [(.int (0 : Int32)), (.ref b170)])) rfl (by rw [hml]; rfl) (argsL := [(.ref b170), (.int (0 : Int32))]) (rest := []) (lenOf pd1 rfl) rfl rfl (by show 2 * 0 + _ ≤ _; exact Nat.le_of_eq rfl) (hb hby at_94)
      refine own_st (T' := T180) (F' := (mkF m 97 #[.val (.int b0), .val (.int b1), .val (.int b2), .val (.int b3), .val (.int sh), .val (.int fi), .val (.int (0 : Int32)), .val (.int (4 : Int32)), .val (.ref b170), .unset] [(.int (sl4 ((b0.toInt8.toInt32).toInt8.toInt32) ((b1.toInt8.toInt32).toInt8.toInt32) ((b2.toInt8.toInt32).toInt8.toInt32) ((b3.toInt8.toInt32).toInt8.toInt32)))])) (st180) ?_
      refine own_st (T' := T180) (F' := (mkF m 99 #[.val (.int b0), .val (.int b1), .val (.int b2), .val (.int b3), .val (.int sh), .val (.int fi), .val (.int (0 : Int32)), .val (.int (4 : Int32)), .val (.ref b170), .val (.int (sl4 ((b0.toInt8.toInt32).toInt8.toInt32) ((b1.toInt8.toInt32).toInt8.toInt32) ((b2.toInt8.toInt32).toInt8.toInt32) ((b3.toInt8.toInt32).toInt8.toInt32)))] [])) (fun _ kq => XS.istore X180.here hx rfl (hb hby at_97) rfl (l' := #[.val (.int b0), .val (.int b1), .val (.int b2), .val (.int b3), .val (.int sh), .val (.int fi), .val (.int (0 : Int32)), .val (.int (4 : Int32)), .val (.ref b170), .val (.int (sl4 ((b0.toInt8.toInt32).toInt8.toInt32) ((b1.toInt8.toInt32).toInt8.toInt32) ((b2.toInt8.toInt32).toInt8.toInt32) ((b3.toInt8.toInt32).toInt8.toInt32)))]) rfl kq) ?_
      refine own_st (T' := T180) (F' := (mkF m 101 #[.val (.int b0), .val (.int b1), .val (.int b2), .val (.int b3), .val (.int sh), .val (.int fi), .val (.int (0 : Int32)), .val (.int (4 : Int32)), .val (.ref b170), .val (.int (sl4 ((b0.toInt8.toInt32).toInt8.toInt32) ((b1.toInt8.toInt32).toInt8.toInt32) ((b2.toInt8.toInt32).toInt8.toInt32) ((b3.toInt8.toInt32).toInt8.toInt32)))] [(.int (sl4 ((b0.toInt8.toInt32).toInt8.toInt32) ((b1.toInt8.toInt32).toInt8.toInt32) ((b2.toInt8.toInt32).toInt8.toInt32) ((b3.toInt8.toInt32).toInt8.toInt32)))])) (fun _ kq => XS.iload X180.here hx rfl (hb hby at_99) rfl kq) ?_
      refine own_st (T' := T180) (F' := (mkF m 102 #[.val (.int b0), .val (.int b1), .val (.int b2), .val (.int b3), .val (.int sh), .val (.int fi), .val (.int (0 : Int32)), .val (.int (4 : Int32)), .val (.ref b170), .val (.int (sl4 ((b0.toInt8.toInt32).toInt8.toInt32) ((b1.toInt8.toInt32).toInt8.toInt32) ((b2.toInt8.toInt32).toInt8.toInt32) ((b3.toInt8.toInt32).toInt8.toInt32)))] [(.int b0), (.int (sl4 ((b0.toInt8.toInt32).toInt8.toInt32) ((b1.toInt8.toInt32).toInt8.toInt32) ((b2.toInt8.toInt32).toInt8.toInt32) ((b3.toInt8.toInt32).toInt8.toInt32)))])) (fun _ kq => XS.iloadN X180.here hx rfl (hb hby at_101) rfl kq) ?_
      refine own_st (T' := T180) (F' := (mkF m 105 #[.val (.int b0), .val (.int b1), .val (.int b2), .val (.int b3), .val (.int sh), .val (.int fi), .val (.int (0 : Int32)), .val (.int (4 : Int32)), .val (.ref b170), .val (.int (sl4 ((b0.toInt8.toInt32).toInt8.toInt32) ((b1.toInt8.toInt32).toInt8.toInt32) ((b2.toInt8.toInt32).toInt8.toInt32) ((b3.toInt8.toInt32).toInt8.toInt32)))] [(.int (255 : Int32)), (.int b0), (.int (sl4 ((b0.toInt8.toInt32).toInt8.toInt32) ((b1.toInt8.toInt32).toInt8.toInt32) ((b2.toInt8.toInt32).toInt8.toInt32) ((b3.toInt8.toInt32).toInt8.toInt32)))])) (fun _ kq => XS.sipush X180.here hx rfl (hb hby at_102) kq) ?_
      refine own_st (T' := T180) (F' := (mkF m 106 #[.val (.int b0), .val (.int b1), .val (.int b2), .val (.int b3), .val (.int sh), .val (.int fi), .val (.int (0 : Int32)), .val (.int (4 : Int32)), .val (.ref b170), .val (.int (sl4 ((b0.toInt8.toInt32).toInt8.toInt32) ((b1.toInt8.toInt32).toInt8.toInt32) ((b2.toInt8.toInt32).toInt8.toInt32) ((b3.toInt8.toInt32).toInt8.toInt32)))] [(.int (b0 &&& (255 : Int32))), (.int (sl4 ((b0.toInt8.toInt32).toInt8.toInt32) ((b1.toInt8.toInt32).toInt8.toInt32) ((b2.toInt8.toInt32).toInt8.toInt32) ((b3.toInt8.toInt32).toInt8.toInt32)))])) (fun _ kq => XS.iand X180.here hx rfl (hb hby at_105) rfl kq) ?_
      refine own_st (T' := T180) (F' := (mkF m 107 #[.val (.int b0), .val (.int b1), .val (.int b2), .val (.int b3), .val (.int sh), .val (.int fi), .val (.int (0 : Int32)), .val (.int (4 : Int32)), .val (.ref b170), .val (.int (sl4 ((b0.toInt8.toInt32).toInt8.toInt32) ((b1.toInt8.toInt32).toInt8.toInt32) ((b2.toInt8.toInt32).toInt8.toInt32) ((b3.toInt8.toInt32).toInt8.toInt32)))] [(.int b1), (.int (b0 &&& (255 : Int32))), (.int (sl4 ((b0.toInt8.toInt32).toInt8.toInt32) ((b1.toInt8.toInt32).toInt8.toInt32) ((b2.toInt8.toInt32).toInt8.toInt32) ((b3.toInt8.toInt32).toInt8.toInt32)))])) (fun _ kq => XS.iloadN X180.here hx rfl (hb hby at_106) rfl kq) ?_
      refine own_st (T' := T180) (F' := (mkF m 110 #[.val (.int b0), .val (.int b1), .val (.int b2), .val (.int b3), .val (.int sh), .val (.int fi), .val (.int (0 : Int32)), .val (.int (4 : Int32)), .val (.ref b170), .val (.int (sl4 ((b0.toInt8.toInt32).toInt8.toInt32) ((b1.toInt8.toInt32).toInt8.toInt32) ((b2.toInt8.toInt32).toInt8.toInt32) ((b3.toInt8.toInt32).toInt8.toInt32)))] [(.int (255 : Int32)), (.int b1), (.int (b0 &&& (255 : Int32))), (.int (sl4 ((b0.toInt8.toInt32).toInt8.toInt32) ((b1.toInt8.toInt32).toInt8.toInt32) ((b2.toInt8.toInt32).toInt8.toInt32) ((b3.toInt8.toInt32).toInt8.toInt32)))])) (fun _ kq => XS.sipush X180.here hx rfl (hb hby at_107) kq) ?_
      refine own_st (T' := T180) (F' := (mkF m 111 #[.val (.int b0), .val (.int b1), .val (.int b2), .val (.int b3), .val (.int sh), .val (.int fi), .val (.int (0 : Int32)), .val (.int (4 : Int32)), .val (.ref b170), .val (.int (sl4 ((b0.toInt8.toInt32).toInt8.toInt32) ((b1.toInt8.toInt32).toInt8.toInt32) ((b2.toInt8.toInt32).toInt8.toInt32) ((b3.toInt8.toInt32).toInt8.toInt32)))] [(.int (b1 &&& (255 : Int32))), (.int (b0 &&& (255 : Int32))), (.int (sl4 ((b0.toInt8.toInt32).toInt8.toInt32) ((b1.toInt8.toInt32).toInt8.toInt32) ((b2.toInt8.toInt32).toInt8.toInt32) ((b3.toInt8.toInt32).toInt8.toInt32)))])) (fun _ kq => XS.iand X180.here hx rfl (hb hby at_110) rfl kq) ?_
      refine own_st (T' := T180) (F' := (mkF m 112 #[.val (.int b0), .val (.int b1), .val (.int b2), .val (.int b3), .val (.int sh), .val (.int fi), .val (.int (0 : Int32)), .val (.int (4 : Int32)), .val (.ref b170), .val (.int (sl4 ((b0.toInt8.toInt32).toInt8.toInt32) ((b1.toInt8.toInt32).toInt8.toInt32) ((b2.toInt8.toInt32).toInt8.toInt32) ((b3.toInt8.toInt32).toInt8.toInt32)))] [(.int b2), (.int (b1 &&& (255 : Int32))), (.int (b0 &&& (255 : Int32))), (.int (sl4 ((b0.toInt8.toInt32).toInt8.toInt32) ((b1.toInt8.toInt32).toInt8.toInt32) ((b2.toInt8.toInt32).toInt8.toInt32) ((b3.toInt8.toInt32).toInt8.toInt32)))])) (fun _ kq => XS.iloadN X180.here hx rfl (hb hby at_111) rfl kq) ?_
      refine own_st (T' := T180) (F' := (mkF m 115 #[.val (.int b0), .val (.int b1), .val (.int b2), .val (.int b3), .val (.int sh), .val (.int fi), .val (.int (0 : Int32)), .val (.int (4 : Int32)), .val (.ref b170), .val (.int (sl4 ((b0.toInt8.toInt32).toInt8.toInt32) ((b1.toInt8.toInt32).toInt8.toInt32) ((b2.toInt8.toInt32).toInt8.toInt32) ((b3.toInt8.toInt32).toInt8.toInt32)))] [(.int (255 : Int32)), (.int b2), (.int (b1 &&& (255 : Int32))), (.int (b0 &&& (255 : Int32))), (.int (sl4 ((b0.toInt8.toInt32).toInt8.toInt32) ((b1.toInt8.toInt32).toInt8.toInt32) ((b2.toInt8.toInt32).toInt8.toInt32) ((b3.toInt8.toInt32).toInt8.toInt32)))])) (fun _ kq => XS.sipush X180.here hx rfl (hb hby at_112) kq) ?_
      refine own_st (T' := T180) (F' := (mkF m 116 #[.val (.int b0), .val (.int b1), .val (.int b2), .val (.int b3), .val (.int sh), .val (.int fi), .val (.int (0 : Int32)), .val (.int (4 : Int32)), .val (.ref b170), .val (.int (sl4 ((b0.toInt8.toInt32).toInt8.toInt32) ((b1.toInt8.toInt32).toInt8.toInt32) ((b2.toInt8.toInt32).toInt8.toInt32) ((b3.toInt8.toInt32).toInt8.toInt32)))] [(.int (b2 &&& (255 : Int32))), (.int (b1 &&& (255 : Int32))), (.int (b0 &&& (255 : Int32))), (.int (sl4 ((b0.toInt8.toInt32).toInt8.toInt32) ((b1.toInt8.toInt32).toInt8.toInt32) ((b2.toInt8.toInt32).toInt8.toInt32) ((b3.toInt8.toInt32).toInt8.toInt32)))])) (fun _ kq => XS.iand X180.here hx rfl (hb hby at_115) rfl kq) ?_
      refine own_st (T' := T180) (F' := (mkF m 117 #[.val (.int b0), .val (.int b1), .val (.int b2), .val (.int b3), .val (.int sh), .val (.int fi), .val (.int (0 : Int32)), .val (.int (4 : Int32)), .val (.ref b170), .val (.int (sl4 ((b0.toInt8.toInt32).toInt8.toInt32) ((b1.toInt8.toInt32).toInt8.toInt32) ((b2.toInt8.toInt32).toInt8.toInt32) ((b3.toInt8.toInt32).toInt8.toInt32)))] [(.int b3), (.int (b2 &&& (255 : Int32))), (.int (b1 &&& (255 : Int32))), (.int (b0 &&& (255 : Int32))), (.int (sl4 ((b0.toInt8.toInt32).toInt8.toInt32) ((b1.toInt8.toInt32).toInt8.toInt32) ((b2.toInt8.toInt32).toInt8.toInt32) ((b3.toInt8.toInt32).toInt8.toInt32)))])) (fun _ kq => XS.iloadN X180.here hx rfl (hb hby at_116) rfl kq) ?_
      refine own_st (T' := T180) (F' := (mkF m 120 #[.val (.int b0), .val (.int b1), .val (.int b2), .val (.int b3), .val (.int sh), .val (.int fi), .val (.int (0 : Int32)), .val (.int (4 : Int32)), .val (.ref b170), .val (.int (sl4 ((b0.toInt8.toInt32).toInt8.toInt32) ((b1.toInt8.toInt32).toInt8.toInt32) ((b2.toInt8.toInt32).toInt8.toInt32) ((b3.toInt8.toInt32).toInt8.toInt32)))] [(.int (255 : Int32)), (.int b3), (.int (b2 &&& (255 : Int32))), (.int (b1 &&& (255 : Int32))), (.int (b0 &&& (255 : Int32))), (.int (sl4 ((b0.toInt8.toInt32).toInt8.toInt32) ((b1.toInt8.toInt32).toInt8.toInt32) ((b2.toInt8.toInt32).toInt8.toInt32) ((b3.toInt8.toInt32).toInt8.toInt32)))])) (fun _ kq => XS.sipush X180.here hx rfl (hb hby at_117) kq) ?_
      refine own_st (T' := T180) (F' := (mkF m 121 #[.val (.int b0), .val (.int b1), .val (.int b2), .val (.int b3), .val (.int sh), .val (.int fi), .val (.int (0 : Int32)), .val (.int (4 : Int32)), .val (.ref b170), .val (.int (sl4 ((b0.toInt8.toInt32).toInt8.toInt32) ((b1.toInt8.toInt32).toInt8.toInt32) ((b2.toInt8.toInt32).toInt8.toInt32) ((b3.toInt8.toInt32).toInt8.toInt32)))] [(.int (b3 &&& (255 : Int32))), (.int (b2 &&& (255 : Int32))), (.int (b1 &&& (255 : Int32))), (.int (b0 &&& (255 : Int32))), (.int (sl4 ((b0.toInt8.toInt32).toInt8.toInt32) ((b1.toInt8.toInt32).toInt8.toInt32) ((b2.toInt8.toInt32).toInt8.toInt32) ((b3.toInt8.toInt32).toInt8.toInt32)))])) (fun _ kq => XS.iand X180.here hx rfl (hb hby at_120) rfl kq) ?_
      refine own_st (T' := T180) (F' := (mkF m 123 #[.val (.int b0), .val (.int b1), .val (.int b2), .val (.int b3), .val (.int sh), .val (.int fi), .val (.int (0 : Int32)), .val (.int (4 : Int32)), .val (.ref b170), .val (.int (sl4 ((b0.toInt8.toInt32).toInt8.toInt32) ((b1.toInt8.toInt32).toInt8.toInt32) ((b2.toInt8.toInt32).toInt8.toInt32) ((b3.toInt8.toInt32).toInt8.toInt32)))] [(.int (4 : Int32)), (.int (b3 &&& (255 : Int32))), (.int (b2 &&& (255 : Int32))), (.int (b1 &&& (255 : Int32))), (.int (b0 &&& (255 : Int32))), (.int (sl4 ((b0.toInt8.toInt32).toInt8.toInt32) ((b1.toInt8.toInt32).toInt8.toInt32) ((b2.toInt8.toInt32).toInt8.toInt32) ((b3.toInt8.toInt32).toInt8.toInt32)))])) (fun _ kq => XS.iload X180.here hx rfl (hb hby at_121) rfl kq) ?_
      obtain ⟨T181, locs181, X181, e181, N181, st181⟩ := own_callP X180 hx hZ 1 hown (hw _ (List.mem_of_getElem? (i := 5) rfl)) (hw _ (List.mem_of_getElem? (i := 6) rfl)) (hw _ (List.mem_of_getElem? (i := 7) rfl)) (hw _ (List.mem_of_getElem? (i := 8) rfl)) (by decide) (rm2 l Z a0 hw [] (b0 &&& (255 : Int32)) (b1 &&& (255 : Int32)) (b2 &&& (255 : Int32)) (b3 &&& (255 : Int32)) (4 : Int32) h178 n0) (by decide) (by decide) rfl rfl e180 N180 (by decide) (by decide) (g := (mkF m 123 #[.val (.int b0), .val (.int b1), .val (.int b2), .val (.int b3), .val (.int sh), .val (.int fi), .val (.int (0 : Int32)), .val (.int (4 : Int32)), .val (.ref b170), .val (.int (sl4 ((b0.toInt8.toInt32).toInt8.toInt32) ((b1.toInt8.toInt32).toInt8.toInt32) ((b2.toInt8.toInt32).toInt8.toInt32) ((b3.toInt8.toInt32).toInt8.toInt32)))] [(.int (4 : Int32)), (.int (b3 &&& (255 : Int32))), (.int (b2 &&& (255 : Int32))), (.int (b1 &&& (255 : Int32))), (.int (b0 &&& (255 : Int32))), (.int (sl4 ((b0.toInt8.toInt32).toInt8.toInt32) ((b1.toInt8.toInt32).toInt8.toInt32) ((b2.toInt8.toInt32).toInt8.toInt32) ((b3.toInt8.toInt32).toInt8.toInt32)))])) rfl (by rw [hml]; rfl) (argsL := [(.int (b0 &&& (255 : Int32))), (.int (b1 &&& (255 : Int32))), (.int (b2 &&& (255 : Int32))), (.int (b3 &&& (255 : Int32))), (.int (4 : Int32))]) (rest := [(.int (sl4 ((b0.toInt8.toInt32).toInt8.toInt32) ((b1.toInt8.toInt32).toInt8.toInt32) ((b2.toInt8.toInt32).toInt8.toInt32) ((b3.toInt8.toInt32).toInt8.toInt32)))]) (lenOf pd2 rfl) rfl rfl (by show 2 * 0 + _ ≤ _; exact Nat.le_of_eq rfl) (hb hby at_123)
      refine own_st (T' := T181) (F' := (mkF m 126 #[.val (.int b0), .val (.int b1), .val (.int b2), .val (.int b3), .val (.int sh), .val (.int fi), .val (.int (0 : Int32)), .val (.int (4 : Int32)), .val (.ref b170), .val (.int (sl4 ((b0.toInt8.toInt32).toInt8.toInt32) ((b1.toInt8.toInt32).toInt8.toInt32) ((b2.toInt8.toInt32).toInt8.toInt32) ((b3.toInt8.toInt32).toInt8.toInt32)))] [(.int (f2 (b0 &&& (255 : Int32)) (b1 &&& (255 : Int32)) (b2 &&& (255 : Int32)) (b3 &&& (255 : Int32)) (4 : Int32))), (.int (sl4 ((b0.toInt8.toInt32).toInt8.toInt32) ((b1.toInt8.toInt32).toInt8.toInt32) ((b2.toInt8.toInt32).toInt8.toInt32) ((b3.toInt8.toInt32).toInt8.toInt32)))])) (st181) ?_
      refine own_st (T' := T181) (F' := (mkF m 129 #[.val (.int b0), .val (.int b1), .val (.int b2), .val (.int b3), .val (.int sh), .val (.int fi), .val (.int (0 : Int32)), .val (.int (4 : Int32)), .val (.ref b170), .val (.int (sl4 ((b0.toInt8.toInt32).toInt8.toInt32) ((b1.toInt8.toInt32).toInt8.toInt32) ((b2.toInt8.toInt32).toInt8.toInt32) ((b3.toInt8.toInt32).toInt8.toInt32)))] [])) (fun _ kq => XS.icmpNo X181.here hx rfl (hb hby at_126) rfl (teq (own_law4 b0 b1 b2 b3)).2 kq) ?_
      refine own_st (T' := T181) (F' := (mkF m 130 #[.val (.int b0), .val (.int b1), .val (.int b2), .val (.int b3), .val (.int sh), .val (.int fi), .val (.int (0 : Int32)), .val (.int (4 : Int32)), .val (.ref b170), .val (.int (sl4 ((b0.toInt8.toInt32).toInt8.toInt32) ((b1.toInt8.toInt32).toInt8.toInt32) ((b2.toInt8.toInt32).toInt8.toInt32) ((b3.toInt8.toInt32).toInt8.toInt32)))] [(.int (1 : Int32))])) (fun _ kq => XS.iconst X181.here hx rfl (hb hby at_129) kq) ?_
      refine own_st (T' := T181) (F' := (mkF m 134 #[.val (.int b0), .val (.int b1), .val (.int b2), .val (.int b3), .val (.int sh), .val (.int fi), .val (.int (0 : Int32)), .val (.int (4 : Int32)), .val (.ref b170), .val (.int (sl4 ((b0.toInt8.toInt32).toInt8.toInt32) ((b1.toInt8.toInt32).toInt8.toInt32) ((b2.toInt8.toInt32).toInt8.toInt32) ((b3.toInt8.toInt32).toInt8.toInt32)))] [(.int (1 : Int32))])) (fun _ kq => XS.goto X181.here hx rfl (pc0 := 130) (pc' := 134) rfl (hb hby at_130) (by decide) (by decide) kq) ?_
      exact own_retN X181 hx hlk hret (by simp) (hb hby at_134) (by decide) (by decide) ⟨rfl, N181⟩
  ·
    refine own_st (T' := T0) (F' := (mkF m 6 #[.val (.int b0), .val (.int b1), .val (.int b2), .val (.int b3), .val (.int sh), .val (.int fi), .val (.int (1 : Int32)), .unset, .unset, .unset] [])) (fun _ kq => XS.istore X0.here hx rfl (hb hby at_4) rfl (l' := #[.val (.int b0), .val (.int b1), .val (.int b2), .val (.int b3), .val (.int sh), .val (.int fi), .val (.int (1 : Int32)), .unset, .unset, .unset]) rfl kq) ?_
    refine own_st (T' := T0) (F' := (mkF m 7 #[.val (.int b0), .val (.int b1), .val (.int b2), .val (.int b3), .val (.int sh), .val (.int fi), .val (.int (1 : Int32)), .unset, .unset, .unset] [(.int (1 : Int32))])) (fun _ kq => XS.iconst X0.here hx rfl (hb hby at_6) kq) ?_
    refine own_st (T' := T0) (F' := (mkF m 9 #[.val (.int b0), .val (.int b1), .val (.int b2), .val (.int b3), .val (.int sh), .val (.int fi), .val (.int (1 : Int32)), .unset, .unset, .unset] [(.int sh), (.int (1 : Int32))])) (fun _ kq => XS.iload X0.here hx rfl (hb hby at_7) rfl kq) ?_
    refine own_st (T' := T0) (F' := (mkF m 10 #[.val (.int b0), .val (.int b1), .val (.int b2), .val (.int b3), .val (.int sh), .val (.int fi), .val (.int (1 : Int32)), .unset, .unset, .unset] [(.int (1 : Int32)), (.int sh), (.int (1 : Int32))])) (fun _ kq => XS.iconst X0.here hx rfl (hb hby at_9) kq) ?_
    refine own_st (T' := T0) (F' := (mkF m 11 #[.val (.int b0), .val (.int b1), .val (.int b2), .val (.int b3), .val (.int sh), .val (.int fi), .val (.int (1 : Int32)), .unset, .unset, .unset] [(.int ((sh.toUInt32 >>> ((1 : Int32) &&& 31).toUInt32).toInt32)), (.int (1 : Int32))])) (fun _ kq => XS.iushr X0.here hx rfl (hb hby at_10) rfl kq) ?_
    refine own_st (T' := T0) (F' := (mkF m 12 #[.val (.int b0), .val (.int b1), .val (.int b2), .val (.int b3), .val (.int sh), .val (.int fi), .val (.int (1 : Int32)), .unset, .unset, .unset] [(.int (3 : Int32)), (.int ((sh.toUInt32 >>> ((1 : Int32) &&& 31).toUInt32).toInt32)), (.int (1 : Int32))])) (fun _ kq => XS.iconst X0.here hx rfl (hb hby at_11) kq) ?_
    refine own_st (T' := T0) (F' := (mkF m 13 #[.val (.int b0), .val (.int b1), .val (.int b2), .val (.int b3), .val (.int sh), .val (.int fi), .val (.int (1 : Int32)), .unset, .unset, .unset] [(.int (((sh.toUInt32 >>> ((1 : Int32) &&& 31).toUInt32).toInt32) &&& (3 : Int32))), (.int (1 : Int32))])) (fun _ kq => XS.iand X0.here hx rfl (hb hby at_12) rfl kq) ?_
    refine own_st (T' := T0) (F' := (mkF m 14 #[.val (.int b0), .val (.int b1), .val (.int b2), .val (.int b3), .val (.int sh), .val (.int fi), .val (.int (1 : Int32)), .unset, .unset, .unset] [(.int ((1 : Int32) + (((sh.toUInt32 >>> ((1 : Int32) &&& 31).toUInt32).toInt32) &&& (3 : Int32))))])) (fun _ kq => XS.iadd X0.here hx rfl (hb hby at_13) rfl kq) ?_
    generalize hn182 : ((1 : Int32) + (((sh.toUInt32 >>> ((1 : Int32) &&& 31).toUInt32).toInt32) &&& (3 : Int32))) = n182
    rcases own_n4 hn182 with rfl | rfl | rfl | rfl
    ·
      refine own_st (T' := T0) (F' := (mkF m 16 #[.val (.int b0), .val (.int b1), .val (.int b2), .val (.int b3), .val (.int sh), .val (.int fi), .val (.int (1 : Int32)), .val (.int (1 : Int32)), .unset, .unset] [])) (fun _ kq => XS.istore X0.here hx rfl (hb hby at_14) rfl (l' := #[.val (.int b0), .val (.int b1), .val (.int b2), .val (.int b3), .val (.int sh), .val (.int fi), .val (.int (1 : Int32)), .val (.int (1 : Int32)), .unset, .unset]) rfl kq) ?_
      refine own_st (T' := T0) (F' := (mkF m 18 #[.val (.int b0), .val (.int b1), .val (.int b2), .val (.int b3), .val (.int sh), .val (.int fi), .val (.int (1 : Int32)), .val (.int (1 : Int32)), .unset, .unset] [(.int (1 : Int32))])) (fun _ kq => XS.iload X0.here hx rfl (hb hby at_16) rfl kq) ?_
      refine own_st (T' := T0) (F' := (mkF m 20 #[.val (.int b0), .val (.int b1), .val (.int b2), .val (.int b3), .val (.int sh), .val (.int fi), .val (.int (1 : Int32)), .val (.int (1 : Int32)), .unset, .unset] [(.int (1 : Int32)), (.int (1 : Int32))])) (fun _ kq => XS.iload X0.here hx rfl (hb hby at_18) rfl kq) ?_
      refine own_st (T' := T0) (F' := (mkF m 21 #[.val (.int b0), .val (.int b1), .val (.int b2), .val (.int b3), .val (.int sh), .val (.int fi), .val (.int (1 : Int32)), .val (.int (1 : Int32)), .unset, .unset] [(.int (2 : Int32))])) (fun _ kq => XS.iadd X0.here hx rfl (hb hby at_20) rfl kq) ?_
      obtain ⟨T183, h183, b183, X183, e183, E183, g183, gb183, Z183, V183, st183⟩ := own_newI X0 hx hZ (aty := .byte) (hw _ (List.mem_of_getElem? (i := 0) rfl)) e0 Z0 (g := (mkF m 21 #[.val (.int b0), .val (.int b1), .val (.int b2), .val (.int b3), .val (.int sh), .val (.int fi), .val (.int (1 : Int32)), .val (.int (1 : Int32)), .unset, .unset] [(.int (2 : Int32))])) rfl rfl (hb hby at_21) rfl (by decide) 2 2 rfl (by decide) (by decide) (by decide) (by decide)
      refine own_st (T' := T183) (F' := (mkF m 23 #[.val (.int b0), .val (.int b1), .val (.int b2), .val (.int b3), .val (.int sh), .val (.int fi), .val (.int (1 : Int32)), .val (.int (1 : Int32)), .unset, .unset] [(.ref b183)])) (st183) ?_
      refine own_st (T' := T183) (F' := (mkF m 25 #[.val (.int b0), .val (.int b1), .val (.int b2), .val (.int b3), .val (.int sh), .val (.int fi), .val (.int (1 : Int32)), .val (.int (1 : Int32)), .val (.ref b183), .unset] [])) (fun _ kq => XS.astore X183.here hx rfl (hb hby at_23) rfl rfl (l' := #[.val (.int b0), .val (.int b1), .val (.int b2), .val (.int b3), .val (.int sh), .val (.int fi), .val (.int (1 : Int32)), .val (.int (1 : Int32)), .val (.ref b183), .unset]) rfl kq) ?_
      refine own_st (T' := T183) (F' := (mkF m 27 #[.val (.int b0), .val (.int b1), .val (.int b2), .val (.int b3), .val (.int sh), .val (.int fi), .val (.int (1 : Int32)), .val (.int (1 : Int32)), .val (.ref b183), .unset] [(.int (1 : Int32))])) (fun _ kq => XS.iload X183.here hx rfl (hb hby at_25) rfl kq) ?_
      refine own_st (T' := T183) (F' := (mkF m 28 #[.val (.int b0), .val (.int b1), .val (.int b2), .val (.int b3), .val (.int sh), .val (.int fi), .val (.int (1 : Int32)), .val (.int (1 : Int32)), .val (.ref b183), .unset] [(.int (1 : Int32)), (.int (1 : Int32))])) (fun _ kq => XS.iconst X183.here hx rfl (hb hby at_27) kq) ?_
      refine own_st (T' := T183) (F' := (mkF m 31 #[.val (.int b0), .val (.int b1), .val (.int b2), .val (.int b3), .val (.int sh), .val (.int fi), .val (.int (1 : Int32)), .val (.int (1 : Int32)), .val (.ref b183), .unset] [])) (fun _ kq => XS.icmpNo X183.here hx rfl (hb hby at_28) rfl (teq (rfl : (1 : Int32) = (1 : Int32))).2 kq) ?_
      refine own_st (T' := T183) (F' := (mkF m 33 #[.val (.int b0), .val (.int b1), .val (.int b2), .val (.int b3), .val (.int sh), .val (.int fi), .val (.int (1 : Int32)), .val (.int (1 : Int32)), .val (.ref b183), .unset] [(.ref b183)])) (fun _ kq => XS.aload X183.here hx rfl (hb hby at_31) rfl rfl kq) ?_
      refine own_st (T' := T183) (F' := (mkF m 34 #[.val (.int b0), .val (.int b1), .val (.int b2), .val (.int b3), .val (.int sh), .val (.int fi), .val (.int (1 : Int32)), .val (.int (1 : Int32)), .val (.ref b183), .unset] [(.int (0 : Int32)), (.ref b183)])) (fun _ kq => XS.iconst X183.here hx rfl (hb hby at_33) kq) ?_
      refine own_st (T' := T183) (F' := (mkF m 36 #[.val (.int b0), .val (.int b1), .val (.int b2), .val (.int b3), .val (.int sh), .val (.int fi), .val (.int (1 : Int32)), .val (.int (1 : Int32)), .val (.ref b183), .unset] [(.int fi), (.int (0 : Int32)), (.ref b183)])) (fun _ kq => XS.iload X183.here hx rfl (hb hby at_34) rfl kq) ?_
      refine own_st (T' := T183) (F' := (mkF m 37 #[.val (.int b0), .val (.int b1), .val (.int b2), .val (.int b3), .val (.int sh), .val (.int fi), .val (.int (1 : Int32)), .val (.int (1 : Int32)), .val (.ref b183), .unset] [(.int (fi.toInt8.toInt32)), (.int (0 : Int32)), (.ref b183)])) (fun _ kq => XS.i2b X183.here hx rfl (hb hby at_36) rfl kq) ?_
      obtain ⟨T185, h185, locs185, X185, e185, N185, W185, V185, st185⟩ := own_stB X183 hx hZ e183 N0 (ys := [((fi.toInt8.toInt32).toInt8.toInt32), (0 : Int32)]) V183 gb183 (g := (mkF m 37 #[.val (.int b0), .val (.int b1), .val (.int b2), .val (.int b3), .val (.int sh), .val (.int fi), .val (.int (1 : Int32)), .val (.int (1 : Int32)), .val (.ref b183), .unset] [(.int (fi.toInt8.toInt32)), (.int (0 : Int32)), (.ref b183)])) rfl rfl (hb hby at_37) (by decide) (Nat.le_of_ble_eq_true rfl) rfl
      have Z185 : n0 ≤ h185.size := by rw [W185.size]; exact Z183
      refine own_st (T' := T185) (F' := (mkF m 38 #[.val (.int b0), .val (.int b1), .val (.int b2), .val (.int b3), .val (.int sh), .val (.int fi), .val (.int (1 : Int32)), .val (.int (1 : Int32)), .val (.ref b183), .unset] [])) (st185) ?_
      refine own_st (T' := T185) (F' := (mkF m 40 #[.val (.int b0), .val (.int b1), .val (.int b2), .val (.int b3), .val (.int sh), .val (.int fi), .val (.int (1 : Int32)), .val (.int (1 : Int32)), .val (.ref b183), .unset] [(.ref b183)])) (fun _ kq => XS.aload X185.here hx rfl (hb hby at_38) rfl rfl kq) ?_
      refine own_st (T' := T185) (F' := (mkF m 42 #[.val (.int b0), .val (.int b1), .val (.int b2), .val (.int b3), .val (.int sh), .val (.int fi), .val (.int (1 : Int32)), .val (.int (1 : Int32)), .val (.ref b183), .unset] [(.int (1 : Int32)), (.ref b183)])) (fun _ kq => XS.iload X185.here hx rfl (hb hby at_40) rfl kq) ?_
      refine own_st (T' := T185) (F' := (mkF m 43 #[.val (.int b0), .val (.int b1), .val (.int b2), .val (.int b3), .val (.int sh), .val (.int fi), .val (.int (1 : Int32)), .val (.int (1 : Int32)), .val (.ref b183), .unset] [(.int b0), (.int (1 : Int32)), (.ref b183)])) (fun _ kq => XS.iloadN X185.here hx rfl (hb hby at_42) rfl kq) ?_
      refine own_st (T' := T185) (F' := (mkF m 44 #[.val (.int b0), .val (.int b1), .val (.int b2), .val (.int b3), .val (.int sh), .val (.int fi), .val (.int (1 : Int32)), .val (.int (1 : Int32)), .val (.ref b183), .unset] [(.int (b0.toInt8.toInt32)), (.int (1 : Int32)), (.ref b183)])) (fun _ kq => XS.i2b X185.here hx rfl (hb hby at_43) rfl kq) ?_
      obtain ⟨T187, h187, locs187, X187, e187, N187, W187, V187, st187⟩ := own_stB X185 hx hZ e185 N185 (ys := [((fi.toInt8.toInt32).toInt8.toInt32), ((b0.toInt8.toInt32).toInt8.toInt32)]) V185 gb183 (g := (mkF m 44 #[.val (.int b0), .val (.int b1), .val (.int b2), .val (.int b3), .val (.int sh), .val (.int fi), .val (.int (1 : Int32)), .val (.int (1 : Int32)), .val (.ref b183), .unset] [(.int (b0.toInt8.toInt32)), (.int (1 : Int32)), (.ref b183)])) rfl rfl (hb hby at_44) (by decide) (Nat.le_of_ble_eq_true rfl) rfl
      have Z187 : n0 ≤ h187.size := by rw [W187.size]; exact Z185
      refine own_st (T' := T187) (F' := (mkF m 45 #[.val (.int b0), .val (.int b1), .val (.int b2), .val (.int b3), .val (.int sh), .val (.int fi), .val (.int (1 : Int32)), .val (.int (1 : Int32)), .val (.ref b183), .unset] [])) (st187) ?_
      refine own_st (T' := T187) (F' := (mkF m 47 #[.val (.int b0), .val (.int b1), .val (.int b2), .val (.int b3), .val (.int sh), .val (.int fi), .val (.int (1 : Int32)), .val (.int (1 : Int32)), .val (.ref b183), .unset] [(.int (1 : Int32))])) (fun _ kq => XS.iload X187.here hx rfl (hb hby at_45) rfl kq) ?_
      refine own_st (T' := T187) (F' := (mkF m 48 #[.val (.int b0), .val (.int b1), .val (.int b2), .val (.int b3), .val (.int sh), .val (.int fi), .val (.int (1 : Int32)), .val (.int (1 : Int32)), .val (.ref b183), .unset] [(.int (1 : Int32)), (.int (1 : Int32))])) (fun _ kq => XS.iconst X187.here hx rfl (hb hby at_47) kq) ?_
      refine own_st (T' := T187) (F' := (mkF m 60 #[.val (.int b0), .val (.int b1), .val (.int b2), .val (.int b3), .val (.int sh), .val (.int fi), .val (.int (1 : Int32)), .val (.int (1 : Int32)), .val (.ref b183), .unset] [])) (fun _ kq => XS.icmpYes X187.here hx rfl (pc0 := 48) (pc' := 60) rfl (hb hby at_48) rfl (flt (by decide : ¬ ((1 : Int32) < (1 : Int32)))).2.2.2 (by decide) (by decide) kq) ?_
      refine own_st (T' := T187) (F' := (mkF m 62 #[.val (.int b0), .val (.int b1), .val (.int b2), .val (.int b3), .val (.int sh), .val (.int fi), .val (.int (1 : Int32)), .val (.int (1 : Int32)), .val (.ref b183), .unset] [(.int (1 : Int32))])) (fun _ kq => XS.iload X187.here hx rfl (hb hby at_60) rfl kq) ?_
      refine own_st (T' := T187) (F' := (mkF m 63 #[.val (.int b0), .val (.int b1), .val (.int b2), .val (.int b3), .val (.int sh), .val (.int fi), .val (.int (1 : Int32)), .val (.int (1 : Int32)), .val (.ref b183), .unset] [(.int (2 : Int32)), (.int (1 : Int32))])) (fun _ kq => XS.iconst X187.here hx rfl (hb hby at_62) kq) ?_
      refine own_st (T' := T187) (F' := (mkF m 75 #[.val (.int b0), .val (.int b1), .val (.int b2), .val (.int b3), .val (.int sh), .val (.int fi), .val (.int (1 : Int32)), .val (.int (1 : Int32)), .val (.ref b183), .unset] [])) (fun _ kq => XS.icmpYes X187.here hx rfl (pc0 := 63) (pc' := 75) rfl (hb hby at_63) rfl (flt (by decide : ¬ ((2 : Int32) < (1 : Int32)))).2.2.2 (by decide) (by decide) kq) ?_
      refine own_st (T' := T187) (F' := (mkF m 77 #[.val (.int b0), .val (.int b1), .val (.int b2), .val (.int b3), .val (.int sh), .val (.int fi), .val (.int (1 : Int32)), .val (.int (1 : Int32)), .val (.ref b183), .unset] [(.int (1 : Int32))])) (fun _ kq => XS.iload X187.here hx rfl (hb hby at_75) rfl kq) ?_
      refine own_st (T' := T187) (F' := (mkF m 78 #[.val (.int b0), .val (.int b1), .val (.int b2), .val (.int b3), .val (.int sh), .val (.int fi), .val (.int (1 : Int32)), .val (.int (1 : Int32)), .val (.ref b183), .unset] [(.int (3 : Int32)), (.int (1 : Int32))])) (fun _ kq => XS.iconst X187.here hx rfl (hb hby at_77) kq) ?_
      refine own_st (T' := T187) (F' := (mkF m 90 #[.val (.int b0), .val (.int b1), .val (.int b2), .val (.int b3), .val (.int sh), .val (.int fi), .val (.int (1 : Int32)), .val (.int (1 : Int32)), .val (.ref b183), .unset] [])) (fun _ kq => XS.icmpYes X187.here hx rfl (pc0 := 78) (pc' := 90) rfl (hb hby at_78) rfl (flt (by decide : ¬ ((3 : Int32) < (1 : Int32)))).2.2.2 (by decide) (by decide) kq) ?_
      refine own_st (T' := T187) (F' := (mkF m 92 #[.val (.int b0), .val (.int b1), .val (.int b2), .val (.int b3), .val (.int sh), .val (.int fi), .val (.int (1 : Int32)), .val (.int (1 : Int32)), .val (.ref b183), .unset] [(.ref b183)])) (fun _ kq => XS.aload X187.here hx rfl (hb hby at_90) rfl rfl kq) ?_
      refine own_st (T' := T187) (F' := (mkF m 94 #[.val (.int b0), .val (.int b1), .val (.int b2), .val (.int b3), .val (.int sh), .val (.int fi), .val (.int (1 : Int32)), .val (.int (1 : Int32)), .val (.ref b183), .unset] [(.int (1 : Int32)), (.ref b183)])) (fun _ kq => XS.iload X187.here hx rfl (hb hby at_92) rfl kq) ?_
      obtain ⟨T189, locs189, X189, e189, N189, st189⟩ := own_callP X187 hx hZ 0 hown (hw _ (List.mem_of_getElem? (i := 1) rfl)) (hw _ (List.mem_of_getElem? (i := 2) rfl)) (hw _ (List.mem_of_getElem? (i := 3) rfl)) (hw _ (List.mem_of_getElem? (i := 4) rfl)) (by decide) (rm1_1_1 l Z a0 hw [] b183 ((fi.toInt8.toInt32).toInt8.toInt32) ((b0.toInt8.toInt32).toInt8.toInt32) h187 n0 V187) (by decide) (by decide) rfl rfl e187 N187 (by decide) (by decide) (g := (mkF m 94 #[.val (.int b0), .val (.int b1), .val (.int b2), .val (.int b3), .val (.int sh), .val (.int fi), .val (.int (1 : Int32)), .val (.int (1 : Int32)), .val (.ref b183), .unset] [(.int (1 : Int32)), (.ref b183)])) rfl (by rw [hml]; rfl) (argsL := [(.ref b183), (.int (1 : Int32))]) (rest := []) (lenOf pd1 rfl) rfl rfl (by show 2 * 0 + _ ≤ _; exact Nat.le_of_eq rfl) (hb hby at_94)
      refine own_st (T' := T189) (F' := (mkF m 97 #[.val (.int b0), .val (.int b1), .val (.int b2), .val (.int b3), .val (.int sh), .val (.int fi), .val (.int (1 : Int32)), .val (.int (1 : Int32)), .val (.ref b183), .unset] [(.int (sl1 ((b0.toInt8.toInt32).toInt8.toInt32)))])) (st189) ?_
      refine own_st (T' := T189) (F' := (mkF m 99 #[.val (.int b0), .val (.int b1), .val (.int b2), .val (.int b3), .val (.int sh), .val (.int fi), .val (.int (1 : Int32)), .val (.int (1 : Int32)), .val (.ref b183), .val (.int (sl1 ((b0.toInt8.toInt32).toInt8.toInt32)))] [])) (fun _ kq => XS.istore X189.here hx rfl (hb hby at_97) rfl (l' := #[.val (.int b0), .val (.int b1), .val (.int b2), .val (.int b3), .val (.int sh), .val (.int fi), .val (.int (1 : Int32)), .val (.int (1 : Int32)), .val (.ref b183), .val (.int (sl1 ((b0.toInt8.toInt32).toInt8.toInt32)))]) rfl kq) ?_
      refine own_st (T' := T189) (F' := (mkF m 101 #[.val (.int b0), .val (.int b1), .val (.int b2), .val (.int b3), .val (.int sh), .val (.int fi), .val (.int (1 : Int32)), .val (.int (1 : Int32)), .val (.ref b183), .val (.int (sl1 ((b0.toInt8.toInt32).toInt8.toInt32)))] [(.int (sl1 ((b0.toInt8.toInt32).toInt8.toInt32)))])) (fun _ kq => XS.iload X189.here hx rfl (hb hby at_99) rfl kq) ?_
      refine own_st (T' := T189) (F' := (mkF m 102 #[.val (.int b0), .val (.int b1), .val (.int b2), .val (.int b3), .val (.int sh), .val (.int fi), .val (.int (1 : Int32)), .val (.int (1 : Int32)), .val (.ref b183), .val (.int (sl1 ((b0.toInt8.toInt32).toInt8.toInt32)))] [(.int b0), (.int (sl1 ((b0.toInt8.toInt32).toInt8.toInt32)))])) (fun _ kq => XS.iloadN X189.here hx rfl (hb hby at_101) rfl kq) ?_
      refine own_st (T' := T189) (F' := (mkF m 105 #[.val (.int b0), .val (.int b1), .val (.int b2), .val (.int b3), .val (.int sh), .val (.int fi), .val (.int (1 : Int32)), .val (.int (1 : Int32)), .val (.ref b183), .val (.int (sl1 ((b0.toInt8.toInt32).toInt8.toInt32)))] [(.int (255 : Int32)), (.int b0), (.int (sl1 ((b0.toInt8.toInt32).toInt8.toInt32)))])) (fun _ kq => XS.sipush X189.here hx rfl (hb hby at_102) kq) ?_
      refine own_st (T' := T189) (F' := (mkF m 106 #[.val (.int b0), .val (.int b1), .val (.int b2), .val (.int b3), .val (.int sh), .val (.int fi), .val (.int (1 : Int32)), .val (.int (1 : Int32)), .val (.ref b183), .val (.int (sl1 ((b0.toInt8.toInt32).toInt8.toInt32)))] [(.int (b0 &&& (255 : Int32))), (.int (sl1 ((b0.toInt8.toInt32).toInt8.toInt32)))])) (fun _ kq => XS.iand X189.here hx rfl (hb hby at_105) rfl kq) ?_
      refine own_st (T' := T189) (F' := (mkF m 107 #[.val (.int b0), .val (.int b1), .val (.int b2), .val (.int b3), .val (.int sh), .val (.int fi), .val (.int (1 : Int32)), .val (.int (1 : Int32)), .val (.ref b183), .val (.int (sl1 ((b0.toInt8.toInt32).toInt8.toInt32)))] [(.int b1), (.int (b0 &&& (255 : Int32))), (.int (sl1 ((b0.toInt8.toInt32).toInt8.toInt32)))])) (fun _ kq => XS.iloadN X189.here hx rfl (hb hby at_106) rfl kq) ?_
      refine own_st (T' := T189) (F' := (mkF m 110 #[.val (.int b0), .val (.int b1), .val (.int b2), .val (.int b3), .val (.int sh), .val (.int fi), .val (.int (1 : Int32)), .val (.int (1 : Int32)), .val (.ref b183), .val (.int (sl1 ((b0.toInt8.toInt32).toInt8.toInt32)))] [(.int (255 : Int32)), (.int b1), (.int (b0 &&& (255 : Int32))), (.int (sl1 ((b0.toInt8.toInt32).toInt8.toInt32)))])) (fun _ kq => XS.sipush X189.here hx rfl (hb hby at_107) kq) ?_
      refine own_st (T' := T189) (F' := (mkF m 111 #[.val (.int b0), .val (.int b1), .val (.int b2), .val (.int b3), .val (.int sh), .val (.int fi), .val (.int (1 : Int32)), .val (.int (1 : Int32)), .val (.ref b183), .val (.int (sl1 ((b0.toInt8.toInt32).toInt8.toInt32)))] [(.int (b1 &&& (255 : Int32))), (.int (b0 &&& (255 : Int32))), (.int (sl1 ((b0.toInt8.toInt32).toInt8.toInt32)))])) (fun _ kq => XS.iand X189.here hx rfl (hb hby at_110) rfl kq) ?_
      refine own_st (T' := T189) (F' := (mkF m 112 #[.val (.int b0), .val (.int b1), .val (.int b2), .val (.int b3), .val (.int sh), .val (.int fi), .val (.int (1 : Int32)), .val (.int (1 : Int32)), .val (.ref b183), .val (.int (sl1 ((b0.toInt8.toInt32).toInt8.toInt32)))] [(.int b2), (.int (b1 &&& (255 : Int32))), (.int (b0 &&& (255 : Int32))), (.int (sl1 ((b0.toInt8.toInt32).toInt8.toInt32)))])) (fun _ kq => XS.iloadN X189.here hx rfl (hb hby at_111) rfl kq) ?_
      refine own_st (T' := T189) (F' := (mkF m 115 #[.val (.int b0), .val (.int b1), .val (.int b2), .val (.int b3), .val (.int sh), .val (.int fi), .val (.int (1 : Int32)), .val (.int (1 : Int32)), .val (.ref b183), .val (.int (sl1 ((b0.toInt8.toInt32).toInt8.toInt32)))] [(.int (255 : Int32)), (.int b2), (.int (b1 &&& (255 : Int32))), (.int (b0 &&& (255 : Int32))), (.int (sl1 ((b0.toInt8.toInt32).toInt8.toInt32)))])) (fun _ kq => XS.sipush X189.here hx rfl (hb hby at_112) kq) ?_
      refine own_st (T' := T189) (F' := (mkF m 116 #[.val (.int b0), .val (.int b1), .val (.int b2), .val (.int b3), .val (.int sh), .val (.int fi), .val (.int (1 : Int32)), .val (.int (1 : Int32)), .val (.ref b183), .val (.int (sl1 ((b0.toInt8.toInt32).toInt8.toInt32)))] [(.int (b2 &&& (255 : Int32))), (.int (b1 &&& (255 : Int32))), (.int (b0 &&& (255 : Int32))), (.int (sl1 ((b0.toInt8.toInt32).toInt8.toInt32)))])) (fun _ kq => XS.iand X189.here hx rfl (hb hby at_115) rfl kq) ?_
      refine own_st (T' := T189) (F' := (mkF m 117 #[.val (.int b0), .val (.int b1), .val (.int b2), .val (.int b3), .val (.int sh), .val (.int fi), .val (.int (1 : Int32)), .val (.int (1 : Int32)), .val (.ref b183), .val (.int (sl1 ((b0.toInt8.toInt32).toInt8.toInt32)))] [(.int b3), (.int (b2 &&& (255 : Int32))), (.int (b1 &&& (255 : Int32))), (.int (b0 &&& (255 : Int32))), (.int (sl1 ((b0.toInt8.toInt32).toInt8.toInt32)))])) (fun _ kq => XS.iloadN X189.here hx rfl (hb hby at_116) rfl kq) ?_
      refine own_st (T' := T189) (F' := (mkF m 120 #[.val (.int b0), .val (.int b1), .val (.int b2), .val (.int b3), .val (.int sh), .val (.int fi), .val (.int (1 : Int32)), .val (.int (1 : Int32)), .val (.ref b183), .val (.int (sl1 ((b0.toInt8.toInt32).toInt8.toInt32)))] [(.int (255 : Int32)), (.int b3), (.int (b2 &&& (255 : Int32))), (.int (b1 &&& (255 : Int32))), (.int (b0 &&& (255 : Int32))), (.int (sl1 ((b0.toInt8.toInt32).toInt8.toInt32)))])) (fun _ kq => XS.sipush X189.here hx rfl (hb hby at_117) kq) ?_
      refine own_st (T' := T189) (F' := (mkF m 121 #[.val (.int b0), .val (.int b1), .val (.int b2), .val (.int b3), .val (.int sh), .val (.int fi), .val (.int (1 : Int32)), .val (.int (1 : Int32)), .val (.ref b183), .val (.int (sl1 ((b0.toInt8.toInt32).toInt8.toInt32)))] [(.int (b3 &&& (255 : Int32))), (.int (b2 &&& (255 : Int32))), (.int (b1 &&& (255 : Int32))), (.int (b0 &&& (255 : Int32))), (.int (sl1 ((b0.toInt8.toInt32).toInt8.toInt32)))])) (fun _ kq => XS.iand X189.here hx rfl (hb hby at_120) rfl kq) ?_
      refine own_st (T' := T189) (F' := (mkF m 123 #[.val (.int b0), .val (.int b1), .val (.int b2), .val (.int b3), .val (.int sh), .val (.int fi), .val (.int (1 : Int32)), .val (.int (1 : Int32)), .val (.ref b183), .val (.int (sl1 ((b0.toInt8.toInt32).toInt8.toInt32)))] [(.int (1 : Int32)), (.int (b3 &&& (255 : Int32))), (.int (b2 &&& (255 : Int32))), (.int (b1 &&& (255 : Int32))), (.int (b0 &&& (255 : Int32))), (.int (sl1 ((b0.toInt8.toInt32).toInt8.toInt32)))])) (fun _ kq => XS.iload X189.here hx rfl (hb hby at_121) rfl kq) ?_
      obtain ⟨T190, locs190, X190, e190, N190, st190⟩ := own_callP X189 hx hZ 1 hown (hw _ (List.mem_of_getElem? (i := 5) rfl)) (hw _ (List.mem_of_getElem? (i := 6) rfl)) (hw _ (List.mem_of_getElem? (i := 7) rfl)) (hw _ (List.mem_of_getElem? (i := 8) rfl)) (by decide) (rm2 l Z a0 hw [] (b0 &&& (255 : Int32)) (b1 &&& (255 : Int32)) (b2 &&& (255 : Int32)) (b3 &&& (255 : Int32)) (1 : Int32) h187 n0) (by decide) (by decide) rfl rfl e189 N189 (by decide) (by decide) (g := (mkF m 123 #[.val (.int b0), .val (.int b1), .val (.int b2), .val (.int b3), .val (.int sh), .val (.int fi), .val (.int (1 : Int32)), .val (.int (1 : Int32)), .val (.ref b183), .val (.int (sl1 ((b0.toInt8.toInt32).toInt8.toInt32)))] [(.int (1 : Int32)), (.int (b3 &&& (255 : Int32))), (.int (b2 &&& (255 : Int32))), (.int (b1 &&& (255 : Int32))), (.int (b0 &&& (255 : Int32))), (.int (sl1 ((b0.toInt8.toInt32).toInt8.toInt32)))])) rfl (by rw [hml]; rfl) (argsL := [(.int (b0 &&& (255 : Int32))), (.int (b1 &&& (255 : Int32))), (.int (b2 &&& (255 : Int32))), (.int (b3 &&& (255 : Int32))), (.int (1 : Int32))]) (rest := [(.int (sl1 ((b0.toInt8.toInt32).toInt8.toInt32)))]) (lenOf pd2 rfl) rfl rfl (by show 2 * 0 + _ ≤ _; exact Nat.le_of_eq rfl) (hb hby at_123)
      refine own_st (T' := T190) (F' := (mkF m 126 #[.val (.int b0), .val (.int b1), .val (.int b2), .val (.int b3), .val (.int sh), .val (.int fi), .val (.int (1 : Int32)), .val (.int (1 : Int32)), .val (.ref b183), .val (.int (sl1 ((b0.toInt8.toInt32).toInt8.toInt32)))] [(.int (f2 (b0 &&& (255 : Int32)) (b1 &&& (255 : Int32)) (b2 &&& (255 : Int32)) (b3 &&& (255 : Int32)) (1 : Int32))), (.int (sl1 ((b0.toInt8.toInt32).toInt8.toInt32)))])) (st190) ?_
      refine own_st (T' := T190) (F' := (mkF m 129 #[.val (.int b0), .val (.int b1), .val (.int b2), .val (.int b3), .val (.int sh), .val (.int fi), .val (.int (1 : Int32)), .val (.int (1 : Int32)), .val (.ref b183), .val (.int (sl1 ((b0.toInt8.toInt32).toInt8.toInt32)))] [])) (fun _ kq => XS.icmpNo X190.here hx rfl (hb hby at_126) rfl (teq (own_law1 b0 b1 b2 b3)).2 kq) ?_
      refine own_st (T' := T190) (F' := (mkF m 130 #[.val (.int b0), .val (.int b1), .val (.int b2), .val (.int b3), .val (.int sh), .val (.int fi), .val (.int (1 : Int32)), .val (.int (1 : Int32)), .val (.ref b183), .val (.int (sl1 ((b0.toInt8.toInt32).toInt8.toInt32)))] [(.int (1 : Int32))])) (fun _ kq => XS.iconst X190.here hx rfl (hb hby at_129) kq) ?_
      refine own_st (T' := T190) (F' := (mkF m 134 #[.val (.int b0), .val (.int b1), .val (.int b2), .val (.int b3), .val (.int sh), .val (.int fi), .val (.int (1 : Int32)), .val (.int (1 : Int32)), .val (.ref b183), .val (.int (sl1 ((b0.toInt8.toInt32).toInt8.toInt32)))] [(.int (1 : Int32))])) (fun _ kq => XS.goto X190.here hx rfl (pc0 := 130) (pc' := 134) rfl (hb hby at_130) (by decide) (by decide) kq) ?_
      exact own_retN X190 hx hlk hret (by simp) (hb hby at_134) (by decide) (by decide) ⟨rfl, N190⟩
    ·
      refine own_st (T' := T0) (F' := (mkF m 16 #[.val (.int b0), .val (.int b1), .val (.int b2), .val (.int b3), .val (.int sh), .val (.int fi), .val (.int (1 : Int32)), .val (.int (2 : Int32)), .unset, .unset] [])) (fun _ kq => XS.istore X0.here hx rfl (hb hby at_14) rfl (l' := #[.val (.int b0), .val (.int b1), .val (.int b2), .val (.int b3), .val (.int sh), .val (.int fi), .val (.int (1 : Int32)), .val (.int (2 : Int32)), .unset, .unset]) rfl kq) ?_
      refine own_st (T' := T0) (F' := (mkF m 18 #[.val (.int b0), .val (.int b1), .val (.int b2), .val (.int b3), .val (.int sh), .val (.int fi), .val (.int (1 : Int32)), .val (.int (2 : Int32)), .unset, .unset] [(.int (1 : Int32))])) (fun _ kq => XS.iload X0.here hx rfl (hb hby at_16) rfl kq) ?_
      refine own_st (T' := T0) (F' := (mkF m 20 #[.val (.int b0), .val (.int b1), .val (.int b2), .val (.int b3), .val (.int sh), .val (.int fi), .val (.int (1 : Int32)), .val (.int (2 : Int32)), .unset, .unset] [(.int (2 : Int32)), (.int (1 : Int32))])) (fun _ kq => XS.iload X0.here hx rfl (hb hby at_18) rfl kq) ?_
      refine own_st (T' := T0) (F' := (mkF m 21 #[.val (.int b0), .val (.int b1), .val (.int b2), .val (.int b3), .val (.int sh), .val (.int fi), .val (.int (1 : Int32)), .val (.int (2 : Int32)), .unset, .unset] [(.int (3 : Int32))])) (fun _ kq => XS.iadd X0.here hx rfl (hb hby at_20) rfl kq) ?_
      obtain ⟨T191, h191, b191, X191, e191, E191, g191, gb191, Z191, V191, st191⟩ := own_newI X0 hx hZ (aty := .byte) (hw _ (List.mem_of_getElem? (i := 0) rfl)) e0 Z0 (g := (mkF m 21 #[.val (.int b0), .val (.int b1), .val (.int b2), .val (.int b3), .val (.int sh), .val (.int fi), .val (.int (1 : Int32)), .val (.int (2 : Int32)), .unset, .unset] [(.int (3 : Int32))])) rfl rfl (hb hby at_21) rfl (by decide) 3 3 rfl (by decide) (by decide) (by decide) (by decide)
      refine own_st (T' := T191) (F' := (mkF m 23 #[.val (.int b0), .val (.int b1), .val (.int b2), .val (.int b3), .val (.int sh), .val (.int fi), .val (.int (1 : Int32)), .val (.int (2 : Int32)), .unset, .unset] [(.ref b191)])) (st191) ?_
      refine own_st (T' := T191) (F' := (mkF m 25 #[.val (.int b0), .val (.int b1), .val (.int b2), .val (.int b3), .val (.int sh), .val (.int fi), .val (.int (1 : Int32)), .val (.int (2 : Int32)), .val (.ref b191), .unset] [])) (fun _ kq => XS.astore X191.here hx rfl (hb hby at_23) rfl rfl (l' := #[.val (.int b0), .val (.int b1), .val (.int b2), .val (.int b3), .val (.int sh), .val (.int fi), .val (.int (1 : Int32)), .val (.int (2 : Int32)), .val (.ref b191), .unset]) rfl kq) ?_
      refine own_st (T' := T191) (F' := (mkF m 27 #[.val (.int b0), .val (.int b1), .val (.int b2), .val (.int b3), .val (.int sh), .val (.int fi), .val (.int (1 : Int32)), .val (.int (2 : Int32)), .val (.ref b191), .unset] [(.int (1 : Int32))])) (fun _ kq => XS.iload X191.here hx rfl (hb hby at_25) rfl kq) ?_
      refine own_st (T' := T191) (F' := (mkF m 28 #[.val (.int b0), .val (.int b1), .val (.int b2), .val (.int b3), .val (.int sh), .val (.int fi), .val (.int (1 : Int32)), .val (.int (2 : Int32)), .val (.ref b191), .unset] [(.int (1 : Int32)), (.int (1 : Int32))])) (fun _ kq => XS.iconst X191.here hx rfl (hb hby at_27) kq) ?_
      refine own_st (T' := T191) (F' := (mkF m 31 #[.val (.int b0), .val (.int b1), .val (.int b2), .val (.int b3), .val (.int sh), .val (.int fi), .val (.int (1 : Int32)), .val (.int (2 : Int32)), .val (.ref b191), .unset] [])) (fun _ kq => XS.icmpNo X191.here hx rfl (hb hby at_28) rfl (teq (rfl : (1 : Int32) = (1 : Int32))).2 kq) ?_
      refine own_st (T' := T191) (F' := (mkF m 33 #[.val (.int b0), .val (.int b1), .val (.int b2), .val (.int b3), .val (.int sh), .val (.int fi), .val (.int (1 : Int32)), .val (.int (2 : Int32)), .val (.ref b191), .unset] [(.ref b191)])) (fun _ kq => XS.aload X191.here hx rfl (hb hby at_31) rfl rfl kq) ?_
      refine own_st (T' := T191) (F' := (mkF m 34 #[.val (.int b0), .val (.int b1), .val (.int b2), .val (.int b3), .val (.int sh), .val (.int fi), .val (.int (1 : Int32)), .val (.int (2 : Int32)), .val (.ref b191), .unset] [(.int (0 : Int32)), (.ref b191)])) (fun _ kq => XS.iconst X191.here hx rfl (hb hby at_33) kq) ?_
      refine own_st (T' := T191) (F' := (mkF m 36 #[.val (.int b0), .val (.int b1), .val (.int b2), .val (.int b3), .val (.int sh), .val (.int fi), .val (.int (1 : Int32)), .val (.int (2 : Int32)), .val (.ref b191), .unset] [(.int fi), (.int (0 : Int32)), (.ref b191)])) (fun _ kq => XS.iload X191.here hx rfl (hb hby at_34) rfl kq) ?_
      refine own_st (T' := T191) (F' := (mkF m 37 #[.val (.int b0), .val (.int b1), .val (.int b2), .val (.int b3), .val (.int sh), .val (.int fi), .val (.int (1 : Int32)), .val (.int (2 : Int32)), .val (.ref b191), .unset] [(.int (fi.toInt8.toInt32)), (.int (0 : Int32)), (.ref b191)])) (fun _ kq => XS.i2b X191.here hx rfl (hb hby at_36) rfl kq) ?_
      obtain ⟨T193, h193, locs193, X193, e193, N193, W193, V193, st193⟩ := own_stB X191 hx hZ e191 N0 (ys := [((fi.toInt8.toInt32).toInt8.toInt32), (0 : Int32), (0 : Int32)]) V191 gb191 (g := (mkF m 37 #[.val (.int b0), .val (.int b1), .val (.int b2), .val (.int b3), .val (.int sh), .val (.int fi), .val (.int (1 : Int32)), .val (.int (2 : Int32)), .val (.ref b191), .unset] [(.int (fi.toInt8.toInt32)), (.int (0 : Int32)), (.ref b191)])) rfl rfl (hb hby at_37) (by decide) (Nat.le_of_ble_eq_true rfl) rfl
      have Z193 : n0 ≤ h193.size := by rw [W193.size]; exact Z191
      refine own_st (T' := T193) (F' := (mkF m 38 #[.val (.int b0), .val (.int b1), .val (.int b2), .val (.int b3), .val (.int sh), .val (.int fi), .val (.int (1 : Int32)), .val (.int (2 : Int32)), .val (.ref b191), .unset] [])) (st193) ?_
      refine own_st (T' := T193) (F' := (mkF m 40 #[.val (.int b0), .val (.int b1), .val (.int b2), .val (.int b3), .val (.int sh), .val (.int fi), .val (.int (1 : Int32)), .val (.int (2 : Int32)), .val (.ref b191), .unset] [(.ref b191)])) (fun _ kq => XS.aload X193.here hx rfl (hb hby at_38) rfl rfl kq) ?_
      refine own_st (T' := T193) (F' := (mkF m 42 #[.val (.int b0), .val (.int b1), .val (.int b2), .val (.int b3), .val (.int sh), .val (.int fi), .val (.int (1 : Int32)), .val (.int (2 : Int32)), .val (.ref b191), .unset] [(.int (1 : Int32)), (.ref b191)])) (fun _ kq => XS.iload X193.here hx rfl (hb hby at_40) rfl kq) ?_
      refine own_st (T' := T193) (F' := (mkF m 43 #[.val (.int b0), .val (.int b1), .val (.int b2), .val (.int b3), .val (.int sh), .val (.int fi), .val (.int (1 : Int32)), .val (.int (2 : Int32)), .val (.ref b191), .unset] [(.int b0), (.int (1 : Int32)), (.ref b191)])) (fun _ kq => XS.iloadN X193.here hx rfl (hb hby at_42) rfl kq) ?_
      refine own_st (T' := T193) (F' := (mkF m 44 #[.val (.int b0), .val (.int b1), .val (.int b2), .val (.int b3), .val (.int sh), .val (.int fi), .val (.int (1 : Int32)), .val (.int (2 : Int32)), .val (.ref b191), .unset] [(.int (b0.toInt8.toInt32)), (.int (1 : Int32)), (.ref b191)])) (fun _ kq => XS.i2b X193.here hx rfl (hb hby at_43) rfl kq) ?_
      obtain ⟨T195, h195, locs195, X195, e195, N195, W195, V195, st195⟩ := own_stB X193 hx hZ e193 N193 (ys := [((fi.toInt8.toInt32).toInt8.toInt32), ((b0.toInt8.toInt32).toInt8.toInt32), (0 : Int32)]) V193 gb191 (g := (mkF m 44 #[.val (.int b0), .val (.int b1), .val (.int b2), .val (.int b3), .val (.int sh), .val (.int fi), .val (.int (1 : Int32)), .val (.int (2 : Int32)), .val (.ref b191), .unset] [(.int (b0.toInt8.toInt32)), (.int (1 : Int32)), (.ref b191)])) rfl rfl (hb hby at_44) (by decide) (Nat.le_of_ble_eq_true rfl) rfl
      have Z195 : n0 ≤ h195.size := by rw [W195.size]; exact Z193
      refine own_st (T' := T195) (F' := (mkF m 45 #[.val (.int b0), .val (.int b1), .val (.int b2), .val (.int b3), .val (.int sh), .val (.int fi), .val (.int (1 : Int32)), .val (.int (2 : Int32)), .val (.ref b191), .unset] [])) (st195) ?_
      refine own_st (T' := T195) (F' := (mkF m 47 #[.val (.int b0), .val (.int b1), .val (.int b2), .val (.int b3), .val (.int sh), .val (.int fi), .val (.int (1 : Int32)), .val (.int (2 : Int32)), .val (.ref b191), .unset] [(.int (2 : Int32))])) (fun _ kq => XS.iload X195.here hx rfl (hb hby at_45) rfl kq) ?_
      refine own_st (T' := T195) (F' := (mkF m 48 #[.val (.int b0), .val (.int b1), .val (.int b2), .val (.int b3), .val (.int sh), .val (.int fi), .val (.int (1 : Int32)), .val (.int (2 : Int32)), .val (.ref b191), .unset] [(.int (1 : Int32)), (.int (2 : Int32))])) (fun _ kq => XS.iconst X195.here hx rfl (hb hby at_47) kq) ?_
      refine own_st (T' := T195) (F' := (mkF m 51 #[.val (.int b0), .val (.int b1), .val (.int b2), .val (.int b3), .val (.int sh), .val (.int fi), .val (.int (1 : Int32)), .val (.int (2 : Int32)), .val (.ref b191), .unset] [])) (fun _ kq => XS.icmpNo X195.here hx rfl (hb hby at_48) rfl (tlt (by decide : (1 : Int32) < (2 : Int32))).2.2.2 kq) ?_
      refine own_st (T' := T195) (F' := (mkF m 53 #[.val (.int b0), .val (.int b1), .val (.int b2), .val (.int b3), .val (.int sh), .val (.int fi), .val (.int (1 : Int32)), .val (.int (2 : Int32)), .val (.ref b191), .unset] [(.ref b191)])) (fun _ kq => XS.aload X195.here hx rfl (hb hby at_51) rfl rfl kq) ?_
      refine own_st (T' := T195) (F' := (mkF m 55 #[.val (.int b0), .val (.int b1), .val (.int b2), .val (.int b3), .val (.int sh), .val (.int fi), .val (.int (1 : Int32)), .val (.int (2 : Int32)), .val (.ref b191), .unset] [(.int (1 : Int32)), (.ref b191)])) (fun _ kq => XS.iload X195.here hx rfl (hb hby at_53) rfl kq) ?_
      refine own_st (T' := T195) (F' := (mkF m 56 #[.val (.int b0), .val (.int b1), .val (.int b2), .val (.int b3), .val (.int sh), .val (.int fi), .val (.int (1 : Int32)), .val (.int (2 : Int32)), .val (.ref b191), .unset] [(.int (1 : Int32)), (.int (1 : Int32)), (.ref b191)])) (fun _ kq => XS.iconst X195.here hx rfl (hb hby at_55) kq) ?_
      refine own_st (T' := T195) (F' := (mkF m 57 #[.val (.int b0), .val (.int b1), .val (.int b2), .val (.int b3), .val (.int sh), .val (.int fi), .val (.int (1 : Int32)), .val (.int (2 : Int32)), .val (.ref b191), .unset] [(.int (2 : Int32)), (.ref b191)])) (fun _ kq => XS.iadd X195.here hx rfl (hb hby at_56) rfl kq) ?_
      refine own_st (T' := T195) (F' := (mkF m 58 #[.val (.int b0), .val (.int b1), .val (.int b2), .val (.int b3), .val (.int sh), .val (.int fi), .val (.int (1 : Int32)), .val (.int (2 : Int32)), .val (.ref b191), .unset] [(.int b1), (.int (2 : Int32)), (.ref b191)])) (fun _ kq => XS.iloadN X195.here hx rfl (hb hby at_57) rfl kq) ?_
      refine own_st (T' := T195) (F' := (mkF m 59 #[.val (.int b0), .val (.int b1), .val (.int b2), .val (.int b3), .val (.int sh), .val (.int fi), .val (.int (1 : Int32)), .val (.int (2 : Int32)), .val (.ref b191), .unset] [(.int (b1.toInt8.toInt32)), (.int (2 : Int32)), (.ref b191)])) (fun _ kq => XS.i2b X195.here hx rfl (hb hby at_58) rfl kq) ?_
      obtain ⟨T197, h197, locs197, X197, e197, N197, W197, V197, st197⟩ := own_stB X195 hx hZ e195 N195 (ys := [((fi.toInt8.toInt32).toInt8.toInt32), ((b0.toInt8.toInt32).toInt8.toInt32), ((b1.toInt8.toInt32).toInt8.toInt32)]) V195 gb191 (g := (mkF m 59 #[.val (.int b0), .val (.int b1), .val (.int b2), .val (.int b3), .val (.int sh), .val (.int fi), .val (.int (1 : Int32)), .val (.int (2 : Int32)), .val (.ref b191), .unset] [(.int (b1.toInt8.toInt32)), (.int (2 : Int32)), (.ref b191)])) rfl rfl (hb hby at_59) (by decide) (Nat.le_of_ble_eq_true rfl) rfl
      have Z197 : n0 ≤ h197.size := by rw [W197.size]; exact Z195
      refine own_st (T' := T197) (F' := (mkF m 60 #[.val (.int b0), .val (.int b1), .val (.int b2), .val (.int b3), .val (.int sh), .val (.int fi), .val (.int (1 : Int32)), .val (.int (2 : Int32)), .val (.ref b191), .unset] [])) (st197) ?_
      refine own_st (T' := T197) (F' := (mkF m 62 #[.val (.int b0), .val (.int b1), .val (.int b2), .val (.int b3), .val (.int sh), .val (.int fi), .val (.int (1 : Int32)), .val (.int (2 : Int32)), .val (.ref b191), .unset] [(.int (2 : Int32))])) (fun _ kq => XS.iload X197.here hx rfl (hb hby at_60) rfl kq) ?_
      refine own_st (T' := T197) (F' := (mkF m 63 #[.val (.int b0), .val (.int b1), .val (.int b2), .val (.int b3), .val (.int sh), .val (.int fi), .val (.int (1 : Int32)), .val (.int (2 : Int32)), .val (.ref b191), .unset] [(.int (2 : Int32)), (.int (2 : Int32))])) (fun _ kq => XS.iconst X197.here hx rfl (hb hby at_62) kq) ?_
      refine own_st (T' := T197) (F' := (mkF m 75 #[.val (.int b0), .val (.int b1), .val (.int b2), .val (.int b3), .val (.int sh), .val (.int fi), .val (.int (1 : Int32)), .val (.int (2 : Int32)), .val (.ref b191), .unset] [])) (fun _ kq => XS.icmpYes X197.here hx rfl (pc0 := 63) (pc' := 75) rfl (hb hby at_63) rfl (flt (by decide : ¬ ((2 : Int32) < (2 : Int32)))).2.2.2 (by decide) (by decide) kq) ?_
      refine own_st (T' := T197) (F' := (mkF m 77 #[.val (.int b0), .val (.int b1), .val (.int b2), .val (.int b3), .val (.int sh), .val (.int fi), .val (.int (1 : Int32)), .val (.int (2 : Int32)), .val (.ref b191), .unset] [(.int (2 : Int32))])) (fun _ kq => XS.iload X197.here hx rfl (hb hby at_75) rfl kq) ?_
      refine own_st (T' := T197) (F' := (mkF m 78 #[.val (.int b0), .val (.int b1), .val (.int b2), .val (.int b3), .val (.int sh), .val (.int fi), .val (.int (1 : Int32)), .val (.int (2 : Int32)), .val (.ref b191), .unset] [(.int (3 : Int32)), (.int (2 : Int32))])) (fun _ kq => XS.iconst X197.here hx rfl (hb hby at_77) kq) ?_
      refine own_st (T' := T197) (F' := (mkF m 90 #[.val (.int b0), .val (.int b1), .val (.int b2), .val (.int b3), .val (.int sh), .val (.int fi), .val (.int (1 : Int32)), .val (.int (2 : Int32)), .val (.ref b191), .unset] [])) (fun _ kq => XS.icmpYes X197.here hx rfl (pc0 := 78) (pc' := 90) rfl (hb hby at_78) rfl (flt (by decide : ¬ ((3 : Int32) < (2 : Int32)))).2.2.2 (by decide) (by decide) kq) ?_
      refine own_st (T' := T197) (F' := (mkF m 92 #[.val (.int b0), .val (.int b1), .val (.int b2), .val (.int b3), .val (.int sh), .val (.int fi), .val (.int (1 : Int32)), .val (.int (2 : Int32)), .val (.ref b191), .unset] [(.ref b191)])) (fun _ kq => XS.aload X197.here hx rfl (hb hby at_90) rfl rfl kq) ?_
      refine own_st (T' := T197) (F' := (mkF m 94 #[.val (.int b0), .val (.int b1), .val (.int b2), .val (.int b3), .val (.int sh), .val (.int fi), .val (.int (1 : Int32)), .val (.int (2 : Int32)), .val (.ref b191), .unset] [(.int (1 : Int32)), (.ref b191)])) (fun _ kq => XS.iload X197.here hx rfl (hb hby at_92) rfl kq) ?_
      obtain ⟨T199, locs199, X199, e199, N199, st199⟩ := own_callP X197 hx hZ 0 hown (hw _ (List.mem_of_getElem? (i := 1) rfl)) (hw _ (List.mem_of_getElem? (i := 2) rfl)) (hw _ (List.mem_of_getElem? (i := 3) rfl)) (hw _ (List.mem_of_getElem? (i := 4) rfl)) (by decide) (rm1_1_2 l Z a0 hw [] b191 ((fi.toInt8.toInt32).toInt8.toInt32) ((b0.toInt8.toInt32).toInt8.toInt32) ((b1.toInt8.toInt32).toInt8.toInt32) h197 n0 V197) (by decide) (by decide) rfl rfl e197 N197 (by decide) (by decide) (g := (mkF m 94 #[.val (.int b0), .val (.int b1), .val (.int b2), .val (.int b3), .val (.int sh), .val (.int fi), .val (.int (1 : Int32)), .val (.int (2 : Int32)), .val (.ref b191), .unset] [(.int (1 : Int32)), (.ref b191)])) rfl (by rw [hml]; rfl) (argsL := [(.ref b191), (.int (1 : Int32))]) (rest := []) (lenOf pd1 rfl) rfl rfl (by show 2 * 0 + _ ≤ _; exact Nat.le_of_eq rfl) (hb hby at_94)
      refine own_st (T' := T199) (F' := (mkF m 97 #[.val (.int b0), .val (.int b1), .val (.int b2), .val (.int b3), .val (.int sh), .val (.int fi), .val (.int (1 : Int32)), .val (.int (2 : Int32)), .val (.ref b191), .unset] [(.int (sl2 ((b0.toInt8.toInt32).toInt8.toInt32) ((b1.toInt8.toInt32).toInt8.toInt32)))])) (st199) ?_
      refine own_st (T' := T199) (F' := (mkF m 99 #[.val (.int b0), .val (.int b1), .val (.int b2), .val (.int b3), .val (.int sh), .val (.int fi), .val (.int (1 : Int32)), .val (.int (2 : Int32)), .val (.ref b191), .val (.int (sl2 ((b0.toInt8.toInt32).toInt8.toInt32) ((b1.toInt8.toInt32).toInt8.toInt32)))] [])) (fun _ kq => XS.istore X199.here hx rfl (hb hby at_97) rfl (l' := #[.val (.int b0), .val (.int b1), .val (.int b2), .val (.int b3), .val (.int sh), .val (.int fi), .val (.int (1 : Int32)), .val (.int (2 : Int32)), .val (.ref b191), .val (.int (sl2 ((b0.toInt8.toInt32).toInt8.toInt32) ((b1.toInt8.toInt32).toInt8.toInt32)))]) rfl kq) ?_
      refine own_st (T' := T199) (F' := (mkF m 101 #[.val (.int b0), .val (.int b1), .val (.int b2), .val (.int b3), .val (.int sh), .val (.int fi), .val (.int (1 : Int32)), .val (.int (2 : Int32)), .val (.ref b191), .val (.int (sl2 ((b0.toInt8.toInt32).toInt8.toInt32) ((b1.toInt8.toInt32).toInt8.toInt32)))] [(.int (sl2 ((b0.toInt8.toInt32).toInt8.toInt32) ((b1.toInt8.toInt32).toInt8.toInt32)))])) (fun _ kq => XS.iload X199.here hx rfl (hb hby at_99) rfl kq) ?_
      refine own_st (T' := T199) (F' := (mkF m 102 #[.val (.int b0), .val (.int b1), .val (.int b2), .val (.int b3), .val (.int sh), .val (.int fi), .val (.int (1 : Int32)), .val (.int (2 : Int32)), .val (.ref b191), .val (.int (sl2 ((b0.toInt8.toInt32).toInt8.toInt32) ((b1.toInt8.toInt32).toInt8.toInt32)))] [(.int b0), (.int (sl2 ((b0.toInt8.toInt32).toInt8.toInt32) ((b1.toInt8.toInt32).toInt8.toInt32)))])) (fun _ kq => XS.iloadN X199.here hx rfl (hb hby at_101) rfl kq) ?_
      refine own_st (T' := T199) (F' := (mkF m 105 #[.val (.int b0), .val (.int b1), .val (.int b2), .val (.int b3), .val (.int sh), .val (.int fi), .val (.int (1 : Int32)), .val (.int (2 : Int32)), .val (.ref b191), .val (.int (sl2 ((b0.toInt8.toInt32).toInt8.toInt32) ((b1.toInt8.toInt32).toInt8.toInt32)))] [(.int (255 : Int32)), (.int b0), (.int (sl2 ((b0.toInt8.toInt32).toInt8.toInt32) ((b1.toInt8.toInt32).toInt8.toInt32)))])) (fun _ kq => XS.sipush X199.here hx rfl (hb hby at_102) kq) ?_
      refine own_st (T' := T199) (F' := (mkF m 106 #[.val (.int b0), .val (.int b1), .val (.int b2), .val (.int b3), .val (.int sh), .val (.int fi), .val (.int (1 : Int32)), .val (.int (2 : Int32)), .val (.ref b191), .val (.int (sl2 ((b0.toInt8.toInt32).toInt8.toInt32) ((b1.toInt8.toInt32).toInt8.toInt32)))] [(.int (b0 &&& (255 : Int32))), (.int (sl2 ((b0.toInt8.toInt32).toInt8.toInt32) ((b1.toInt8.toInt32).toInt8.toInt32)))])) (fun _ kq => XS.iand X199.here hx rfl (hb hby at_105) rfl kq) ?_
      refine own_st (T' := T199) (F' := (mkF m 107 #[.val (.int b0), .val (.int b1), .val (.int b2), .val (.int b3), .val (.int sh), .val (.int fi), .val (.int (1 : Int32)), .val (.int (2 : Int32)), .val (.ref b191), .val (.int (sl2 ((b0.toInt8.toInt32).toInt8.toInt32) ((b1.toInt8.toInt32).toInt8.toInt32)))] [(.int b1), (.int (b0 &&& (255 : Int32))), (.int (sl2 ((b0.toInt8.toInt32).toInt8.toInt32) ((b1.toInt8.toInt32).toInt8.toInt32)))])) (fun _ kq => XS.iloadN X199.here hx rfl (hb hby at_106) rfl kq) ?_
      refine own_st (T' := T199) (F' := (mkF m 110 #[.val (.int b0), .val (.int b1), .val (.int b2), .val (.int b3), .val (.int sh), .val (.int fi), .val (.int (1 : Int32)), .val (.int (2 : Int32)), .val (.ref b191), .val (.int (sl2 ((b0.toInt8.toInt32).toInt8.toInt32) ((b1.toInt8.toInt32).toInt8.toInt32)))] [(.int (255 : Int32)), (.int b1), (.int (b0 &&& (255 : Int32))), (.int (sl2 ((b0.toInt8.toInt32).toInt8.toInt32) ((b1.toInt8.toInt32).toInt8.toInt32)))])) (fun _ kq => XS.sipush X199.here hx rfl (hb hby at_107) kq) ?_
      refine own_st (T' := T199) (F' := (mkF m 111 #[.val (.int b0), .val (.int b1), .val (.int b2), .val (.int b3), .val (.int sh), .val (.int fi), .val (.int (1 : Int32)), .val (.int (2 : Int32)), .val (.ref b191), .val (.int (sl2 ((b0.toInt8.toInt32).toInt8.toInt32) ((b1.toInt8.toInt32).toInt8.toInt32)))] [(.int (b1 &&& (255 : Int32))), (.int (b0 &&& (255 : Int32))), (.int (sl2 ((b0.toInt8.toInt32).toInt8.toInt32) ((b1.toInt8.toInt32).toInt8.toInt32)))])) (fun _ kq => XS.iand X199.here hx rfl (hb hby at_110) rfl kq) ?_
      refine own_st (T' := T199) (F' := (mkF m 112 #[.val (.int b0), .val (.int b1), .val (.int b2), .val (.int b3), .val (.int sh), .val (.int fi), .val (.int (1 : Int32)), .val (.int (2 : Int32)), .val (.ref b191), .val (.int (sl2 ((b0.toInt8.toInt32).toInt8.toInt32) ((b1.toInt8.toInt32).toInt8.toInt32)))] [(.int b2), (.int (b1 &&& (255 : Int32))), (.int (b0 &&& (255 : Int32))), (.int (sl2 ((b0.toInt8.toInt32).toInt8.toInt32) ((b1.toInt8.toInt32).toInt8.toInt32)))])) (fun _ kq => XS.iloadN X199.here hx rfl (hb hby at_111) rfl kq) ?_
      refine own_st (T' := T199) (F' := (mkF m 115 #[.val (.int b0), .val (.int b1), .val (.int b2), .val (.int b3), .val (.int sh), .val (.int fi), .val (.int (1 : Int32)), .val (.int (2 : Int32)), .val (.ref b191), .val (.int (sl2 ((b0.toInt8.toInt32).toInt8.toInt32) ((b1.toInt8.toInt32).toInt8.toInt32)))] [(.int (255 : Int32)), (.int b2), (.int (b1 &&& (255 : Int32))), (.int (b0 &&& (255 : Int32))), (.int (sl2 ((b0.toInt8.toInt32).toInt8.toInt32) ((b1.toInt8.toInt32).toInt8.toInt32)))])) (fun _ kq => XS.sipush X199.here hx rfl (hb hby at_112) kq) ?_
      refine own_st (T' := T199) (F' := (mkF m 116 #[.val (.int b0), .val (.int b1), .val (.int b2), .val (.int b3), .val (.int sh), .val (.int fi), .val (.int (1 : Int32)), .val (.int (2 : Int32)), .val (.ref b191), .val (.int (sl2 ((b0.toInt8.toInt32).toInt8.toInt32) ((b1.toInt8.toInt32).toInt8.toInt32)))] [(.int (b2 &&& (255 : Int32))), (.int (b1 &&& (255 : Int32))), (.int (b0 &&& (255 : Int32))), (.int (sl2 ((b0.toInt8.toInt32).toInt8.toInt32) ((b1.toInt8.toInt32).toInt8.toInt32)))])) (fun _ kq => XS.iand X199.here hx rfl (hb hby at_115) rfl kq) ?_
      refine own_st (T' := T199) (F' := (mkF m 117 #[.val (.int b0), .val (.int b1), .val (.int b2), .val (.int b3), .val (.int sh), .val (.int fi), .val (.int (1 : Int32)), .val (.int (2 : Int32)), .val (.ref b191), .val (.int (sl2 ((b0.toInt8.toInt32).toInt8.toInt32) ((b1.toInt8.toInt32).toInt8.toInt32)))] [(.int b3), (.int (b2 &&& (255 : Int32))), (.int (b1 &&& (255 : Int32))), (.int (b0 &&& (255 : Int32))), (.int (sl2 ((b0.toInt8.toInt32).toInt8.toInt32) ((b1.toInt8.toInt32).toInt8.toInt32)))])) (fun _ kq => XS.iloadN X199.here hx rfl (hb hby at_116) rfl kq) ?_
      refine own_st (T' := T199) (F' := (mkF m 120 #[.val (.int b0), .val (.int b1), .val (.int b2), .val (.int b3), .val (.int sh), .val (.int fi), .val (.int (1 : Int32)), .val (.int (2 : Int32)), .val (.ref b191), .val (.int (sl2 ((b0.toInt8.toInt32).toInt8.toInt32) ((b1.toInt8.toInt32).toInt8.toInt32)))] [(.int (255 : Int32)), (.int b3), (.int (b2 &&& (255 : Int32))), (.int (b1 &&& (255 : Int32))), (.int (b0 &&& (255 : Int32))), (.int (sl2 ((b0.toInt8.toInt32).toInt8.toInt32) ((b1.toInt8.toInt32).toInt8.toInt32)))])) (fun _ kq => XS.sipush X199.here hx rfl (hb hby at_117) kq) ?_
      refine own_st (T' := T199) (F' := (mkF m 121 #[.val (.int b0), .val (.int b1), .val (.int b2), .val (.int b3), .val (.int sh), .val (.int fi), .val (.int (1 : Int32)), .val (.int (2 : Int32)), .val (.ref b191), .val (.int (sl2 ((b0.toInt8.toInt32).toInt8.toInt32) ((b1.toInt8.toInt32).toInt8.toInt32)))] [(.int (b3 &&& (255 : Int32))), (.int (b2 &&& (255 : Int32))), (.int (b1 &&& (255 : Int32))), (.int (b0 &&& (255 : Int32))), (.int (sl2 ((b0.toInt8.toInt32).toInt8.toInt32) ((b1.toInt8.toInt32).toInt8.toInt32)))])) (fun _ kq => XS.iand X199.here hx rfl (hb hby at_120) rfl kq) ?_
      refine own_st (T' := T199) (F' := (mkF m 123 #[.val (.int b0), .val (.int b1), .val (.int b2), .val (.int b3), .val (.int sh), .val (.int fi), .val (.int (1 : Int32)), .val (.int (2 : Int32)), .val (.ref b191), .val (.int (sl2 ((b0.toInt8.toInt32).toInt8.toInt32) ((b1.toInt8.toInt32).toInt8.toInt32)))] [(.int (2 : Int32)), (.int (b3 &&& (255 : Int32))), (.int (b2 &&& (255 : Int32))), (.int (b1 &&& (255 : Int32))), (.int (b0 &&& (255 : Int32))), (.int (sl2 ((b0.toInt8.toInt32).toInt8.toInt32) ((b1.toInt8.toInt32).toInt8.toInt32)))])) (fun _ kq => XS.iload X199.here hx rfl (hb hby at_121) rfl kq) ?_
      obtain ⟨T200, locs200, X200, e200, N200, st200⟩ := own_callP X199 hx hZ 1 hown (hw _ (List.mem_of_getElem? (i := 5) rfl)) (hw _ (List.mem_of_getElem? (i := 6) rfl)) (hw _ (List.mem_of_getElem? (i := 7) rfl)) (hw _ (List.mem_of_getElem? (i := 8) rfl)) (by decide) (rm2 l Z a0 hw [] (b0 &&& (255 : Int32)) (b1 &&& (255 : Int32)) (b2 &&& (255 : Int32)) (b3 &&& (255 : Int32)) (2 : Int32) h197 n0) (by decide) (by decide) rfl rfl e199 N199 (by decide) (by decide) (g := (mkF m 123 #[.val (.int b0), .val (.int b1), .val (.int b2), .val (.int b3), .val (.int sh), .val (.int fi), .val (.int (1 : Int32)), .val (.int (2 : Int32)), .val (.ref b191), .val (.int (sl2 ((b0.toInt8.toInt32).toInt8.toInt32) ((b1.toInt8.toInt32).toInt8.toInt32)))] [(.int (2 : Int32)), (.int (b3 &&& (255 : Int32))), (.int (b2 &&& (255 : Int32))), (.int (b1 &&& (255 : Int32))), (.int (b0 &&& (255 : Int32))), (.int (sl2 ((b0.toInt8.toInt32).toInt8.toInt32) ((b1.toInt8.toInt32).toInt8.toInt32)))])) rfl (by rw [hml]; rfl) (argsL := [(.int (b0 &&& (255 : Int32))), (.int (b1 &&& (255 : Int32))), (.int (b2 &&& (255 : Int32))), (.int (b3 &&& (255 : Int32))), (.int (2 : Int32))]) (rest := [(.int (sl2 ((b0.toInt8.toInt32).toInt8.toInt32) ((b1.toInt8.toInt32).toInt8.toInt32)))]) (lenOf pd2 rfl) rfl rfl (by show 2 * 0 + _ ≤ _; exact Nat.le_of_eq rfl) (hb hby at_123)
      refine own_st (T' := T200) (F' := (mkF m 126 #[.val (.int b0), .val (.int b1), .val (.int b2), .val (.int b3), .val (.int sh), .val (.int fi), .val (.int (1 : Int32)), .val (.int (2 : Int32)), .val (.ref b191), .val (.int (sl2 ((b0.toInt8.toInt32).toInt8.toInt32) ((b1.toInt8.toInt32).toInt8.toInt32)))] [(.int (f2 (b0 &&& (255 : Int32)) (b1 &&& (255 : Int32)) (b2 &&& (255 : Int32)) (b3 &&& (255 : Int32)) (2 : Int32))), (.int (sl2 ((b0.toInt8.toInt32).toInt8.toInt32) ((b1.toInt8.toInt32).toInt8.toInt32)))])) (st200) ?_
      refine own_st (T' := T200) (F' := (mkF m 129 #[.val (.int b0), .val (.int b1), .val (.int b2), .val (.int b3), .val (.int sh), .val (.int fi), .val (.int (1 : Int32)), .val (.int (2 : Int32)), .val (.ref b191), .val (.int (sl2 ((b0.toInt8.toInt32).toInt8.toInt32) ((b1.toInt8.toInt32).toInt8.toInt32)))] [])) (fun _ kq => XS.icmpNo X200.here hx rfl (hb hby at_126) rfl (teq (own_law2 b0 b1 b2 b3)).2 kq) ?_
      refine own_st (T' := T200) (F' := (mkF m 130 #[.val (.int b0), .val (.int b1), .val (.int b2), .val (.int b3), .val (.int sh), .val (.int fi), .val (.int (1 : Int32)), .val (.int (2 : Int32)), .val (.ref b191), .val (.int (sl2 ((b0.toInt8.toInt32).toInt8.toInt32) ((b1.toInt8.toInt32).toInt8.toInt32)))] [(.int (1 : Int32))])) (fun _ kq => XS.iconst X200.here hx rfl (hb hby at_129) kq) ?_
      refine own_st (T' := T200) (F' := (mkF m 134 #[.val (.int b0), .val (.int b1), .val (.int b2), .val (.int b3), .val (.int sh), .val (.int fi), .val (.int (1 : Int32)), .val (.int (2 : Int32)), .val (.ref b191), .val (.int (sl2 ((b0.toInt8.toInt32).toInt8.toInt32) ((b1.toInt8.toInt32).toInt8.toInt32)))] [(.int (1 : Int32))])) (fun _ kq => XS.goto X200.here hx rfl (pc0 := 130) (pc' := 134) rfl (hb hby at_130) (by decide) (by decide) kq) ?_
      exact own_retN X200 hx hlk hret (by simp) (hb hby at_134) (by decide) (by decide) ⟨rfl, N200⟩
    ·
      refine own_st (T' := T0) (F' := (mkF m 16 #[.val (.int b0), .val (.int b1), .val (.int b2), .val (.int b3), .val (.int sh), .val (.int fi), .val (.int (1 : Int32)), .val (.int (3 : Int32)), .unset, .unset] [])) (fun _ kq => XS.istore X0.here hx rfl (hb hby at_14) rfl (l' := #[.val (.int b0), .val (.int b1), .val (.int b2), .val (.int b3), .val (.int sh), .val (.int fi), .val (.int (1 : Int32)), .val (.int (3 : Int32)), .unset, .unset]) rfl kq) ?_
      refine own_st (T' := T0) (F' := (mkF m 18 #[.val (.int b0), .val (.int b1), .val (.int b2), .val (.int b3), .val (.int sh), .val (.int fi), .val (.int (1 : Int32)), .val (.int (3 : Int32)), .unset, .unset] [(.int (1 : Int32))])) (fun _ kq => XS.iload X0.here hx rfl (hb hby at_16) rfl kq) ?_
      refine own_st (T' := T0) (F' := (mkF m 20 #[.val (.int b0), .val (.int b1), .val (.int b2), .val (.int b3), .val (.int sh), .val (.int fi), .val (.int (1 : Int32)), .val (.int (3 : Int32)), .unset, .unset] [(.int (3 : Int32)), (.int (1 : Int32))])) (fun _ kq => XS.iload X0.here hx rfl (hb hby at_18) rfl kq) ?_
      refine own_st (T' := T0) (F' := (mkF m 21 #[.val (.int b0), .val (.int b1), .val (.int b2), .val (.int b3), .val (.int sh), .val (.int fi), .val (.int (1 : Int32)), .val (.int (3 : Int32)), .unset, .unset] [(.int (4 : Int32))])) (fun _ kq => XS.iadd X0.here hx rfl (hb hby at_20) rfl kq) ?_
      obtain ⟨T201, h201, b201, X201, e201, E201, g201, gb201, Z201, V201, st201⟩ := own_newI X0 hx hZ (aty := .byte) (hw _ (List.mem_of_getElem? (i := 0) rfl)) e0 Z0 (g := (mkF m 21 #[.val (.int b0), .val (.int b1), .val (.int b2), .val (.int b3), .val (.int sh), .val (.int fi), .val (.int (1 : Int32)), .val (.int (3 : Int32)), .unset, .unset] [(.int (4 : Int32))])) rfl rfl (hb hby at_21) rfl (by decide) 4 4 rfl (by decide) (by decide) (by decide) (by decide)
      refine own_st (T' := T201) (F' := (mkF m 23 #[.val (.int b0), .val (.int b1), .val (.int b2), .val (.int b3), .val (.int sh), .val (.int fi), .val (.int (1 : Int32)), .val (.int (3 : Int32)), .unset, .unset] [(.ref b201)])) (st201) ?_
      refine own_st (T' := T201) (F' := (mkF m 25 #[.val (.int b0), .val (.int b1), .val (.int b2), .val (.int b3), .val (.int sh), .val (.int fi), .val (.int (1 : Int32)), .val (.int (3 : Int32)), .val (.ref b201), .unset] [])) (fun _ kq => XS.astore X201.here hx rfl (hb hby at_23) rfl rfl (l' := #[.val (.int b0), .val (.int b1), .val (.int b2), .val (.int b3), .val (.int sh), .val (.int fi), .val (.int (1 : Int32)), .val (.int (3 : Int32)), .val (.ref b201), .unset]) rfl kq) ?_
      refine own_st (T' := T201) (F' := (mkF m 27 #[.val (.int b0), .val (.int b1), .val (.int b2), .val (.int b3), .val (.int sh), .val (.int fi), .val (.int (1 : Int32)), .val (.int (3 : Int32)), .val (.ref b201), .unset] [(.int (1 : Int32))])) (fun _ kq => XS.iload X201.here hx rfl (hb hby at_25) rfl kq) ?_
      refine own_st (T' := T201) (F' := (mkF m 28 #[.val (.int b0), .val (.int b1), .val (.int b2), .val (.int b3), .val (.int sh), .val (.int fi), .val (.int (1 : Int32)), .val (.int (3 : Int32)), .val (.ref b201), .unset] [(.int (1 : Int32)), (.int (1 : Int32))])) (fun _ kq => XS.iconst X201.here hx rfl (hb hby at_27) kq) ?_
      refine own_st (T' := T201) (F' := (mkF m 31 #[.val (.int b0), .val (.int b1), .val (.int b2), .val (.int b3), .val (.int sh), .val (.int fi), .val (.int (1 : Int32)), .val (.int (3 : Int32)), .val (.ref b201), .unset] [])) (fun _ kq => XS.icmpNo X201.here hx rfl (hb hby at_28) rfl (teq (rfl : (1 : Int32) = (1 : Int32))).2 kq) ?_
      refine own_st (T' := T201) (F' := (mkF m 33 #[.val (.int b0), .val (.int b1), .val (.int b2), .val (.int b3), .val (.int sh), .val (.int fi), .val (.int (1 : Int32)), .val (.int (3 : Int32)), .val (.ref b201), .unset] [(.ref b201)])) (fun _ kq => XS.aload X201.here hx rfl (hb hby at_31) rfl rfl kq) ?_
      refine own_st (T' := T201) (F' := (mkF m 34 #[.val (.int b0), .val (.int b1), .val (.int b2), .val (.int b3), .val (.int sh), .val (.int fi), .val (.int (1 : Int32)), .val (.int (3 : Int32)), .val (.ref b201), .unset] [(.int (0 : Int32)), (.ref b201)])) (fun _ kq => XS.iconst X201.here hx rfl (hb hby at_33) kq) ?_
      refine own_st (T' := T201) (F' := (mkF m 36 #[.val (.int b0), .val (.int b1), .val (.int b2), .val (.int b3), .val (.int sh), .val (.int fi), .val (.int (1 : Int32)), .val (.int (3 : Int32)), .val (.ref b201), .unset] [(.int fi), (.int (0 : Int32)), (.ref b201)])) (fun _ kq => XS.iload X201.here hx rfl (hb hby at_34) rfl kq) ?_
      refine own_st (T' := T201) (F' := (mkF m 37 #[.val (.int b0), .val (.int b1), .val (.int b2), .val (.int b3), .val (.int sh), .val (.int fi), .val (.int (1 : Int32)), .val (.int (3 : Int32)), .val (.ref b201), .unset] [(.int (fi.toInt8.toInt32)), (.int (0 : Int32)), (.ref b201)])) (fun _ kq => XS.i2b X201.here hx rfl (hb hby at_36) rfl kq) ?_
      obtain ⟨T203, h203, locs203, X203, e203, N203, W203, V203, st203⟩ := own_stB X201 hx hZ e201 N0 (ys := [((fi.toInt8.toInt32).toInt8.toInt32), (0 : Int32), (0 : Int32), (0 : Int32)]) V201 gb201 (g := (mkF m 37 #[.val (.int b0), .val (.int b1), .val (.int b2), .val (.int b3), .val (.int sh), .val (.int fi), .val (.int (1 : Int32)), .val (.int (3 : Int32)), .val (.ref b201), .unset] [(.int (fi.toInt8.toInt32)), (.int (0 : Int32)), (.ref b201)])) rfl rfl (hb hby at_37) (by decide) (Nat.le_of_ble_eq_true rfl) rfl
      have Z203 : n0 ≤ h203.size := by rw [W203.size]; exact Z201
      refine own_st (T' := T203) (F' := (mkF m 38 #[.val (.int b0), .val (.int b1), .val (.int b2), .val (.int b3), .val (.int sh), .val (.int fi), .val (.int (1 : Int32)), .val (.int (3 : Int32)), .val (.ref b201), .unset] [])) (st203) ?_
      refine own_st (T' := T203) (F' := (mkF m 40 #[.val (.int b0), .val (.int b1), .val (.int b2), .val (.int b3), .val (.int sh), .val (.int fi), .val (.int (1 : Int32)), .val (.int (3 : Int32)), .val (.ref b201), .unset] [(.ref b201)])) (fun _ kq => XS.aload X203.here hx rfl (hb hby at_38) rfl rfl kq) ?_
      refine own_st (T' := T203) (F' := (mkF m 42 #[.val (.int b0), .val (.int b1), .val (.int b2), .val (.int b3), .val (.int sh), .val (.int fi), .val (.int (1 : Int32)), .val (.int (3 : Int32)), .val (.ref b201), .unset] [(.int (1 : Int32)), (.ref b201)])) (fun _ kq => XS.iload X203.here hx rfl (hb hby at_40) rfl kq) ?_
      refine own_st (T' := T203) (F' := (mkF m 43 #[.val (.int b0), .val (.int b1), .val (.int b2), .val (.int b3), .val (.int sh), .val (.int fi), .val (.int (1 : Int32)), .val (.int (3 : Int32)), .val (.ref b201), .unset] [(.int b0), (.int (1 : Int32)), (.ref b201)])) (fun _ kq => XS.iloadN X203.here hx rfl (hb hby at_42) rfl kq) ?_
      refine own_st (T' := T203) (F' := (mkF m 44 #[.val (.int b0), .val (.int b1), .val (.int b2), .val (.int b3), .val (.int sh), .val (.int fi), .val (.int (1 : Int32)), .val (.int (3 : Int32)), .val (.ref b201), .unset] [(.int (b0.toInt8.toInt32)), (.int (1 : Int32)), (.ref b201)])) (fun _ kq => XS.i2b X203.here hx rfl (hb hby at_43) rfl kq) ?_
      obtain ⟨T205, h205, locs205, X205, e205, N205, W205, V205, st205⟩ := own_stB X203 hx hZ e203 N203 (ys := [((fi.toInt8.toInt32).toInt8.toInt32), ((b0.toInt8.toInt32).toInt8.toInt32), (0 : Int32), (0 : Int32)]) V203 gb201 (g := (mkF m 44 #[.val (.int b0), .val (.int b1), .val (.int b2), .val (.int b3), .val (.int sh), .val (.int fi), .val (.int (1 : Int32)), .val (.int (3 : Int32)), .val (.ref b201), .unset] [(.int (b0.toInt8.toInt32)), (.int (1 : Int32)), (.ref b201)])) rfl rfl (hb hby at_44) (by decide) (Nat.le_of_ble_eq_true rfl) rfl
      have Z205 : n0 ≤ h205.size := by rw [W205.size]; exact Z203
      refine own_st (T' := T205) (F' := (mkF m 45 #[.val (.int b0), .val (.int b1), .val (.int b2), .val (.int b3), .val (.int sh), .val (.int fi), .val (.int (1 : Int32)), .val (.int (3 : Int32)), .val (.ref b201), .unset] [])) (st205) ?_
      refine own_st (T' := T205) (F' := (mkF m 47 #[.val (.int b0), .val (.int b1), .val (.int b2), .val (.int b3), .val (.int sh), .val (.int fi), .val (.int (1 : Int32)), .val (.int (3 : Int32)), .val (.ref b201), .unset] [(.int (3 : Int32))])) (fun _ kq => XS.iload X205.here hx rfl (hb hby at_45) rfl kq) ?_
      refine own_st (T' := T205) (F' := (mkF m 48 #[.val (.int b0), .val (.int b1), .val (.int b2), .val (.int b3), .val (.int sh), .val (.int fi), .val (.int (1 : Int32)), .val (.int (3 : Int32)), .val (.ref b201), .unset] [(.int (1 : Int32)), (.int (3 : Int32))])) (fun _ kq => XS.iconst X205.here hx rfl (hb hby at_47) kq) ?_
      refine own_st (T' := T205) (F' := (mkF m 51 #[.val (.int b0), .val (.int b1), .val (.int b2), .val (.int b3), .val (.int sh), .val (.int fi), .val (.int (1 : Int32)), .val (.int (3 : Int32)), .val (.ref b201), .unset] [])) (fun _ kq => XS.icmpNo X205.here hx rfl (hb hby at_48) rfl (tlt (by decide : (1 : Int32) < (3 : Int32))).2.2.2 kq) ?_
      refine own_st (T' := T205) (F' := (mkF m 53 #[.val (.int b0), .val (.int b1), .val (.int b2), .val (.int b3), .val (.int sh), .val (.int fi), .val (.int (1 : Int32)), .val (.int (3 : Int32)), .val (.ref b201), .unset] [(.ref b201)])) (fun _ kq => XS.aload X205.here hx rfl (hb hby at_51) rfl rfl kq) ?_
      refine own_st (T' := T205) (F' := (mkF m 55 #[.val (.int b0), .val (.int b1), .val (.int b2), .val (.int b3), .val (.int sh), .val (.int fi), .val (.int (1 : Int32)), .val (.int (3 : Int32)), .val (.ref b201), .unset] [(.int (1 : Int32)), (.ref b201)])) (fun _ kq => XS.iload X205.here hx rfl (hb hby at_53) rfl kq) ?_
      refine own_st (T' := T205) (F' := (mkF m 56 #[.val (.int b0), .val (.int b1), .val (.int b2), .val (.int b3), .val (.int sh), .val (.int fi), .val (.int (1 : Int32)), .val (.int (3 : Int32)), .val (.ref b201), .unset] [(.int (1 : Int32)), (.int (1 : Int32)), (.ref b201)])) (fun _ kq => XS.iconst X205.here hx rfl (hb hby at_55) kq) ?_
      refine own_st (T' := T205) (F' := (mkF m 57 #[.val (.int b0), .val (.int b1), .val (.int b2), .val (.int b3), .val (.int sh), .val (.int fi), .val (.int (1 : Int32)), .val (.int (3 : Int32)), .val (.ref b201), .unset] [(.int (2 : Int32)), (.ref b201)])) (fun _ kq => XS.iadd X205.here hx rfl (hb hby at_56) rfl kq) ?_
      refine own_st (T' := T205) (F' := (mkF m 58 #[.val (.int b0), .val (.int b1), .val (.int b2), .val (.int b3), .val (.int sh), .val (.int fi), .val (.int (1 : Int32)), .val (.int (3 : Int32)), .val (.ref b201), .unset] [(.int b1), (.int (2 : Int32)), (.ref b201)])) (fun _ kq => XS.iloadN X205.here hx rfl (hb hby at_57) rfl kq) ?_
      refine own_st (T' := T205) (F' := (mkF m 59 #[.val (.int b0), .val (.int b1), .val (.int b2), .val (.int b3), .val (.int sh), .val (.int fi), .val (.int (1 : Int32)), .val (.int (3 : Int32)), .val (.ref b201), .unset] [(.int (b1.toInt8.toInt32)), (.int (2 : Int32)), (.ref b201)])) (fun _ kq => XS.i2b X205.here hx rfl (hb hby at_58) rfl kq) ?_
      obtain ⟨T207, h207, locs207, X207, e207, N207, W207, V207, st207⟩ := own_stB X205 hx hZ e205 N205 (ys := [((fi.toInt8.toInt32).toInt8.toInt32), ((b0.toInt8.toInt32).toInt8.toInt32), ((b1.toInt8.toInt32).toInt8.toInt32), (0 : Int32)]) V205 gb201 (g := (mkF m 59 #[.val (.int b0), .val (.int b1), .val (.int b2), .val (.int b3), .val (.int sh), .val (.int fi), .val (.int (1 : Int32)), .val (.int (3 : Int32)), .val (.ref b201), .unset] [(.int (b1.toInt8.toInt32)), (.int (2 : Int32)), (.ref b201)])) rfl rfl (hb hby at_59) (by decide) (Nat.le_of_ble_eq_true rfl) rfl
      have Z207 : n0 ≤ h207.size := by rw [W207.size]; exact Z205
      refine own_st (T' := T207) (F' := (mkF m 60 #[.val (.int b0), .val (.int b1), .val (.int b2), .val (.int b3), .val (.int sh), .val (.int fi), .val (.int (1 : Int32)), .val (.int (3 : Int32)), .val (.ref b201), .unset] [])) (st207) ?_
      refine own_st (T' := T207) (F' := (mkF m 62 #[.val (.int b0), .val (.int b1), .val (.int b2), .val (.int b3), .val (.int sh), .val (.int fi), .val (.int (1 : Int32)), .val (.int (3 : Int32)), .val (.ref b201), .unset] [(.int (3 : Int32))])) (fun _ kq => XS.iload X207.here hx rfl (hb hby at_60) rfl kq) ?_
      refine own_st (T' := T207) (F' := (mkF m 63 #[.val (.int b0), .val (.int b1), .val (.int b2), .val (.int b3), .val (.int sh), .val (.int fi), .val (.int (1 : Int32)), .val (.int (3 : Int32)), .val (.ref b201), .unset] [(.int (2 : Int32)), (.int (3 : Int32))])) (fun _ kq => XS.iconst X207.here hx rfl (hb hby at_62) kq) ?_
      refine own_st (T' := T207) (F' := (mkF m 66 #[.val (.int b0), .val (.int b1), .val (.int b2), .val (.int b3), .val (.int sh), .val (.int fi), .val (.int (1 : Int32)), .val (.int (3 : Int32)), .val (.ref b201), .unset] [])) (fun _ kq => XS.icmpNo X207.here hx rfl (hb hby at_63) rfl (tlt (by decide : (2 : Int32) < (3 : Int32))).2.2.2 kq) ?_
      refine own_st (T' := T207) (F' := (mkF m 68 #[.val (.int b0), .val (.int b1), .val (.int b2), .val (.int b3), .val (.int sh), .val (.int fi), .val (.int (1 : Int32)), .val (.int (3 : Int32)), .val (.ref b201), .unset] [(.ref b201)])) (fun _ kq => XS.aload X207.here hx rfl (hb hby at_66) rfl rfl kq) ?_
      refine own_st (T' := T207) (F' := (mkF m 70 #[.val (.int b0), .val (.int b1), .val (.int b2), .val (.int b3), .val (.int sh), .val (.int fi), .val (.int (1 : Int32)), .val (.int (3 : Int32)), .val (.ref b201), .unset] [(.int (1 : Int32)), (.ref b201)])) (fun _ kq => XS.iload X207.here hx rfl (hb hby at_68) rfl kq) ?_
      refine own_st (T' := T207) (F' := (mkF m 71 #[.val (.int b0), .val (.int b1), .val (.int b2), .val (.int b3), .val (.int sh), .val (.int fi), .val (.int (1 : Int32)), .val (.int (3 : Int32)), .val (.ref b201), .unset] [(.int (2 : Int32)), (.int (1 : Int32)), (.ref b201)])) (fun _ kq => XS.iconst X207.here hx rfl (hb hby at_70) kq) ?_
      refine own_st (T' := T207) (F' := (mkF m 72 #[.val (.int b0), .val (.int b1), .val (.int b2), .val (.int b3), .val (.int sh), .val (.int fi), .val (.int (1 : Int32)), .val (.int (3 : Int32)), .val (.ref b201), .unset] [(.int (3 : Int32)), (.ref b201)])) (fun _ kq => XS.iadd X207.here hx rfl (hb hby at_71) rfl kq) ?_
      refine own_st (T' := T207) (F' := (mkF m 73 #[.val (.int b0), .val (.int b1), .val (.int b2), .val (.int b3), .val (.int sh), .val (.int fi), .val (.int (1 : Int32)), .val (.int (3 : Int32)), .val (.ref b201), .unset] [(.int b2), (.int (3 : Int32)), (.ref b201)])) (fun _ kq => XS.iloadN X207.here hx rfl (hb hby at_72) rfl kq) ?_
      refine own_st (T' := T207) (F' := (mkF m 74 #[.val (.int b0), .val (.int b1), .val (.int b2), .val (.int b3), .val (.int sh), .val (.int fi), .val (.int (1 : Int32)), .val (.int (3 : Int32)), .val (.ref b201), .unset] [(.int (b2.toInt8.toInt32)), (.int (3 : Int32)), (.ref b201)])) (fun _ kq => XS.i2b X207.here hx rfl (hb hby at_73) rfl kq) ?_
      obtain ⟨T209, h209, locs209, X209, e209, N209, W209, V209, st209⟩ := own_stB X207 hx hZ e207 N207 (ys := [((fi.toInt8.toInt32).toInt8.toInt32), ((b0.toInt8.toInt32).toInt8.toInt32), ((b1.toInt8.toInt32).toInt8.toInt32), ((b2.toInt8.toInt32).toInt8.toInt32)]) V207 gb201 (g := (mkF m 74 #[.val (.int b0), .val (.int b1), .val (.int b2), .val (.int b3), .val (.int sh), .val (.int fi), .val (.int (1 : Int32)), .val (.int (3 : Int32)), .val (.ref b201), .unset] [(.int (b2.toInt8.toInt32)), (.int (3 : Int32)), (.ref b201)])) rfl rfl (hb hby at_74) (by decide) (Nat.le_of_ble_eq_true rfl) rfl
      have Z209 : n0 ≤ h209.size := by rw [W209.size]; exact Z207
      refine own_st (T' := T209) (F' := (mkF m 75 #[.val (.int b0), .val (.int b1), .val (.int b2), .val (.int b3), .val (.int sh), .val (.int fi), .val (.int (1 : Int32)), .val (.int (3 : Int32)), .val (.ref b201), .unset] [])) (st209) ?_
      refine own_st (T' := T209) (F' := (mkF m 77 #[.val (.int b0), .val (.int b1), .val (.int b2), .val (.int b3), .val (.int sh), .val (.int fi), .val (.int (1 : Int32)), .val (.int (3 : Int32)), .val (.ref b201), .unset] [(.int (3 : Int32))])) (fun _ kq => XS.iload X209.here hx rfl (hb hby at_75) rfl kq) ?_
      refine own_st (T' := T209) (F' := (mkF m 78 #[.val (.int b0), .val (.int b1), .val (.int b2), .val (.int b3), .val (.int sh), .val (.int fi), .val (.int (1 : Int32)), .val (.int (3 : Int32)), .val (.ref b201), .unset] [(.int (3 : Int32)), (.int (3 : Int32))])) (fun _ kq => XS.iconst X209.here hx rfl (hb hby at_77) kq) ?_
      refine own_st (T' := T209) (F' := (mkF m 90 #[.val (.int b0), .val (.int b1), .val (.int b2), .val (.int b3), .val (.int sh), .val (.int fi), .val (.int (1 : Int32)), .val (.int (3 : Int32)), .val (.ref b201), .unset] [])) (fun _ kq => XS.icmpYes X209.here hx rfl (pc0 := 78) (pc' := 90) rfl (hb hby at_78) rfl (flt (by decide : ¬ ((3 : Int32) < (3 : Int32)))).2.2.2 (by decide) (by decide) kq) ?_
      refine own_st (T' := T209) (F' := (mkF m 92 #[.val (.int b0), .val (.int b1), .val (.int b2), .val (.int b3), .val (.int sh), .val (.int fi), .val (.int (1 : Int32)), .val (.int (3 : Int32)), .val (.ref b201), .unset] [(.ref b201)])) (fun _ kq => XS.aload X209.here hx rfl (hb hby at_90) rfl rfl kq) ?_
      refine own_st (T' := T209) (F' := (mkF m 94 #[.val (.int b0), .val (.int b1), .val (.int b2), .val (.int b3), .val (.int sh), .val (.int fi), .val (.int (1 : Int32)), .val (.int (3 : Int32)), .val (.ref b201), .unset] [(.int (1 : Int32)), (.ref b201)])) (fun _ kq => XS.iload X209.here hx rfl (hb hby at_92) rfl kq) ?_
      obtain ⟨T211, locs211, X211, e211, N211, st211⟩ := own_callP X209 hx hZ 0 hown (hw _ (List.mem_of_getElem? (i := 1) rfl)) (hw _ (List.mem_of_getElem? (i := 2) rfl)) (hw _ (List.mem_of_getElem? (i := 3) rfl)) (hw _ (List.mem_of_getElem? (i := 4) rfl)) (by decide) (rm1_1_3 l Z a0 hw [] b201 ((fi.toInt8.toInt32).toInt8.toInt32) ((b0.toInt8.toInt32).toInt8.toInt32) ((b1.toInt8.toInt32).toInt8.toInt32) ((b2.toInt8.toInt32).toInt8.toInt32) h209 n0 V209) (by decide) (by decide) rfl rfl e209 N209 (by decide) (by decide) (g := (mkF m 94 #[.val (.int b0), .val (.int b1), .val (.int b2), .val (.int b3), .val (.int sh), .val (.int fi), .val (.int (1 : Int32)), .val (.int (3 : Int32)), .val (.ref b201), .unset] [(.int (1 : Int32)), (.ref b201)])) rfl (by rw [hml]; rfl) (argsL := [(.ref b201), (.int (1 : Int32))]) (rest := []) (lenOf pd1 rfl) rfl rfl (by show 2 * 0 + _ ≤ _; exact Nat.le_of_eq rfl) (hb hby at_94)
      refine own_st (T' := T211) (F' := (mkF m 97 #[.val (.int b0), .val (.int b1), .val (.int b2), .val (.int b3), .val (.int sh), .val (.int fi), .val (.int (1 : Int32)), .val (.int (3 : Int32)), .val (.ref b201), .unset] [(.int (sl3 ((b0.toInt8.toInt32).toInt8.toInt32) ((b1.toInt8.toInt32).toInt8.toInt32) ((b2.toInt8.toInt32).toInt8.toInt32)))])) (st211) ?_
      refine own_st (T' := T211) (F' := (mkF m 99 #[.val (.int b0), .val (.int b1), .val (.int b2), .val (.int b3), .val (.int sh), .val (.int fi), .val (.int (1 : Int32)), .val (.int (3 : Int32)), .val (.ref b201), .val (.int (sl3 ((b0.toInt8.toInt32).toInt8.toInt32) ((b1.toInt8.toInt32).toInt8.toInt32) ((b2.toInt8.toInt32).toInt8.toInt32)))] [])) (fun _ kq => XS.istore X211.here hx rfl (hb hby at_97) rfl (l' := #[.val (.int b0), .val (.int b1), .val (.int b2), .val (.int b3), .val (.int sh), .val (.int fi), .val (.int (1 : Int32)), .val (.int (3 : Int32)), .val (.ref b201), .val (.int (sl3 ((b0.toInt8.toInt32).toInt8.toInt32) ((b1.toInt8.toInt32).toInt8.toInt32) ((b2.toInt8.toInt32).toInt8.toInt32)))]) rfl kq) ?_
      refine own_st (T' := T211) (F' := (mkF m 101 #[.val (.int b0), .val (.int b1), .val (.int b2), .val (.int b3), .val (.int sh), .val (.int fi), .val (.int (1 : Int32)), .val (.int (3 : Int32)), .val (.ref b201), .val (.int (sl3 ((b0.toInt8.toInt32).toInt8.toInt32) ((b1.toInt8.toInt32).toInt8.toInt32) ((b2.toInt8.toInt32).toInt8.toInt32)))] [(.int (sl3 ((b0.toInt8.toInt32).toInt8.toInt32) ((b1.toInt8.toInt32).toInt8.toInt32) ((b2.toInt8.toInt32).toInt8.toInt32)))])) (fun _ kq => XS.iload X211.here hx rfl (hb hby at_99) rfl kq) ?_
      refine own_st (T' := T211) (F' := (mkF m 102 #[.val (.int b0), .val (.int b1), .val (.int b2), .val (.int b3), .val (.int sh), .val (.int fi), .val (.int (1 : Int32)), .val (.int (3 : Int32)), .val (.ref b201), .val (.int (sl3 ((b0.toInt8.toInt32).toInt8.toInt32) ((b1.toInt8.toInt32).toInt8.toInt32) ((b2.toInt8.toInt32).toInt8.toInt32)))] [(.int b0), (.int (sl3 ((b0.toInt8.toInt32).toInt8.toInt32) ((b1.toInt8.toInt32).toInt8.toInt32) ((b2.toInt8.toInt32).toInt8.toInt32)))])) (fun _ kq => XS.iloadN X211.here hx rfl (hb hby at_101) rfl kq) ?_
      refine own_st (T' := T211) (F' := (mkF m 105 #[.val (.int b0), .val (.int b1), .val (.int b2), .val (.int b3), .val (.int sh), .val (.int fi), .val (.int (1 : Int32)), .val (.int (3 : Int32)), .val (.ref b201), .val (.int (sl3 ((b0.toInt8.toInt32).toInt8.toInt32) ((b1.toInt8.toInt32).toInt8.toInt32) ((b2.toInt8.toInt32).toInt8.toInt32)))] [(.int (255 : Int32)), (.int b0), (.int (sl3 ((b0.toInt8.toInt32).toInt8.toInt32) ((b1.toInt8.toInt32).toInt8.toInt32) ((b2.toInt8.toInt32).toInt8.toInt32)))])) (fun _ kq => XS.sipush X211.here hx rfl (hb hby at_102) kq) ?_
      refine own_st (T' := T211) (F' := (mkF m 106 #[.val (.int b0), .val (.int b1), .val (.int b2), .val (.int b3), .val (.int sh), .val (.int fi), .val (.int (1 : Int32)), .val (.int (3 : Int32)), .val (.ref b201), .val (.int (sl3 ((b0.toInt8.toInt32).toInt8.toInt32) ((b1.toInt8.toInt32).toInt8.toInt32) ((b2.toInt8.toInt32).toInt8.toInt32)))] [(.int (b0 &&& (255 : Int32))), (.int (sl3 ((b0.toInt8.toInt32).toInt8.toInt32) ((b1.toInt8.toInt32).toInt8.toInt32) ((b2.toInt8.toInt32).toInt8.toInt32)))])) (fun _ kq => XS.iand X211.here hx rfl (hb hby at_105) rfl kq) ?_
      refine own_st (T' := T211) (F' := (mkF m 107 #[.val (.int b0), .val (.int b1), .val (.int b2), .val (.int b3), .val (.int sh), .val (.int fi), .val (.int (1 : Int32)), .val (.int (3 : Int32)), .val (.ref b201), .val (.int (sl3 ((b0.toInt8.toInt32).toInt8.toInt32) ((b1.toInt8.toInt32).toInt8.toInt32) ((b2.toInt8.toInt32).toInt8.toInt32)))] [(.int b1), (.int (b0 &&& (255 : Int32))), (.int (sl3 ((b0.toInt8.toInt32).toInt8.toInt32) ((b1.toInt8.toInt32).toInt8.toInt32) ((b2.toInt8.toInt32).toInt8.toInt32)))])) (fun _ kq => XS.iloadN X211.here hx rfl (hb hby at_106) rfl kq) ?_
      refine own_st (T' := T211) (F' := (mkF m 110 #[.val (.int b0), .val (.int b1), .val (.int b2), .val (.int b3), .val (.int sh), .val (.int fi), .val (.int (1 : Int32)), .val (.int (3 : Int32)), .val (.ref b201), .val (.int (sl3 ((b0.toInt8.toInt32).toInt8.toInt32) ((b1.toInt8.toInt32).toInt8.toInt32) ((b2.toInt8.toInt32).toInt8.toInt32)))] [(.int (255 : Int32)), (.int b1), (.int (b0 &&& (255 : Int32))), (.int (sl3 ((b0.toInt8.toInt32).toInt8.toInt32) ((b1.toInt8.toInt32).toInt8.toInt32) ((b2.toInt8.toInt32).toInt8.toInt32)))])) (fun _ kq => XS.sipush X211.here hx rfl (hb hby at_107) kq) ?_
      refine own_st (T' := T211) (F' := (mkF m 111 #[.val (.int b0), .val (.int b1), .val (.int b2), .val (.int b3), .val (.int sh), .val (.int fi), .val (.int (1 : Int32)), .val (.int (3 : Int32)), .val (.ref b201), .val (.int (sl3 ((b0.toInt8.toInt32).toInt8.toInt32) ((b1.toInt8.toInt32).toInt8.toInt32) ((b2.toInt8.toInt32).toInt8.toInt32)))] [(.int (b1 &&& (255 : Int32))), (.int (b0 &&& (255 : Int32))), (.int (sl3 ((b0.toInt8.toInt32).toInt8.toInt32) ((b1.toInt8.toInt32).toInt8.toInt32) ((b2.toInt8.toInt32).toInt8.toInt32)))])) (fun _ kq => XS.iand X211.here hx rfl (hb hby at_110) rfl kq) ?_
      refine own_st (T' := T211) (F' := (mkF m 112 #[.val (.int b0), .val (.int b1), .val (.int b2), .val (.int b3), .val (.int sh), .val (.int fi), .val (.int (1 : Int32)), .val (.int (3 : Int32)), .val (.ref b201), .val (.int (sl3 ((b0.toInt8.toInt32).toInt8.toInt32) ((b1.toInt8.toInt32).toInt8.toInt32) ((b2.toInt8.toInt32).toInt8.toInt32)))] [(.int b2), (.int (b1 &&& (255 : Int32))), (.int (b0 &&& (255 : Int32))), (.int (sl3 ((b0.toInt8.toInt32).toInt8.toInt32) ((b1.toInt8.toInt32).toInt8.toInt32) ((b2.toInt8.toInt32).toInt8.toInt32)))])) (fun _ kq => XS.iloadN X211.here hx rfl (hb hby at_111) rfl kq) ?_
      refine own_st (T' := T211) (F' := (mkF m 115 #[.val (.int b0), .val (.int b1), .val (.int b2), .val (.int b3), .val (.int sh), .val (.int fi), .val (.int (1 : Int32)), .val (.int (3 : Int32)), .val (.ref b201), .val (.int (sl3 ((b0.toInt8.toInt32).toInt8.toInt32) ((b1.toInt8.toInt32).toInt8.toInt32) ((b2.toInt8.toInt32).toInt8.toInt32)))] [(.int (255 : Int32)), (.int b2), (.int (b1 &&& (255 : Int32))), (.int (b0 &&& (255 : Int32))), (.int (sl3 ((b0.toInt8.toInt32).toInt8.toInt32) ((b1.toInt8.toInt32).toInt8.toInt32) ((b2.toInt8.toInt32).toInt8.toInt32)))])) (fun _ kq => XS.sipush X211.here hx rfl (hb hby at_112) kq) ?_
      refine own_st (T' := T211) (F' := (mkF m 116 #[.val (.int b0), .val (.int b1), .val (.int b2), .val (.int b3), .val (.int sh), .val (.int fi), .val (.int (1 : Int32)), .val (.int (3 : Int32)), .val (.ref b201), .val (.int (sl3 ((b0.toInt8.toInt32).toInt8.toInt32) ((b1.toInt8.toInt32).toInt8.toInt32) ((b2.toInt8.toInt32).toInt8.toInt32)))] [(.int (b2 &&& (255 : Int32))), (.int (b1 &&& (255 : Int32))), (.int (b0 &&& (255 : Int32))), (.int (sl3 ((b0.toInt8.toInt32).toInt8.toInt32) ((b1.toInt8.toInt32).toInt8.toInt32) ((b2.toInt8.toInt32).toInt8.toInt32)))])) (fun _ kq => XS.iand X211.here hx rfl (hb hby at_115) rfl kq) ?_
      refine own_st (T' := T211) (F' := (mkF m 117 #[.val (.int b0), .val (.int b1), .val (.int b2), .val (.int b3), .val (.int sh), .val (.int fi), .val (.int (1 : Int32)), .val (.int (3 : Int32)), .val (.ref b201), .val (.int (sl3 ((b0.toInt8.toInt32).toInt8.toInt32) ((b1.toInt8.toInt32).toInt8.toInt32) ((b2.toInt8.toInt32).toInt8.toInt32)))] [(.int b3), (.int (b2 &&& (255 : Int32))), (.int (b1 &&& (255 : Int32))), (.int (b0 &&& (255 : Int32))), (.int (sl3 ((b0.toInt8.toInt32).toInt8.toInt32) ((b1.toInt8.toInt32).toInt8.toInt32) ((b2.toInt8.toInt32).toInt8.toInt32)))])) (fun _ kq => XS.iloadN X211.here hx rfl (hb hby at_116) rfl kq) ?_
      refine own_st (T' := T211) (F' := (mkF m 120 #[.val (.int b0), .val (.int b1), .val (.int b2), .val (.int b3), .val (.int sh), .val (.int fi), .val (.int (1 : Int32)), .val (.int (3 : Int32)), .val (.ref b201), .val (.int (sl3 ((b0.toInt8.toInt32).toInt8.toInt32) ((b1.toInt8.toInt32).toInt8.toInt32) ((b2.toInt8.toInt32).toInt8.toInt32)))] [(.int (255 : Int32)), (.int b3), (.int (b2 &&& (255 : Int32))), (.int (b1 &&& (255 : Int32))), (.int (b0 &&& (255 : Int32))), (.int (sl3 ((b0.toInt8.toInt32).toInt8.toInt32) ((b1.toInt8.toInt32).toInt8.toInt32) ((b2.toInt8.toInt32).toInt8.toInt32)))])) (fun _ kq => XS.sipush X211.here hx rfl (hb hby at_117) kq) ?_
      refine own_st (T' := T211) (F' := (mkF m 121 #[.val (.int b0), .val (.int b1), .val (.int b2), .val (.int b3), .val (.int sh), .val (.int fi), .val (.int (1 : Int32)), .val (.int (3 : Int32)), .val (.ref b201), .val (.int (sl3 ((b0.toInt8.toInt32).toInt8.toInt32) ((b1.toInt8.toInt32).toInt8.toInt32) ((b2.toInt8.toInt32).toInt8.toInt32)))] [(.int (b3 &&& (255 : Int32))), (.int (b2 &&& (255 : Int32))), (.int (b1 &&& (255 : Int32))), (.int (b0 &&& (255 : Int32))), (.int (sl3 ((b0.toInt8.toInt32).toInt8.toInt32) ((b1.toInt8.toInt32).toInt8.toInt32) ((b2.toInt8.toInt32).toInt8.toInt32)))])) (fun _ kq => XS.iand X211.here hx rfl (hb hby at_120) rfl kq) ?_
      refine own_st (T' := T211) (F' := (mkF m 123 #[.val (.int b0), .val (.int b1), .val (.int b2), .val (.int b3), .val (.int sh), .val (.int fi), .val (.int (1 : Int32)), .val (.int (3 : Int32)), .val (.ref b201), .val (.int (sl3 ((b0.toInt8.toInt32).toInt8.toInt32) ((b1.toInt8.toInt32).toInt8.toInt32) ((b2.toInt8.toInt32).toInt8.toInt32)))] [(.int (3 : Int32)), (.int (b3 &&& (255 : Int32))), (.int (b2 &&& (255 : Int32))), (.int (b1 &&& (255 : Int32))), (.int (b0 &&& (255 : Int32))), (.int (sl3 ((b0.toInt8.toInt32).toInt8.toInt32) ((b1.toInt8.toInt32).toInt8.toInt32) ((b2.toInt8.toInt32).toInt8.toInt32)))])) (fun _ kq => XS.iload X211.here hx rfl (hb hby at_121) rfl kq) ?_
      obtain ⟨T212, locs212, X212, e212, N212, st212⟩ := own_callP X211 hx hZ 1 hown (hw _ (List.mem_of_getElem? (i := 5) rfl)) (hw _ (List.mem_of_getElem? (i := 6) rfl)) (hw _ (List.mem_of_getElem? (i := 7) rfl)) (hw _ (List.mem_of_getElem? (i := 8) rfl)) (by decide) (rm2 l Z a0 hw [] (b0 &&& (255 : Int32)) (b1 &&& (255 : Int32)) (b2 &&& (255 : Int32)) (b3 &&& (255 : Int32)) (3 : Int32) h209 n0) (by decide) (by decide) rfl rfl e211 N211 (by decide) (by decide) (g := (mkF m 123 #[.val (.int b0), .val (.int b1), .val (.int b2), .val (.int b3), .val (.int sh), .val (.int fi), .val (.int (1 : Int32)), .val (.int (3 : Int32)), .val (.ref b201), .val (.int (sl3 ((b0.toInt8.toInt32).toInt8.toInt32) ((b1.toInt8.toInt32).toInt8.toInt32) ((b2.toInt8.toInt32).toInt8.toInt32)))] [(.int (3 : Int32)), (.int (b3 &&& (255 : Int32))), (.int (b2 &&& (255 : Int32))), (.int (b1 &&& (255 : Int32))), (.int (b0 &&& (255 : Int32))), (.int (sl3 ((b0.toInt8.toInt32).toInt8.toInt32) ((b1.toInt8.toInt32).toInt8.toInt32) ((b2.toInt8.toInt32).toInt8.toInt32)))])) rfl (by rw [hml]; rfl) (argsL := [(.int (b0 &&& (255 : Int32))), (.int (b1 &&& (255 : Int32))), (.int (b2 &&& (255 : Int32))), (.int (b3 &&& (255 : Int32))), (.int (3 : Int32))]) (rest := [(.int (sl3 ((b0.toInt8.toInt32).toInt8.toInt32) ((b1.toInt8.toInt32).toInt8.toInt32) ((b2.toInt8.toInt32).toInt8.toInt32)))]) (lenOf pd2 rfl) rfl rfl (by show 2 * 0 + _ ≤ _; exact Nat.le_of_eq rfl) (hb hby at_123)
      refine own_st (T' := T212) (F' := (mkF m 126 #[.val (.int b0), .val (.int b1), .val (.int b2), .val (.int b3), .val (.int sh), .val (.int fi), .val (.int (1 : Int32)), .val (.int (3 : Int32)), .val (.ref b201), .val (.int (sl3 ((b0.toInt8.toInt32).toInt8.toInt32) ((b1.toInt8.toInt32).toInt8.toInt32) ((b2.toInt8.toInt32).toInt8.toInt32)))] [(.int (f2 (b0 &&& (255 : Int32)) (b1 &&& (255 : Int32)) (b2 &&& (255 : Int32)) (b3 &&& (255 : Int32)) (3 : Int32))), (.int (sl3 ((b0.toInt8.toInt32).toInt8.toInt32) ((b1.toInt8.toInt32).toInt8.toInt32) ((b2.toInt8.toInt32).toInt8.toInt32)))])) (st212) ?_
      refine own_st (T' := T212) (F' := (mkF m 129 #[.val (.int b0), .val (.int b1), .val (.int b2), .val (.int b3), .val (.int sh), .val (.int fi), .val (.int (1 : Int32)), .val (.int (3 : Int32)), .val (.ref b201), .val (.int (sl3 ((b0.toInt8.toInt32).toInt8.toInt32) ((b1.toInt8.toInt32).toInt8.toInt32) ((b2.toInt8.toInt32).toInt8.toInt32)))] [])) (fun _ kq => XS.icmpNo X212.here hx rfl (hb hby at_126) rfl (teq (own_law3 b0 b1 b2 b3)).2 kq) ?_
      refine own_st (T' := T212) (F' := (mkF m 130 #[.val (.int b0), .val (.int b1), .val (.int b2), .val (.int b3), .val (.int sh), .val (.int fi), .val (.int (1 : Int32)), .val (.int (3 : Int32)), .val (.ref b201), .val (.int (sl3 ((b0.toInt8.toInt32).toInt8.toInt32) ((b1.toInt8.toInt32).toInt8.toInt32) ((b2.toInt8.toInt32).toInt8.toInt32)))] [(.int (1 : Int32))])) (fun _ kq => XS.iconst X212.here hx rfl (hb hby at_129) kq) ?_
      refine own_st (T' := T212) (F' := (mkF m 134 #[.val (.int b0), .val (.int b1), .val (.int b2), .val (.int b3), .val (.int sh), .val (.int fi), .val (.int (1 : Int32)), .val (.int (3 : Int32)), .val (.ref b201), .val (.int (sl3 ((b0.toInt8.toInt32).toInt8.toInt32) ((b1.toInt8.toInt32).toInt8.toInt32) ((b2.toInt8.toInt32).toInt8.toInt32)))] [(.int (1 : Int32))])) (fun _ kq => XS.goto X212.here hx rfl (pc0 := 130) (pc' := 134) rfl (hb hby at_130) (by decide) (by decide) kq) ?_
      exact own_retN X212 hx hlk hret (by simp) (hb hby at_134) (by decide) (by decide) ⟨rfl, N212⟩
    ·
      refine own_st (T' := T0) (F' := (mkF m 16 #[.val (.int b0), .val (.int b1), .val (.int b2), .val (.int b3), .val (.int sh), .val (.int fi), .val (.int (1 : Int32)), .val (.int (4 : Int32)), .unset, .unset] [])) (fun _ kq => XS.istore X0.here hx rfl (hb hby at_14) rfl (l' := #[.val (.int b0), .val (.int b1), .val (.int b2), .val (.int b3), .val (.int sh), .val (.int fi), .val (.int (1 : Int32)), .val (.int (4 : Int32)), .unset, .unset]) rfl kq) ?_
      refine own_st (T' := T0) (F' := (mkF m 18 #[.val (.int b0), .val (.int b1), .val (.int b2), .val (.int b3), .val (.int sh), .val (.int fi), .val (.int (1 : Int32)), .val (.int (4 : Int32)), .unset, .unset] [(.int (1 : Int32))])) (fun _ kq => XS.iload X0.here hx rfl (hb hby at_16) rfl kq) ?_
      refine own_st (T' := T0) (F' := (mkF m 20 #[.val (.int b0), .val (.int b1), .val (.int b2), .val (.int b3), .val (.int sh), .val (.int fi), .val (.int (1 : Int32)), .val (.int (4 : Int32)), .unset, .unset] [(.int (4 : Int32)), (.int (1 : Int32))])) (fun _ kq => XS.iload X0.here hx rfl (hb hby at_18) rfl kq) ?_
      refine own_st (T' := T0) (F' := (mkF m 21 #[.val (.int b0), .val (.int b1), .val (.int b2), .val (.int b3), .val (.int sh), .val (.int fi), .val (.int (1 : Int32)), .val (.int (4 : Int32)), .unset, .unset] [(.int (5 : Int32))])) (fun _ kq => XS.iadd X0.here hx rfl (hb hby at_20) rfl kq) ?_
      obtain ⟨T213, h213, b213, X213, e213, E213, g213, gb213, Z213, V213, st213⟩ := own_newI X0 hx hZ (aty := .byte) (hw _ (List.mem_of_getElem? (i := 0) rfl)) e0 Z0 (g := (mkF m 21 #[.val (.int b0), .val (.int b1), .val (.int b2), .val (.int b3), .val (.int sh), .val (.int fi), .val (.int (1 : Int32)), .val (.int (4 : Int32)), .unset, .unset] [(.int (5 : Int32))])) rfl rfl (hb hby at_21) rfl (by decide) 5 5 rfl (by decide) (by decide) (by decide) (by decide)
      refine own_st (T' := T213) (F' := (mkF m 23 #[.val (.int b0), .val (.int b1), .val (.int b2), .val (.int b3), .val (.int sh), .val (.int fi), .val (.int (1 : Int32)), .val (.int (4 : Int32)), .unset, .unset] [(.ref b213)])) (st213) ?_
      refine own_st (T' := T213) (F' := (mkF m 25 #[.val (.int b0), .val (.int b1), .val (.int b2), .val (.int b3), .val (.int sh), .val (.int fi), .val (.int (1 : Int32)), .val (.int (4 : Int32)), .val (.ref b213), .unset] [])) (fun _ kq => XS.astore X213.here hx rfl (hb hby at_23) rfl rfl (l' := #[.val (.int b0), .val (.int b1), .val (.int b2), .val (.int b3), .val (.int sh), .val (.int fi), .val (.int (1 : Int32)), .val (.int (4 : Int32)), .val (.ref b213), .unset]) rfl kq) ?_
      refine own_st (T' := T213) (F' := (mkF m 27 #[.val (.int b0), .val (.int b1), .val (.int b2), .val (.int b3), .val (.int sh), .val (.int fi), .val (.int (1 : Int32)), .val (.int (4 : Int32)), .val (.ref b213), .unset] [(.int (1 : Int32))])) (fun _ kq => XS.iload X213.here hx rfl (hb hby at_25) rfl kq) ?_
      refine own_st (T' := T213) (F' := (mkF m 28 #[.val (.int b0), .val (.int b1), .val (.int b2), .val (.int b3), .val (.int sh), .val (.int fi), .val (.int (1 : Int32)), .val (.int (4 : Int32)), .val (.ref b213), .unset] [(.int (1 : Int32)), (.int (1 : Int32))])) (fun _ kq => XS.iconst X213.here hx rfl (hb hby at_27) kq) ?_
      refine own_st (T' := T213) (F' := (mkF m 31 #[.val (.int b0), .val (.int b1), .val (.int b2), .val (.int b3), .val (.int sh), .val (.int fi), .val (.int (1 : Int32)), .val (.int (4 : Int32)), .val (.ref b213), .unset] [])) (fun _ kq => XS.icmpNo X213.here hx rfl (hb hby at_28) rfl (teq (rfl : (1 : Int32) = (1 : Int32))).2 kq) ?_
      refine own_st (T' := T213) (F' := (mkF m 33 #[.val (.int b0), .val (.int b1), .val (.int b2), .val (.int b3), .val (.int sh), .val (.int fi), .val (.int (1 : Int32)), .val (.int (4 : Int32)), .val (.ref b213), .unset] [(.ref b213)])) (fun _ kq => XS.aload X213.here hx rfl (hb hby at_31) rfl rfl kq) ?_
      refine own_st (T' := T213) (F' := (mkF m 34 #[.val (.int b0), .val (.int b1), .val (.int b2), .val (.int b3), .val (.int sh), .val (.int fi), .val (.int (1 : Int32)), .val (.int (4 : Int32)), .val (.ref b213), .unset] [(.int (0 : Int32)), (.ref b213)])) (fun _ kq => XS.iconst X213.here hx rfl (hb hby at_33) kq) ?_
      refine own_st (T' := T213) (F' := (mkF m 36 #[.val (.int b0), .val (.int b1), .val (.int b2), .val (.int b3), .val (.int sh), .val (.int fi), .val (.int (1 : Int32)), .val (.int (4 : Int32)), .val (.ref b213), .unset] [(.int fi), (.int (0 : Int32)), (.ref b213)])) (fun _ kq => XS.iload X213.here hx rfl (hb hby at_34) rfl kq) ?_
      refine own_st (T' := T213) (F' := (mkF m 37 #[.val (.int b0), .val (.int b1), .val (.int b2), .val (.int b3), .val (.int sh), .val (.int fi), .val (.int (1 : Int32)), .val (.int (4 : Int32)), .val (.ref b213), .unset] [(.int (fi.toInt8.toInt32)), (.int (0 : Int32)), (.ref b213)])) (fun _ kq => XS.i2b X213.here hx rfl (hb hby at_36) rfl kq) ?_
      obtain ⟨T215, h215, locs215, X215, e215, N215, W215, V215, st215⟩ := own_stB X213 hx hZ e213 N0 (ys := [((fi.toInt8.toInt32).toInt8.toInt32), (0 : Int32), (0 : Int32), (0 : Int32), (0 : Int32)]) V213 gb213 (g := (mkF m 37 #[.val (.int b0), .val (.int b1), .val (.int b2), .val (.int b3), .val (.int sh), .val (.int fi), .val (.int (1 : Int32)), .val (.int (4 : Int32)), .val (.ref b213), .unset] [(.int (fi.toInt8.toInt32)), (.int (0 : Int32)), (.ref b213)])) rfl rfl (hb hby at_37) (by decide) (Nat.le_of_ble_eq_true rfl) rfl
      have Z215 : n0 ≤ h215.size := by rw [W215.size]; exact Z213
      refine own_st (T' := T215) (F' := (mkF m 38 #[.val (.int b0), .val (.int b1), .val (.int b2), .val (.int b3), .val (.int sh), .val (.int fi), .val (.int (1 : Int32)), .val (.int (4 : Int32)), .val (.ref b213), .unset] [])) (st215) ?_
      refine own_st (T' := T215) (F' := (mkF m 40 #[.val (.int b0), .val (.int b1), .val (.int b2), .val (.int b3), .val (.int sh), .val (.int fi), .val (.int (1 : Int32)), .val (.int (4 : Int32)), .val (.ref b213), .unset] [(.ref b213)])) (fun _ kq => XS.aload X215.here hx rfl (hb hby at_38) rfl rfl kq) ?_
      refine own_st (T' := T215) (F' := (mkF m 42 #[.val (.int b0), .val (.int b1), .val (.int b2), .val (.int b3), .val (.int sh), .val (.int fi), .val (.int (1 : Int32)), .val (.int (4 : Int32)), .val (.ref b213), .unset] [(.int (1 : Int32)), (.ref b213)])) (fun _ kq => XS.iload X215.here hx rfl (hb hby at_40) rfl kq) ?_
      refine own_st (T' := T215) (F' := (mkF m 43 #[.val (.int b0), .val (.int b1), .val (.int b2), .val (.int b3), .val (.int sh), .val (.int fi), .val (.int (1 : Int32)), .val (.int (4 : Int32)), .val (.ref b213), .unset] [(.int b0), (.int (1 : Int32)), (.ref b213)])) (fun _ kq => XS.iloadN X215.here hx rfl (hb hby at_42) rfl kq) ?_
      refine own_st (T' := T215) (F' := (mkF m 44 #[.val (.int b0), .val (.int b1), .val (.int b2), .val (.int b3), .val (.int sh), .val (.int fi), .val (.int (1 : Int32)), .val (.int (4 : Int32)), .val (.ref b213), .unset] [(.int (b0.toInt8.toInt32)), (.int (1 : Int32)), (.ref b213)])) (fun _ kq => XS.i2b X215.here hx rfl (hb hby at_43) rfl kq) ?_
      obtain ⟨T217, h217, locs217, X217, e217, N217, W217, V217, st217⟩ := own_stB X215 hx hZ e215 N215 (ys := [((fi.toInt8.toInt32).toInt8.toInt32), ((b0.toInt8.toInt32).toInt8.toInt32), (0 : Int32), (0 : Int32), (0 : Int32)]) V215 gb213 (g := (mkF m 44 #[.val (.int b0), .val (.int b1), .val (.int b2), .val (.int b3), .val (.int sh), .val (.int fi), .val (.int (1 : Int32)), .val (.int (4 : Int32)), .val (.ref b213), .unset] [(.int (b0.toInt8.toInt32)), (.int (1 : Int32)), (.ref b213)])) rfl rfl (hb hby at_44) (by decide) (Nat.le_of_ble_eq_true rfl) rfl
      have Z217 : n0 ≤ h217.size := by rw [W217.size]; exact Z215
      refine own_st (T' := T217) (F' := (mkF m 45 #[.val (.int b0), .val (.int b1), .val (.int b2), .val (.int b3), .val (.int sh), .val (.int fi), .val (.int (1 : Int32)), .val (.int (4 : Int32)), .val (.ref b213), .unset] [])) (st217) ?_
      refine own_st (T' := T217) (F' := (mkF m 47 #[.val (.int b0), .val (.int b1), .val (.int b2), .val (.int b3), .val (.int sh), .val (.int fi), .val (.int (1 : Int32)), .val (.int (4 : Int32)), .val (.ref b213), .unset] [(.int (4 : Int32))])) (fun _ kq => XS.iload X217.here hx rfl (hb hby at_45) rfl kq) ?_
      refine own_st (T' := T217) (F' := (mkF m 48 #[.val (.int b0), .val (.int b1), .val (.int b2), .val (.int b3), .val (.int sh), .val (.int fi), .val (.int (1 : Int32)), .val (.int (4 : Int32)), .val (.ref b213), .unset] [(.int (1 : Int32)), (.int (4 : Int32))])) (fun _ kq => XS.iconst X217.here hx rfl (hb hby at_47) kq) ?_
      refine own_st (T' := T217) (F' := (mkF m 51 #[.val (.int b0), .val (.int b1), .val (.int b2), .val (.int b3), .val (.int sh), .val (.int fi), .val (.int (1 : Int32)), .val (.int (4 : Int32)), .val (.ref b213), .unset] [])) (fun _ kq => XS.icmpNo X217.here hx rfl (hb hby at_48) rfl (tlt (by decide : (1 : Int32) < (4 : Int32))).2.2.2 kq) ?_
      refine own_st (T' := T217) (F' := (mkF m 53 #[.val (.int b0), .val (.int b1), .val (.int b2), .val (.int b3), .val (.int sh), .val (.int fi), .val (.int (1 : Int32)), .val (.int (4 : Int32)), .val (.ref b213), .unset] [(.ref b213)])) (fun _ kq => XS.aload X217.here hx rfl (hb hby at_51) rfl rfl kq) ?_
      refine own_st (T' := T217) (F' := (mkF m 55 #[.val (.int b0), .val (.int b1), .val (.int b2), .val (.int b3), .val (.int sh), .val (.int fi), .val (.int (1 : Int32)), .val (.int (4 : Int32)), .val (.ref b213), .unset] [(.int (1 : Int32)), (.ref b213)])) (fun _ kq => XS.iload X217.here hx rfl (hb hby at_53) rfl kq) ?_
      refine own_st (T' := T217) (F' := (mkF m 56 #[.val (.int b0), .val (.int b1), .val (.int b2), .val (.int b3), .val (.int sh), .val (.int fi), .val (.int (1 : Int32)), .val (.int (4 : Int32)), .val (.ref b213), .unset] [(.int (1 : Int32)), (.int (1 : Int32)), (.ref b213)])) (fun _ kq => XS.iconst X217.here hx rfl (hb hby at_55) kq) ?_
      refine own_st (T' := T217) (F' := (mkF m 57 #[.val (.int b0), .val (.int b1), .val (.int b2), .val (.int b3), .val (.int sh), .val (.int fi), .val (.int (1 : Int32)), .val (.int (4 : Int32)), .val (.ref b213), .unset] [(.int (2 : Int32)), (.ref b213)])) (fun _ kq => XS.iadd X217.here hx rfl (hb hby at_56) rfl kq) ?_
      refine own_st (T' := T217) (F' := (mkF m 58 #[.val (.int b0), .val (.int b1), .val (.int b2), .val (.int b3), .val (.int sh), .val (.int fi), .val (.int (1 : Int32)), .val (.int (4 : Int32)), .val (.ref b213), .unset] [(.int b1), (.int (2 : Int32)), (.ref b213)])) (fun _ kq => XS.iloadN X217.here hx rfl (hb hby at_57) rfl kq) ?_
      refine own_st (T' := T217) (F' := (mkF m 59 #[.val (.int b0), .val (.int b1), .val (.int b2), .val (.int b3), .val (.int sh), .val (.int fi), .val (.int (1 : Int32)), .val (.int (4 : Int32)), .val (.ref b213), .unset] [(.int (b1.toInt8.toInt32)), (.int (2 : Int32)), (.ref b213)])) (fun _ kq => XS.i2b X217.here hx rfl (hb hby at_58) rfl kq) ?_
      obtain ⟨T219, h219, locs219, X219, e219, N219, W219, V219, st219⟩ := own_stB X217 hx hZ e217 N217 (ys := [((fi.toInt8.toInt32).toInt8.toInt32), ((b0.toInt8.toInt32).toInt8.toInt32), ((b1.toInt8.toInt32).toInt8.toInt32), (0 : Int32), (0 : Int32)]) V217 gb213 (g := (mkF m 59 #[.val (.int b0), .val (.int b1), .val (.int b2), .val (.int b3), .val (.int sh), .val (.int fi), .val (.int (1 : Int32)), .val (.int (4 : Int32)), .val (.ref b213), .unset] [(.int (b1.toInt8.toInt32)), (.int (2 : Int32)), (.ref b213)])) rfl rfl (hb hby at_59) (by decide) (Nat.le_of_ble_eq_true rfl) rfl
      have Z219 : n0 ≤ h219.size := by rw [W219.size]; exact Z217
      refine own_st (T' := T219) (F' := (mkF m 60 #[.val (.int b0), .val (.int b1), .val (.int b2), .val (.int b3), .val (.int sh), .val (.int fi), .val (.int (1 : Int32)), .val (.int (4 : Int32)), .val (.ref b213), .unset] [])) (st219) ?_
      refine own_st (T' := T219) (F' := (mkF m 62 #[.val (.int b0), .val (.int b1), .val (.int b2), .val (.int b3), .val (.int sh), .val (.int fi), .val (.int (1 : Int32)), .val (.int (4 : Int32)), .val (.ref b213), .unset] [(.int (4 : Int32))])) (fun _ kq => XS.iload X219.here hx rfl (hb hby at_60) rfl kq) ?_
      refine own_st (T' := T219) (F' := (mkF m 63 #[.val (.int b0), .val (.int b1), .val (.int b2), .val (.int b3), .val (.int sh), .val (.int fi), .val (.int (1 : Int32)), .val (.int (4 : Int32)), .val (.ref b213), .unset] [(.int (2 : Int32)), (.int (4 : Int32))])) (fun _ kq => XS.iconst X219.here hx rfl (hb hby at_62) kq) ?_
      refine own_st (T' := T219) (F' := (mkF m 66 #[.val (.int b0), .val (.int b1), .val (.int b2), .val (.int b3), .val (.int sh), .val (.int fi), .val (.int (1 : Int32)), .val (.int (4 : Int32)), .val (.ref b213), .unset] [])) (fun _ kq => XS.icmpNo X219.here hx rfl (hb hby at_63) rfl (tlt (by decide : (2 : Int32) < (4 : Int32))).2.2.2 kq) ?_
      refine own_st (T' := T219) (F' := (mkF m 68 #[.val (.int b0), .val (.int b1), .val (.int b2), .val (.int b3), .val (.int sh), .val (.int fi), .val (.int (1 : Int32)), .val (.int (4 : Int32)), .val (.ref b213), .unset] [(.ref b213)])) (fun _ kq => XS.aload X219.here hx rfl (hb hby at_66) rfl rfl kq) ?_
      refine own_st (T' := T219) (F' := (mkF m 70 #[.val (.int b0), .val (.int b1), .val (.int b2), .val (.int b3), .val (.int sh), .val (.int fi), .val (.int (1 : Int32)), .val (.int (4 : Int32)), .val (.ref b213), .unset] [(.int (1 : Int32)), (.ref b213)])) (fun _ kq => XS.iload X219.here hx rfl (hb hby at_68) rfl kq) ?_
      refine own_st (T' := T219) (F' := (mkF m 71 #[.val (.int b0), .val (.int b1), .val (.int b2), .val (.int b3), .val (.int sh), .val (.int fi), .val (.int (1 : Int32)), .val (.int (4 : Int32)), .val (.ref b213), .unset] [(.int (2 : Int32)), (.int (1 : Int32)), (.ref b213)])) (fun _ kq => XS.iconst X219.here hx rfl (hb hby at_70) kq) ?_
      refine own_st (T' := T219) (F' := (mkF m 72 #[.val (.int b0), .val (.int b1), .val (.int b2), .val (.int b3), .val (.int sh), .val (.int fi), .val (.int (1 : Int32)), .val (.int (4 : Int32)), .val (.ref b213), .unset] [(.int (3 : Int32)), (.ref b213)])) (fun _ kq => XS.iadd X219.here hx rfl (hb hby at_71) rfl kq) ?_
      refine own_st (T' := T219) (F' := (mkF m 73 #[.val (.int b0), .val (.int b1), .val (.int b2), .val (.int b3), .val (.int sh), .val (.int fi), .val (.int (1 : Int32)), .val (.int (4 : Int32)), .val (.ref b213), .unset] [(.int b2), (.int (3 : Int32)), (.ref b213)])) (fun _ kq => XS.iloadN X219.here hx rfl (hb hby at_72) rfl kq) ?_
      refine own_st (T' := T219) (F' := (mkF m 74 #[.val (.int b0), .val (.int b1), .val (.int b2), .val (.int b3), .val (.int sh), .val (.int fi), .val (.int (1 : Int32)), .val (.int (4 : Int32)), .val (.ref b213), .unset] [(.int (b2.toInt8.toInt32)), (.int (3 : Int32)), (.ref b213)])) (fun _ kq => XS.i2b X219.here hx rfl (hb hby at_73) rfl kq) ?_
      obtain ⟨T221, h221, locs221, X221, e221, N221, W221, V221, st221⟩ := own_stB X219 hx hZ e219 N219 (ys := [((fi.toInt8.toInt32).toInt8.toInt32), ((b0.toInt8.toInt32).toInt8.toInt32), ((b1.toInt8.toInt32).toInt8.toInt32), ((b2.toInt8.toInt32).toInt8.toInt32), (0 : Int32)]) V219 gb213 (g := (mkF m 74 #[.val (.int b0), .val (.int b1), .val (.int b2), .val (.int b3), .val (.int sh), .val (.int fi), .val (.int (1 : Int32)), .val (.int (4 : Int32)), .val (.ref b213), .unset] [(.int (b2.toInt8.toInt32)), (.int (3 : Int32)), (.ref b213)])) rfl rfl (hb hby at_74) (by decide) (Nat.le_of_ble_eq_true rfl) rfl
      have Z221 : n0 ≤ h221.size := by rw [W221.size]; exact Z219
      refine own_st (T' := T221) (F' := (mkF m 75 #[.val (.int b0), .val (.int b1), .val (.int b2), .val (.int b3), .val (.int sh), .val (.int fi), .val (.int (1 : Int32)), .val (.int (4 : Int32)), .val (.ref b213), .unset] [])) (st221) ?_
      refine own_st (T' := T221) (F' := (mkF m 77 #[.val (.int b0), .val (.int b1), .val (.int b2), .val (.int b3), .val (.int sh), .val (.int fi), .val (.int (1 : Int32)), .val (.int (4 : Int32)), .val (.ref b213), .unset] [(.int (4 : Int32))])) (fun _ kq => XS.iload X221.here hx rfl (hb hby at_75) rfl kq) ?_
      refine own_st (T' := T221) (F' := (mkF m 78 #[.val (.int b0), .val (.int b1), .val (.int b2), .val (.int b3), .val (.int sh), .val (.int fi), .val (.int (1 : Int32)), .val (.int (4 : Int32)), .val (.ref b213), .unset] [(.int (3 : Int32)), (.int (4 : Int32))])) (fun _ kq => XS.iconst X221.here hx rfl (hb hby at_77) kq) ?_
      refine own_st (T' := T221) (F' := (mkF m 81 #[.val (.int b0), .val (.int b1), .val (.int b2), .val (.int b3), .val (.int sh), .val (.int fi), .val (.int (1 : Int32)), .val (.int (4 : Int32)), .val (.ref b213), .unset] [])) (fun _ kq => XS.icmpNo X221.here hx rfl (hb hby at_78) rfl (tlt (by decide : (3 : Int32) < (4 : Int32))).2.2.2 kq) ?_
      refine own_st (T' := T221) (F' := (mkF m 83 #[.val (.int b0), .val (.int b1), .val (.int b2), .val (.int b3), .val (.int sh), .val (.int fi), .val (.int (1 : Int32)), .val (.int (4 : Int32)), .val (.ref b213), .unset] [(.ref b213)])) (fun _ kq => XS.aload X221.here hx rfl (hb hby at_81) rfl rfl kq) ?_
      refine own_st (T' := T221) (F' := (mkF m 85 #[.val (.int b0), .val (.int b1), .val (.int b2), .val (.int b3), .val (.int sh), .val (.int fi), .val (.int (1 : Int32)), .val (.int (4 : Int32)), .val (.ref b213), .unset] [(.int (1 : Int32)), (.ref b213)])) (fun _ kq => XS.iload X221.here hx rfl (hb hby at_83) rfl kq) ?_
      refine own_st (T' := T221) (F' := (mkF m 86 #[.val (.int b0), .val (.int b1), .val (.int b2), .val (.int b3), .val (.int sh), .val (.int fi), .val (.int (1 : Int32)), .val (.int (4 : Int32)), .val (.ref b213), .unset] [(.int (3 : Int32)), (.int (1 : Int32)), (.ref b213)])) (fun _ kq => XS.iconst X221.here hx rfl (hb hby at_85) kq) ?_
      refine own_st (T' := T221) (F' := (mkF m 87 #[.val (.int b0), .val (.int b1), .val (.int b2), .val (.int b3), .val (.int sh), .val (.int fi), .val (.int (1 : Int32)), .val (.int (4 : Int32)), .val (.ref b213), .unset] [(.int (4 : Int32)), (.ref b213)])) (fun _ kq => XS.iadd X221.here hx rfl (hb hby at_86) rfl kq) ?_
      refine own_st (T' := T221) (F' := (mkF m 88 #[.val (.int b0), .val (.int b1), .val (.int b2), .val (.int b3), .val (.int sh), .val (.int fi), .val (.int (1 : Int32)), .val (.int (4 : Int32)), .val (.ref b213), .unset] [(.int b3), (.int (4 : Int32)), (.ref b213)])) (fun _ kq => XS.iloadN X221.here hx rfl (hb hby at_87) rfl kq) ?_
      refine own_st (T' := T221) (F' := (mkF m 89 #[.val (.int b0), .val (.int b1), .val (.int b2), .val (.int b3), .val (.int sh), .val (.int fi), .val (.int (1 : Int32)), .val (.int (4 : Int32)), .val (.ref b213), .unset] [(.int (b3.toInt8.toInt32)), (.int (4 : Int32)), (.ref b213)])) (fun _ kq => XS.i2b X221.here hx rfl (hb hby at_88) rfl kq) ?_
      obtain ⟨T223, h223, locs223, X223, e223, N223, W223, V223, st223⟩ := own_stB X221 hx hZ e221 N221 (ys := [((fi.toInt8.toInt32).toInt8.toInt32), ((b0.toInt8.toInt32).toInt8.toInt32), ((b1.toInt8.toInt32).toInt8.toInt32), ((b2.toInt8.toInt32).toInt8.toInt32), ((b3.toInt8.toInt32).toInt8.toInt32)]) V221 gb213 (g := (mkF m 89 #[.val (.int b0), .val (.int b1), .val (.int b2), .val (.int b3), .val (.int sh), .val (.int fi), .val (.int (1 : Int32)), .val (.int (4 : Int32)), .val (.ref b213), .unset] [(.int (b3.toInt8.toInt32)), (.int (4 : Int32)), (.ref b213)])) rfl rfl (hb hby at_89) (by decide) (Nat.le_of_ble_eq_true rfl) rfl
      have Z223 : n0 ≤ h223.size := by rw [W223.size]; exact Z221
      refine own_st (T' := T223) (F' := (mkF m 90 #[.val (.int b0), .val (.int b1), .val (.int b2), .val (.int b3), .val (.int sh), .val (.int fi), .val (.int (1 : Int32)), .val (.int (4 : Int32)), .val (.ref b213), .unset] [])) (st223) ?_
      refine own_st (T' := T223) (F' := (mkF m 92 #[.val (.int b0), .val (.int b1), .val (.int b2), .val (.int b3), .val (.int sh), .val (.int fi), .val (.int (1 : Int32)), .val (.int (4 : Int32)), .val (.ref b213), .unset] [(.ref b213)])) (fun _ kq => XS.aload X223.here hx rfl (hb hby at_90) rfl rfl kq) ?_
      refine own_st (T' := T223) (F' := (mkF m 94 #[.val (.int b0), .val (.int b1), .val (.int b2), .val (.int b3), .val (.int sh), .val (.int fi), .val (.int (1 : Int32)), .val (.int (4 : Int32)), .val (.ref b213), .unset] [(.int (1 : Int32)), (.ref b213)])) (fun _ kq => XS.iload X223.here hx rfl (hb hby at_92) rfl kq) ?_
      obtain ⟨T225, locs225, X225, e225, N225, st225⟩ := own_callP X223 hx hZ 0 hown (hw _ (List.mem_of_getElem? (i := 1) rfl)) (hw _ (List.mem_of_getElem? (i := 2) rfl)) (hw _ (List.mem_of_getElem? (i := 3) rfl)) (hw _ (List.mem_of_getElem? (i := 4) rfl)) (by decide) (rm1_1_4 l Z a0 hw [] b213 ((fi.toInt8.toInt32).toInt8.toInt32) ((b0.toInt8.toInt32).toInt8.toInt32) ((b1.toInt8.toInt32).toInt8.toInt32) ((b2.toInt8.toInt32).toInt8.toInt32) ((b3.toInt8.toInt32).toInt8.toInt32) h223 n0 V223) (by decide) (by decide) rfl rfl e223 N223 (by decide) (by decide) (g := (mkF m 94 #[.val (.int b0), .val (.int b1), .val (.int b2), .val (.int b3), .val (.int sh), .val (.int fi), .val (.int (1 : Int32)), .val (.int (4 : Int32)), .val (.ref b213), .unset] [(.int (1 : Int32)), (.ref b213)])) rfl (by rw [hml]; rfl) (argsL := [(.ref b213), (.int (1 : Int32))]) (rest := []) (lenOf pd1 rfl) rfl rfl (by show 2 * 0 + _ ≤ _; exact Nat.le_of_eq rfl) (hb hby at_94)
      refine own_st (T' := T225) (F' := (mkF m 97 #[.val (.int b0), .val (.int b1), .val (.int b2), .val (.int b3), .val (.int sh), .val (.int fi), .val (.int (1 : Int32)), .val (.int (4 : Int32)), .val (.ref b213), .unset] [(.int (sl4 ((b0.toInt8.toInt32).toInt8.toInt32) ((b1.toInt8.toInt32).toInt8.toInt32) ((b2.toInt8.toInt32).toInt8.toInt32) ((b3.toInt8.toInt32).toInt8.toInt32)))])) (st225) ?_
      refine own_st (T' := T225) (F' := (mkF m 99 #[.val (.int b0), .val (.int b1), .val (.int b2), .val (.int b3), .val (.int sh), .val (.int fi), .val (.int (1 : Int32)), .val (.int (4 : Int32)), .val (.ref b213), .val (.int (sl4 ((b0.toInt8.toInt32).toInt8.toInt32) ((b1.toInt8.toInt32).toInt8.toInt32) ((b2.toInt8.toInt32).toInt8.toInt32) ((b3.toInt8.toInt32).toInt8.toInt32)))] [])) (fun _ kq => XS.istore X225.here hx rfl (hb hby at_97) rfl (l' := #[.val (.int b0), .val (.int b1), .val (.int b2), .val (.int b3), .val (.int sh), .val (.int fi), .val (.int (1 : Int32)), .val (.int (4 : Int32)), .val (.ref b213), .val (.int (sl4 ((b0.toInt8.toInt32).toInt8.toInt32) ((b1.toInt8.toInt32).toInt8.toInt32) ((b2.toInt8.toInt32).toInt8.toInt32) ((b3.toInt8.toInt32).toInt8.toInt32)))]) rfl kq) ?_
      refine own_st (T' := T225) (F' := (mkF m 101 #[.val (.int b0), .val (.int b1), .val (.int b2), .val (.int b3), .val (.int sh), .val (.int fi), .val (.int (1 : Int32)), .val (.int (4 : Int32)), .val (.ref b213), .val (.int (sl4 ((b0.toInt8.toInt32).toInt8.toInt32) ((b1.toInt8.toInt32).toInt8.toInt32) ((b2.toInt8.toInt32).toInt8.toInt32) ((b3.toInt8.toInt32).toInt8.toInt32)))] [(.int (sl4 ((b0.toInt8.toInt32).toInt8.toInt32) ((b1.toInt8.toInt32).toInt8.toInt32) ((b2.toInt8.toInt32).toInt8.toInt32) ((b3.toInt8.toInt32).toInt8.toInt32)))])) (fun _ kq => XS.iload X225.here hx rfl (hb hby at_99) rfl kq) ?_
      refine own_st (T' := T225) (F' := (mkF m 102 #[.val (.int b0), .val (.int b1), .val (.int b2), .val (.int b3), .val (.int sh), .val (.int fi), .val (.int (1 : Int32)), .val (.int (4 : Int32)), .val (.ref b213), .val (.int (sl4 ((b0.toInt8.toInt32).toInt8.toInt32) ((b1.toInt8.toInt32).toInt8.toInt32) ((b2.toInt8.toInt32).toInt8.toInt32) ((b3.toInt8.toInt32).toInt8.toInt32)))] [(.int b0), (.int (sl4 ((b0.toInt8.toInt32).toInt8.toInt32) ((b1.toInt8.toInt32).toInt8.toInt32) ((b2.toInt8.toInt32).toInt8.toInt32) ((b3.toInt8.toInt32).toInt8.toInt32)))])) (fun _ kq => XS.iloadN X225.here hx rfl (hb hby at_101) rfl kq) ?_
      refine own_st (T' := T225) (F' := (mkF m 105 #[.val (.int b0), .val (.int b1), .val (.int b2), .val (.int b3), .val (.int sh), .val (.int fi), .val (.int (1 : Int32)), .val (.int (4 : Int32)), .val (.ref b213), .val (.int (sl4 ((b0.toInt8.toInt32).toInt8.toInt32) ((b1.toInt8.toInt32).toInt8.toInt32) ((b2.toInt8.toInt32).toInt8.toInt32) ((b3.toInt8.toInt32).toInt8.toInt32)))] [(.int (255 : Int32)), (.int b0), (.int (sl4 ((b0.toInt8.toInt32).toInt8.toInt32) ((b1.toInt8.toInt32).toInt8.toInt32) ((b2.toInt8.toInt32).toInt8.toInt32) ((b3.toInt8.toInt32).toInt8.toInt32)))])) (fun _ kq => XS.sipush X225.here hx rfl (hb hby at_102) kq) ?_
      refine own_st (T' := T225) (F' := (mkF m 106 #[.val (.int b0), .val (.int b1), .val (.int b2), .val (.int b3), .val (.int sh), .val (.int fi), .val (.int (1 : Int32)), .val (.int (4 : Int32)), .val (.ref b213), .val (.int (sl4 ((b0.toInt8.toInt32).toInt8.toInt32) ((b1.toInt8.toInt32).toInt8.toInt32) ((b2.toInt8.toInt32).toInt8.toInt32) ((b3.toInt8.toInt32).toInt8.toInt32)))] [(.int (b0 &&& (255 : Int32))), (.int (sl4 ((b0.toInt8.toInt32).toInt8.toInt32) ((b1.toInt8.toInt32).toInt8.toInt32) ((b2.toInt8.toInt32).toInt8.toInt32) ((b3.toInt8.toInt32).toInt8.toInt32)))])) (fun _ kq => XS.iand X225.here hx rfl (hb hby at_105) rfl kq) ?_
      refine own_st (T' := T225) (F' := (mkF m 107 #[.val (.int b0), .val (.int b1), .val (.int b2), .val (.int b3), .val (.int sh), .val (.int fi), .val (.int (1 : Int32)), .val (.int (4 : Int32)), .val (.ref b213), .val (.int (sl4 ((b0.toInt8.toInt32).toInt8.toInt32) ((b1.toInt8.toInt32).toInt8.toInt32) ((b2.toInt8.toInt32).toInt8.toInt32) ((b3.toInt8.toInt32).toInt8.toInt32)))] [(.int b1), (.int (b0 &&& (255 : Int32))), (.int (sl4 ((b0.toInt8.toInt32).toInt8.toInt32) ((b1.toInt8.toInt32).toInt8.toInt32) ((b2.toInt8.toInt32).toInt8.toInt32) ((b3.toInt8.toInt32).toInt8.toInt32)))])) (fun _ kq => XS.iloadN X225.here hx rfl (hb hby at_106) rfl kq) ?_
      refine own_st (T' := T225) (F' := (mkF m 110 #[.val (.int b0), .val (.int b1), .val (.int b2), .val (.int b3), .val (.int sh), .val (.int fi), .val (.int (1 : Int32)), .val (.int (4 : Int32)), .val (.ref b213), .val (.int (sl4 ((b0.toInt8.toInt32).toInt8.toInt32) ((b1.toInt8.toInt32).toInt8.toInt32) ((b2.toInt8.toInt32).toInt8.toInt32) ((b3.toInt8.toInt32).toInt8.toInt32)))] [(.int (255 : Int32)), (.int b1), (.int (b0 &&& (255 : Int32))), (.int (sl4 ((b0.toInt8.toInt32).toInt8.toInt32) ((b1.toInt8.toInt32).toInt8.toInt32) ((b2.toInt8.toInt32).toInt8.toInt32) ((b3.toInt8.toInt32).toInt8.toInt32)))])) (fun _ kq => XS.sipush X225.here hx rfl (hb hby at_107) kq) ?_
      refine own_st (T' := T225) (F' := (mkF m 111 #[.val (.int b0), .val (.int b1), .val (.int b2), .val (.int b3), .val (.int sh), .val (.int fi), .val (.int (1 : Int32)), .val (.int (4 : Int32)), .val (.ref b213), .val (.int (sl4 ((b0.toInt8.toInt32).toInt8.toInt32) ((b1.toInt8.toInt32).toInt8.toInt32) ((b2.toInt8.toInt32).toInt8.toInt32) ((b3.toInt8.toInt32).toInt8.toInt32)))] [(.int (b1 &&& (255 : Int32))), (.int (b0 &&& (255 : Int32))), (.int (sl4 ((b0.toInt8.toInt32).toInt8.toInt32) ((b1.toInt8.toInt32).toInt8.toInt32) ((b2.toInt8.toInt32).toInt8.toInt32) ((b3.toInt8.toInt32).toInt8.toInt32)))])) (fun _ kq => XS.iand X225.here hx rfl (hb hby at_110) rfl kq) ?_
      refine own_st (T' := T225) (F' := (mkF m 112 #[.val (.int b0), .val (.int b1), .val (.int b2), .val (.int b3), .val (.int sh), .val (.int fi), .val (.int (1 : Int32)), .val (.int (4 : Int32)), .val (.ref b213), .val (.int (sl4 ((b0.toInt8.toInt32).toInt8.toInt32) ((b1.toInt8.toInt32).toInt8.toInt32) ((b2.toInt8.toInt32).toInt8.toInt32) ((b3.toInt8.toInt32).toInt8.toInt32)))] [(.int b2), (.int (b1 &&& (255 : Int32))), (.int (b0 &&& (255 : Int32))), (.int (sl4 ((b0.toInt8.toInt32).toInt8.toInt32) ((b1.toInt8.toInt32).toInt8.toInt32) ((b2.toInt8.toInt32).toInt8.toInt32) ((b3.toInt8.toInt32).toInt8.toInt32)))])) (fun _ kq => XS.iloadN X225.here hx rfl (hb hby at_111) rfl kq) ?_
      refine own_st (T' := T225) (F' := (mkF m 115 #[.val (.int b0), .val (.int b1), .val (.int b2), .val (.int b3), .val (.int sh), .val (.int fi), .val (.int (1 : Int32)), .val (.int (4 : Int32)), .val (.ref b213), .val (.int (sl4 ((b0.toInt8.toInt32).toInt8.toInt32) ((b1.toInt8.toInt32).toInt8.toInt32) ((b2.toInt8.toInt32).toInt8.toInt32) ((b3.toInt8.toInt32).toInt8.toInt32)))] [(.int (255 : Int32)), (.int b2), (.int (b1 &&& (255 : Int32))), (.int (b0 &&& (255 : Int32))), (.int (sl4 ((b0.toInt8.toInt32).toInt8.toInt32) ((b1.toInt8.toInt32).toInt8.toInt32) ((b2.toInt8.toInt32).toInt8.toInt32) ((b3.toInt8.toInt32).toInt8.toInt32)))])) (fun _ kq => XS.sipush X225.here hx rfl (hb hby at_112) kq) ?_
      refine own_st (T' := T225) (F' := (mkF m 116 #[.val (.int b0), .val (.int b1), .val (.int b2), .val (.int b3), .val (.int sh), .val (.int fi), .val (.int (1 : Int32)), .val (.int (4 : Int32)), .val (.ref b213), .val (.int (sl4 ((b0.toInt8.toInt32).toInt8.toInt32) ((b1.toInt8.toInt32).toInt8.toInt32) ((b2.toInt8.toInt32).toInt8.toInt32) ((b3.toInt8.toInt32).toInt8.toInt32)))] [(.int (b2 &&& (255 : Int32))), (.int (b1 &&& (255 : Int32))), (.int (b0 &&& (255 : Int32))), (.int (sl4 ((b0.toInt8.toInt32).toInt8.toInt32) ((b1.toInt8.toInt32).toInt8.toInt32) ((b2.toInt8.toInt32).toInt8.toInt32) ((b3.toInt8.toInt32).toInt8.toInt32)))])) (fun _ kq => XS.iand X225.here hx rfl (hb hby at_115) rfl kq) ?_
      refine own_st (T' := T225) (F' := (mkF m 117 #[.val (.int b0), .val (.int b1), .val (.int b2), .val (.int b3), .val (.int sh), .val (.int fi), .val (.int (1 : Int32)), .val (.int (4 : Int32)), .val (.ref b213), .val (.int (sl4 ((b0.toInt8.toInt32).toInt8.toInt32) ((b1.toInt8.toInt32).toInt8.toInt32) ((b2.toInt8.toInt32).toInt8.toInt32) ((b3.toInt8.toInt32).toInt8.toInt32)))] [(.int b3), (.int (b2 &&& (255 : Int32))), (.int (b1 &&& (255 : Int32))), (.int (b0 &&& (255 : Int32))), (.int (sl4 ((b0.toInt8.toInt32).toInt8.toInt32) ((b1.toInt8.toInt32).toInt8.toInt32) ((b2.toInt8.toInt32).toInt8.toInt32) ((b3.toInt8.toInt32).toInt8.toInt32)))])) (fun _ kq => XS.iloadN X225.here hx rfl (hb hby at_116) rfl kq) ?_
      refine own_st (T' := T225) (F' := (mkF m 120 #[.val (.int b0), .val (.int b1), .val (.int b2), .val (.int b3), .val (.int sh), .val (.int fi), .val (.int (1 : Int32)), .val (.int (4 : Int32)), .val (.ref b213), .val (.int (sl4 ((b0.toInt8.toInt32).toInt8.toInt32) ((b1.toInt8.toInt32).toInt8.toInt32) ((b2.toInt8.toInt32).toInt8.toInt32) ((b3.toInt8.toInt32).toInt8.toInt32)))] [(.int (255 : Int32)), (.int b3), (.int (b2 &&& (255 : Int32))), (.int (b1 &&& (255 : Int32))), (.int (b0 &&& (255 : Int32))), (.int (sl4 ((b0.toInt8.toInt32).toInt8.toInt32) ((b1.toInt8.toInt32).toInt8.toInt32) ((b2.toInt8.toInt32).toInt8.toInt32) ((b3.toInt8.toInt32).toInt8.toInt32)))])) (fun _ kq => XS.sipush X225.here hx rfl (hb hby at_117) kq) ?_
      refine own_st (T' := T225) (F' := (mkF m 121 #[.val (.int b0), .val (.int b1), .val (.int b2), .val (.int b3), .val (.int sh), .val (.int fi), .val (.int (1 : Int32)), .val (.int (4 : Int32)), .val (.ref b213), .val (.int (sl4 ((b0.toInt8.toInt32).toInt8.toInt32) ((b1.toInt8.toInt32).toInt8.toInt32) ((b2.toInt8.toInt32).toInt8.toInt32) ((b3.toInt8.toInt32).toInt8.toInt32)))] [(.int (b3 &&& (255 : Int32))), (.int (b2 &&& (255 : Int32))), (.int (b1 &&& (255 : Int32))), (.int (b0 &&& (255 : Int32))), (.int (sl4 ((b0.toInt8.toInt32).toInt8.toInt32) ((b1.toInt8.toInt32).toInt8.toInt32) ((b2.toInt8.toInt32).toInt8.toInt32) ((b3.toInt8.toInt32).toInt8.toInt32)))])) (fun _ kq => XS.iand X225.here hx rfl (hb hby at_120) rfl kq) ?_
      refine own_st (T' := T225) (F' := (mkF m 123 #[.val (.int b0), .val (.int b1), .val (.int b2), .val (.int b3), .val (.int sh), .val (.int fi), .val (.int (1 : Int32)), .val (.int (4 : Int32)), .val (.ref b213), .val (.int (sl4 ((b0.toInt8.toInt32).toInt8.toInt32) ((b1.toInt8.toInt32).toInt8.toInt32) ((b2.toInt8.toInt32).toInt8.toInt32) ((b3.toInt8.toInt32).toInt8.toInt32)))] [(.int (4 : Int32)), (.int (b3 &&& (255 : Int32))), (.int (b2 &&& (255 : Int32))), (.int (b1 &&& (255 : Int32))), (.int (b0 &&& (255 : Int32))), (.int (sl4 ((b0.toInt8.toInt32).toInt8.toInt32) ((b1.toInt8.toInt32).toInt8.toInt32) ((b2.toInt8.toInt32).toInt8.toInt32) ((b3.toInt8.toInt32).toInt8.toInt32)))])) (fun _ kq => XS.iload X225.here hx rfl (hb hby at_121) rfl kq) ?_
      obtain ⟨T226, locs226, X226, e226, N226, st226⟩ := own_callP X225 hx hZ 1 hown (hw _ (List.mem_of_getElem? (i := 5) rfl)) (hw _ (List.mem_of_getElem? (i := 6) rfl)) (hw _ (List.mem_of_getElem? (i := 7) rfl)) (hw _ (List.mem_of_getElem? (i := 8) rfl)) (by decide) (rm2 l Z a0 hw [] (b0 &&& (255 : Int32)) (b1 &&& (255 : Int32)) (b2 &&& (255 : Int32)) (b3 &&& (255 : Int32)) (4 : Int32) h223 n0) (by decide) (by decide) rfl rfl e225 N225 (by decide) (by decide) (g := (mkF m 123 #[.val (.int b0), .val (.int b1), .val (.int b2), .val (.int b3), .val (.int sh), .val (.int fi), .val (.int (1 : Int32)), .val (.int (4 : Int32)), .val (.ref b213), .val (.int (sl4 ((b0.toInt8.toInt32).toInt8.toInt32) ((b1.toInt8.toInt32).toInt8.toInt32) ((b2.toInt8.toInt32).toInt8.toInt32) ((b3.toInt8.toInt32).toInt8.toInt32)))] [(.int (4 : Int32)), (.int (b3 &&& (255 : Int32))), (.int (b2 &&& (255 : Int32))), (.int (b1 &&& (255 : Int32))), (.int (b0 &&& (255 : Int32))), (.int (sl4 ((b0.toInt8.toInt32).toInt8.toInt32) ((b1.toInt8.toInt32).toInt8.toInt32) ((b2.toInt8.toInt32).toInt8.toInt32) ((b3.toInt8.toInt32).toInt8.toInt32)))])) rfl (by rw [hml]; rfl) (argsL := [(.int (b0 &&& (255 : Int32))), (.int (b1 &&& (255 : Int32))), (.int (b2 &&& (255 : Int32))), (.int (b3 &&& (255 : Int32))), (.int (4 : Int32))]) (rest := [(.int (sl4 ((b0.toInt8.toInt32).toInt8.toInt32) ((b1.toInt8.toInt32).toInt8.toInt32) ((b2.toInt8.toInt32).toInt8.toInt32) ((b3.toInt8.toInt32).toInt8.toInt32)))]) (lenOf pd2 rfl) rfl rfl (by show 2 * 0 + _ ≤ _; exact Nat.le_of_eq rfl) (hb hby at_123)
      refine own_st (T' := T226) (F' := (mkF m 126 #[.val (.int b0), .val (.int b1), .val (.int b2), .val (.int b3), .val (.int sh), .val (.int fi), .val (.int (1 : Int32)), .val (.int (4 : Int32)), .val (.ref b213), .val (.int (sl4 ((b0.toInt8.toInt32).toInt8.toInt32) ((b1.toInt8.toInt32).toInt8.toInt32) ((b2.toInt8.toInt32).toInt8.toInt32) ((b3.toInt8.toInt32).toInt8.toInt32)))] [(.int (f2 (b0 &&& (255 : Int32)) (b1 &&& (255 : Int32)) (b2 &&& (255 : Int32)) (b3 &&& (255 : Int32)) (4 : Int32))), (.int (sl4 ((b0.toInt8.toInt32).toInt8.toInt32) ((b1.toInt8.toInt32).toInt8.toInt32) ((b2.toInt8.toInt32).toInt8.toInt32) ((b3.toInt8.toInt32).toInt8.toInt32)))])) (st226) ?_
      refine own_st (T' := T226) (F' := (mkF m 129 #[.val (.int b0), .val (.int b1), .val (.int b2), .val (.int b3), .val (.int sh), .val (.int fi), .val (.int (1 : Int32)), .val (.int (4 : Int32)), .val (.ref b213), .val (.int (sl4 ((b0.toInt8.toInt32).toInt8.toInt32) ((b1.toInt8.toInt32).toInt8.toInt32) ((b2.toInt8.toInt32).toInt8.toInt32) ((b3.toInt8.toInt32).toInt8.toInt32)))] [])) (fun _ kq => XS.icmpNo X226.here hx rfl (hb hby at_126) rfl (teq (own_law4 b0 b1 b2 b3)).2 kq) ?_
      refine own_st (T' := T226) (F' := (mkF m 130 #[.val (.int b0), .val (.int b1), .val (.int b2), .val (.int b3), .val (.int sh), .val (.int fi), .val (.int (1 : Int32)), .val (.int (4 : Int32)), .val (.ref b213), .val (.int (sl4 ((b0.toInt8.toInt32).toInt8.toInt32) ((b1.toInt8.toInt32).toInt8.toInt32) ((b2.toInt8.toInt32).toInt8.toInt32) ((b3.toInt8.toInt32).toInt8.toInt32)))] [(.int (1 : Int32))])) (fun _ kq => XS.iconst X226.here hx rfl (hb hby at_129) kq) ?_
      refine own_st (T' := T226) (F' := (mkF m 134 #[.val (.int b0), .val (.int b1), .val (.int b2), .val (.int b3), .val (.int sh), .val (.int fi), .val (.int (1 : Int32)), .val (.int (4 : Int32)), .val (.ref b213), .val (.int (sl4 ((b0.toInt8.toInt32).toInt8.toInt32) ((b1.toInt8.toInt32).toInt8.toInt32) ((b2.toInt8.toInt32).toInt8.toInt32) ((b3.toInt8.toInt32).toInt8.toInt32)))] [(.int (1 : Int32))])) (fun _ kq => XS.goto X226.here hx rfl (pc0 := 130) (pc' := 134) rfl (hb hby at_130) (by decide) (by decide) kq) ?_
      exact own_retN X226 hx hlk hret (by simp) (hb hby at_134) (by decide) (by decide) ⟨rfl, N226⟩
set_option maxRecDepth 65536 in
theorem comes_1 {Post : Tables → Env → Array Value → State → Outcome → State → Prop} (hpost : ∀ tb e args s v u, (limb_1_1.after args s (.returned v) u = true ∧ limb_1_2.after args s (.returned v) u = true ∧ True) → FrameEnd s (.returned v) u (Jvm.fieldLocs frame_1_writes args s ++ Jvm.arrayLocs frame_1_arrays args s ++ Jvm.staticLocs frame_1_statics s) 16 128 → Post tb e args s (.returned v) u) :
    ArmFor flags0 classFile x code maxLocals ret World_1 tables_1 room_1 Calls_1 rest_1 Pre_1 Post := by
  intro l hfl _ _ p e ha hc hk s m args below hf hA hF happ hP
  obtain ⟨hcalls, hrest, hpre⟩ := hP
  obtain ⟨-, -, -, hnamed, -, -, -, hat⟩ := (Spec.applies_iff hf).mp happ
  obtain ⟨hg, hn⟩ := and_e (Cond.before_iff.mp (show (Jvm.Cond.and given_1 narrow_1).before args s = true from hpre))
  obtain ⟨g0, r0⟩ := and_e hg
  obtain ⟨g1, r1⟩ := and_e r0
  obtain ⟨g2, r2⟩ := and_e r1
  obtain ⟨g3, r3⟩ := and_e r2
  obtain ⟨g4, r4⟩ := and_e r3
  obtain ⟨g5, r5⟩ := and_e r4
  obtain ⟨w0, w1, w2, w3, w4, w5, rfl⟩ : ∃ w0 w1 w2 w3 w4 w5 : Value, args = #[w0, w1, w2, w3, w4, w5] := by
    have hs : args.size = 6 := by simpa [Cond.value, given_1] using g0
    obtain ⟨L⟩ := args
    match L, hs with
    | [w0, w1, w2, w3, w4, w5], _ => exact ⟨w0, w1, w2, w3, w4, w5, rfl⟩
  have hw := fun d (hd : d ∈ tables_1) => atoms_spec (ws := Jvm.Cond.code x code maxLocals ret :: tables_1) hat d (List.mem_cons_of_mem _ hd)
  obtain ⟨i0, ei0⟩ := is_v g1
  obtain rfl : w0 = (.int i0) := Option.some.inj ei0
  obtain ⟨i1, ei1⟩ := is_v g2
  obtain rfl : w1 = (.int i1) := Option.some.inj ei1
  obtain ⟨i2, ei2⟩ := is_v g3
  obtain rfl : w2 = (.int i2) := Option.some.inj ei2
  obtain ⟨i3, ei3⟩ := is_v g4
  obtain rfl : w3 = (.int i3) := Option.some.inj ei3
  obtain ⟨i4, ei4⟩ := is_v g5
  obtain rfl : w4 = (.int i4) := Option.some.inj ei4
  obtain ⟨i5, ei5⟩ := is_v r5
  obtain rfl : w5 = (.int i5) := Option.some.inj ei5
  obtain ⟨n, o, h1, h2, h3, _, L, rfl, ⟨rfl, N⟩, hq⟩ := rm0 l s _ hw tables_1 i0 i1 i2 i3 i4 i5 s.heap s.heap.size (Nat.le_refl _) p e ha hc hk s m _ below hf ((Spec.applies_iff_loose hf).mp happ).1 ⟨rfl, State.Warmed39.refl s, rfl⟩ trivial
  refine ⟨n, _, h1, h2, h3, hpost _ _ _ _ _ _ ⟨Cond.after_iff.mpr rfl, Cond.after_iff.mpr (eq_i res_at (Term.int_eval (1)) rfl), trivial⟩ ⟨hq.1, hq.2.1, (hq.2.2.sift fun y hy => Or.inr (N y hy)).mono (by decide) (by decide)⟩⟩
theorem main_1_1 : Claimed_1_1 := comes_1 fun _ _ _ _ _ _ h hF => ⟨h.1, hF⟩
theorem main_1_2 : Claimed_1_2 := comes_1 fun _ _ _ _ _ _ h hF => ⟨h.2.1, hF⟩
end Jvm.Pilot.@@N@@
namespace Jvm.Pilot.@@N@@
open Jvm Jvm.ClassFile Sem Op Lib Jvm.Free Jvm.Stand Jvm.Pilot.@@N@@.Jvm.D
/-! MADE BY PROGRAM (witnessworld.py) out of the Statement's table words and the real class files: 9 classes; the members and pool entries that the words name. The judged class is class 1, her method 1. -/
namespace start1
open Jvm.ClassFile
def u (s : String) : CpInfo := .utf8 (stringToUtf16 s)
/-- a pool by its gaps: so many unusable entries, then the entry; so many at the end -/
def gap : Nat → List CpInfo → List CpInfo
  | 0, r => r
  | n + 1, r => .unusable :: gap n r
def poolList (es : List (Nat × CpInfo)) (last : Nat) : List CpInfo := es.foldr (fun e r => gap e.1 (e.2 :: r)) (gap last [])
def pool (es : List (Nat × CpInfo)) (last : Nat) : Array CpInfo := ⟨poolList es last⟩
def fileOf (pool : Array CpInfo) (this : Nat) (attrs : Array Attribute := #[]) (ms : Array MethodInfo := #[]) (fl : Nat := 33) (sup : Nat := 0) (ifs : Array Nat := #[]) (fds : Array FieldInfo := #[]) : ClassFile where
  minorVersion := 0
  majorVersion := 65
  constantPool := pool
  accessFlags := fl
  thisClass := this
  superClass := sup
  interfaces := ifs
  fields := fds
  methods := ms
  attributes := attrs
def plain (name : String) (sup : Option ClassId) : Class where
  name := name
  kind := .ordinary
  loader := none
  accessFlags := 33
  super := sup
  interfaces := #[]
  cf := none
  fields := #[]
  methods := #[]
  instanceTypes := #[]
  staticTypes := #[]
  resolved := #[]
  callSites := []
  init := .initialized
  statics := none
  mirror := none

def pool0 : Array CpInfo := pool [(5, u "<init>"), (0, u "()V"), (1, .class_ 10), (1, u "java/lang/Object")] 113

def k0m0 : Method := { name := "<init>", desc := "()V", sig := { parameters := [], returnType := none }, accessFlags := 1, code := none }
/-- java/lang/Object -/
def k0 : Class := { plain "java/lang/Object" none with
  accessFlags := 33
  interfaces := #[]
  cf := some (fileOf pool0 8 #[] #[{ accessFlags := 1, nameIndex := 5, descriptorIndex := 6, attributes := #[] }] 33 0 #[] #[])
  fields := #[]
  methods := #[k0m0]
  instanceTypes := #[]
  staticTypes := #[]
  resolved := Array.replicate 124 none
  statics := none }

def pool1 : Array CpInfo := pool [(2, .class_ 4), (1, u "java/lang/Object"), (0, u "<init>"), (0, u "()V"), (0, .methodref 8 9), (0, .class_ 10), (0, .nameAndType 11 12), (0, u "com/example/ogma/ogma/canon/Utf8"), (0, u "sequenceLength"), (0, u "([BI)I"), (0, .methodref 14 15), (0, .class_ 16), (0, .nameAndType 17 18), (0, u "com/example/ogma/ogma/canon/Utf8SequenceLengthPinLaw"), (0, u "expected"), (0, u "(IIIII)I"), (0, .methodref 14 20), (0, .nameAndType 21 22), (0, u "isCont"), (0, u "(I)Z"), (0, .integer 65536), (0, .integer 1114111), (0, .integer 55296), (0, .integer 57343), (2, u "law"), (0, u "(IIIIII)Z")] 5

def k1m0 : Method := { name := "<init>", desc := "()V", sig := { parameters := [], returnType := none }, accessFlags := 1, code := none }
def k1c1 : Code := { maxStack := 6, maxLocals := 10, code := code, exceptionTable := #[], attributes := #[] }
def k1m1 : Method := { name := "law", desc := "(IIIIII)Z", sig := { parameters := [.int, .int, .int, .int, .int, .int], returnType := some .boolean }, accessFlags := 9, code := some k1c1 }
def k1c2 : Code := { maxStack := 2, maxLocals := 1, code := method_3_code, exceptionTable := #[], attributes := #[] }
def k1m2 : Method := { name := "isCont", desc := "(I)Z", sig := { parameters := [.int], returnType := some .boolean }, accessFlags := 10, code := some k1c2 }
def k1c3 : Code := { maxStack := 3, maxLocals := 8, code := method_4_code, exceptionTable := #[], attributes := #[] }
def k1m3 : Method := { name := "expected", desc := "(IIIII)I", sig := { parameters := [.int, .int, .int, .int, .int], returnType := some .int }, accessFlags := 10, code := some k1c3 }
/-- com/example/ogma/ogma/canon/Utf8SequenceLengthPinLaw -/
def k1 : Class := { plain "com/example/ogma/ogma/canon/Utf8SequenceLengthPinLaw" (some 0) with
  accessFlags := 49
  interfaces := #[]
  cf := some (fileOf pool1 14 #[] #[{ accessFlags := 1, nameIndex := 5, descriptorIndex := 6, attributes := #[] }, { accessFlags := 9, nameIndex := 29, descriptorIndex := 30, attributes := #[] }, { accessFlags := 10, nameIndex := 21, descriptorIndex := 22, attributes := #[] }, { accessFlags := 10, nameIndex := 17, descriptorIndex := 18, attributes := #[] }] 49 2 #[] #[])
  fields := #[]
  methods := #[k1m0, k1m1, k1m2, k1m3]
  instanceTypes := #[]
  staticTypes := #[]
  resolved := Array.replicate 36 none
  statics := none }

def pool2 : Array CpInfo := pool [(2, .class_ 4), (1, u "java/lang/Object"), (0, u "<init>"), (0, u "()V"), (1, .class_ 10), (1, u "com/example/ogma/ogma/canon/Utf8"), (46, u "sequenceLength"), (0, u "([BI)I")] 12

def k2m0 : Method := { name := "<init>", desc := "()V", sig := { parameters := [], returnType := none }, accessFlags := 2, code := none }
def k2c1 : Code := { maxStack := 3, maxLocals := 8, code := prog_73_method_7_code, exceptionTable := #[], attributes := #[] }
def k2m1 : Method := { name := "sequenceLength", desc := "([BI)I", sig := { parameters := [(.array .byte), .int], returnType := some .int }, accessFlags := 8, code := some k2c1 }
/-- com/example/ogma/ogma/canon/Utf8 -/
def k2 : Class := { plain "com/example/ogma/ogma/canon/Utf8" (some 0) with
  accessFlags := 49
  interfaces := #[]
  cf := some (fileOf pool2 8 #[] #[{ accessFlags := 2, nameIndex := 5, descriptorIndex := 6, attributes := #[] }, { accessFlags := 8, nameIndex := 57, descriptorIndex := 58, attributes := #[] }] 49 2 #[] #[])
  fields := #[]
  methods := #[k2m0, k2m1]
  instanceTypes := #[]
  staticTypes := #[]
  resolved := Array.replicate 71 none
  statics := none }

def pool3 : Array CpInfo := pool [(1, u "java/lang/Cloneable"), (0, .class_ 1), (0, u "java/lang/Object"), (0, .class_ 3)] 3

/-- java/lang/Cloneable -/
def k3 : Class := { plain "java/lang/Cloneable" (some 0) with
  accessFlags := 1537
  interfaces := #[]
  cf := some (fileOf pool3 2 #[] #[] 1537 4 #[] #[])
  fields := #[]
  methods := #[]
  instanceTypes := #[]
  staticTypes := #[]
  resolved := Array.replicate 8 none
  statics := none }

def pool4 : Array CpInfo := pool [(1, u "java/io/Serializable"), (0, .class_ 1), (0, u "java/lang/Object"), (0, .class_ 3)] 3

/-- java/io/Serializable -/
def k4 : Class := { plain "java/io/Serializable" (some 0) with
  accessFlags := 1537
  interfaces := #[]
  cf := some (fileOf pool4 2 #[] #[] 1537 4 #[] #[])
  fields := #[]
  methods := #[]
  instanceTypes := #[]
  staticTypes := #[]
  resolved := Array.replicate 8 none
  statics := none }

/-- the primitive byte -/
def k5 : Class := { plain "byte" none with kind := .primitive 'B', accessFlags := 0x411 }
/-- [B -/
def k6 : Class := { plain "[B" (some 0) with kind := .array 5 .byte, interfaces := #[3, 4], accessFlags := 1041 }

/-- the primitive int -/
def k7 : Class := { plain "int" none with kind := .primitive 'I', accessFlags := 0x411 }
/-- [I -/
def k8 : Class := { plain "[I" (some 0) with kind := .array 7 .int, interfaces := #[3, 4], accessFlags := 1041 }

def heap : Heap := #[]
def classes : Array Class := #[k0, k1, k2, k3, k4, k5, k6, k7, k8]
def interned : List (Array UInt16 × Addr) := []
def slotsUsed : Nat := 0
def theMethod : MethodId := ⟨1, 1⟩
def args0 : Array Value := #[.int 5, .int 5, .int 5, .int 5, .int 5, .int 5]
def aboutOver (below : List Frame) : State where
  vm := { classes := classes, interned := interned.toArray }
  heap := heap
  slotsUsed := slotsUsed
  threads := #[{ frames := .invoking theMethod args0 :: below }]
def below0 : List Frame := [.native { method := ⟨0, 0⟩, args := #[] }]
def about1 : State := aboutOver below0
def p0 : Program := .bare "" "" ""
def e0 : Env := launch0.env 0 0 0
theorem w_frames : about1.frames = Frame.invoking theMethod args0 :: below0 := rfl
set_option maxRecDepth 65536 in
theorem w_args : argsFit about1.vm theMethod args0 = true := by decide +kernel
set_option maxRecDepth 65536 in
theorem w_heap : heapFits about1 = true := by decide +kernel
set_option maxRecDepth 65536 in
theorem w_runnable : about1.curStatus? = some .runnable := by decide +kernel
set_option maxRecDepth 65536 in
theorem w_alone : about1.alone = true := by decide +kernel
set_option maxRecDepth 65536 in
theorem w_named : about1.methodNamed? x = some theMethod := by decide +kernel
set_option maxRecDepth 65536 in
theorem w_hears : about1.hears theMethod below0 = true := by decide +kernel
set_option maxRecDepth 65536 in
theorem w_ripe : about1.ripe theMethod args0 below0 = true := by decide +kernel
theorem w_running : about1.status = .running := rfl
set_option maxRecDepth 65536 in
theorem w_room : about1.hasRoom e0.platform room_1 = true :=
  launch0.hasRoom_least _ room_1 (by decide +kernel) (by decide +kernel) (by decide +kernel) (by decide +kernel) (by decide +kernel) (by decide +kernel)
theorem allAtoms_all (ts : List Jvm.Cond) (a : Array Jvm.Value) (st : Jvm.State) : (allAtoms ts).before a st = ts.all (fun c => c.before a st) := by
  induction ts with
  | nil => rfl
  | cons c t ih =>
    show (Jvm.Cond.and c (allAtoms t)).before a st = _
    rw [Jvm.Cond.before_and, ih, List.all_cons]
def words1 : List Jvm.Cond := Jvm.Cond.code x code maxLocals ret :: tables_1
/-- a 'code' word, met by the world's own term for the bytes: nothing is compared byte by byte -/
theorem code_word {y : MethodName} {bytes : ByteArray} {mx : Nat} {rt : Option FieldType} {a : Array Value} {s : State} {m : MethodId} {meth : Method} {c : Code} (h1 : s.methodNamed? y = some m) (h2 : s.vm.method? m = some meth) (h3 : meth.code = some c) (h4 : c.code = bytes)
    (h5 : (c.maxLocals == mx && c.exceptionTable.isEmpty && decide (c.maxStack ≤ mostOperands) && decide (meth.sig.returnType = rt) && !meth.locks && decide (parseMethodDescriptor y.desc = some meth.sig)) = true) : (Jvm.Cond.code y bytes mx rt).before a s = true := by
  simp only [Bool.and_eq_true, beq_iff_eq, Bool.not_eq_true', decide_eq_true_eq] at h5
  obtain ⟨⟨⟨⟨⟨g1, g2⟩, g3⟩, g4⟩, g5⟩, g6⟩ := h5
  simp [Cond.before, Cond.holds, Cond.value, h1, h2, h3, h4, g1, g2, g3, g4, g5, g6]
def isCode : Jvm.Cond → Bool
  | .code _ _ _ _ => true
  | _ => false
theorem all_split {L : List Jvm.Cond} {P : Jvm.Cond → Bool} (h1 : L.all (fun c => isCode c || P c) = true) (h2 : ∀ c ∈ L.filter isCode, P c = true) : L.all P = true := by
  refine List.all_eq_true.mpr fun c hc => ?_
  have h := List.all_eq_true.mp h1 c hc
  rcases Bool.eq_false_or_eq_true (isCode c) with hi | hi
  · exact h2 c (List.mem_filter.mpr ⟨hc, hi⟩)
  · simpa [hi] using h
set_option maxRecDepth 65536 in
theorem w_c0 : (Jvm.Cond.code x code maxLocals ret).before args0 about1 = true := code_word (m := ⟨1, 1⟩) (meth := k1m1) (c := k1c1) (by decide +kernel) rfl rfl rfl (by decide +kernel)
set_option maxRecDepth 65536 in
theorem w_c1 : (Jvm.Cond.code ({ cls := "com/example/ogma/ogma/canon/Utf8", name := "sequenceLength", desc := "([BI)I" } : Jvm.MethodName) prog_73_method_7_code (8 : Nat) (Option.some Jvm.ClassFile.FieldType.int)).before args0 about1 = true := code_word (m := ⟨2, 1⟩) (meth := k2m1) (c := k2c1) (by decide +kernel) rfl rfl rfl (by decide +kernel)
set_option maxRecDepth 65536 in
theorem w_c2 : (Jvm.Cond.code ({ cls := "com/example/ogma/ogma/canon/Utf8SequenceLengthPinLaw", name := "expected", desc := "(IIIII)I" } : Jvm.MethodName) method_4_code (8 : Nat) (Option.some Jvm.ClassFile.FieldType.int)).before args0 about1 = true := code_word (m := ⟨1, 3⟩) (meth := k1m3) (c := k1c3) (by decide +kernel) rfl rfl rfl (by decide +kernel)
set_option maxRecDepth 65536 in
theorem w_c3 : (Jvm.Cond.code ({ cls := "com/example/ogma/ogma/canon/Utf8SequenceLengthPinLaw", name := "isCont", desc := "(I)Z" } : Jvm.MethodName) method_3_code (1 : Nat) (Option.some Jvm.ClassFile.FieldType.boolean)).before args0 about1 = true := code_word (m := ⟨1, 2⟩) (meth := k1m2) (c := k1c2) (by decide +kernel) rfl rfl rfl (by decide +kernel)
def codes1 : List Jvm.Cond := [Jvm.Cond.code x code maxLocals ret, Jvm.Cond.code ({ cls := "com/example/ogma/ogma/canon/Utf8", name := "sequenceLength", desc := "([BI)I" } : Jvm.MethodName) prog_73_method_7_code (8 : Nat) (Option.some Jvm.ClassFile.FieldType.int), Jvm.Cond.code ({ cls := "com/example/ogma/ogma/canon/Utf8SequenceLengthPinLaw", name := "expected", desc := "(IIIII)I" } : Jvm.MethodName) method_4_code (8 : Nat) (Option.some Jvm.ClassFile.FieldType.int), Jvm.Cond.code ({ cls := "com/example/ogma/ogma/canon/Utf8SequenceLengthPinLaw", name := "isCont", desc := "(I)Z" } : Jvm.MethodName) method_3_code (1 : Nat) (Option.some Jvm.ClassFile.FieldType.boolean)]
set_option maxRecDepth 65536 in
theorem codes_eq : words1.filter isCode = codes1 := rfl
theorem w_codes : ∀ c ∈ words1.filter isCode, c.before args0 about1 = true := by
  rw [codes_eq]
  intro c hc
  simp only [codes1, List.mem_cons, List.not_mem_nil, or_false] at hc
  rcases hc with rfl | rfl | rfl | rfl
  · exact w_c0
  · exact w_c1
  · exact w_c2
  · exact w_c3
set_option maxRecDepth 65536 in
theorem w_t1 : words1.all (fun c => isCode c || c.before args0 about1) = true := by decide +kernel
theorem w_tables : (allAtoms (Jvm.Cond.code x code maxLocals ret :: tables_1)).before args0 about1 = true := by
  rw [allAtoms_all]
  show words1.all (fun c => c.before args0 about1) = true
  refine all_split ?_ w_codes
  rw [w_t1]
set_option maxRecDepth 65536 in
theorem w_case : (Jvm.Cond.and given_1 narrow_1).before args0 about1 = true := by decide +kernel
theorem w_applies : (headSpec (Jvm.Cond.code x code maxLocals ret :: tables_1) room_1).applies x e0.platform about1 = true :=
  (Spec.applies_iff w_frames).mpr ⟨w_running, w_runnable, w_alone, w_named, w_hears, w_ripe, w_room, w_tables⟩
theorem atStart : AtStart classFile x code maxLocals ret World_1 tables_1 room_1 Calls_1 rest_1 Pre_1 launch0 p0 e0 about1 theMethod args0 below0 :=
  ⟨lists_1, trivial, launch0.admits_env _ _ _, launch0.least_env, fairChoices_fair.cas, fairChoices_fair.clock, w_frames, w_args, w_heap, w_applies, trivial, trivial, w_case⟩
end start1
theorem witness_1 : WitnessClaimed_1 := ⟨start1.p0, start1.e0, start1.about1, start1.theMethod, start1.args0, start1.below0, start1.atStart⟩
end Jvm.Pilot.@@N@@
