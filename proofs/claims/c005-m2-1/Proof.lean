import JvmDerived
import JvmDerived.Pilot.@@N@@Statement
import JvmDerived.Pilot.@@N@@Code
set_option linter.unusedVariables false
set_option linter.unusedSimpArgs false
namespace Jvm.Pilot.@@N@@
open Jvm Jvm.ClassFile Sem Op Lib Jvm.Free Jvm.Stand Jvm.LawKit Jvm.RoadKit Bundle Jvm.Pilot.@@N@@.Jvm.D
section Core
variable {p : Program} {l : Launch} {e : Env} {R : Room} {s : State} {m : MethodId} {args : Array Value} {below : List Frame} {meth : Method} {c : Code} {Z : State} {n0 : Nat} {T : State} {h : Heap} {k n : Nat} {Q : Option Value → Heap → Prop} {K N : Nat} {a0 : Array Value}
/-- where a walk stands: the state T, its heap h, k cells and n slots made so far; every place that was written is new -/
def WSt (p : Program) (l : Launch) (e : Env) (R : Room) (s : State) (m : MethodId) (args : Array Value) (below : List Frame) (meth : Method) (c : Code) (Z : State) (n0 : Nat) (T : State) (h : Heap) (k n : Nat) : Prop :=
  ∃ locs, Stand p l e R s m args below meth c T locs k n ∧ T.heap = h ∧ Fr n0 locs ∧ n0 ≤ s.heap.size ∧ p.tables.exec = Jvm.exec ∧ Z.Warmed39 s.vm ∧ meth.locks = false
/-- from here the invocation returns, and what it leaves answers to Q -/
def WGo (p : Program) (e : Env) (below : List Frame) (s : State) (n0 : Nat) (Q : Option Value → Heap → Prop) (K N : Nat) (T : State) (g : JFrame) : Prop :=
  ∃ s₂ o, Steps p.tables e below (T.setTop g) s₂ ∧ s₂.status = .running ∧ Ended s₂ below o ∧ ∃ v L, o = .returned v ∧ (Q v s₂.heap ∧ Fr n0 L) ∧ FrameEnd s o s₂ L K N
/-- a body's contract at one heap and one list of arguments -/
def WCon (l : Launch) (Z : State) (n0 : Nat) (h0 : Heap) (y : MethodName) (bytes : ByteArray) (maxL : Nat) (ret : Option FieldType) (ws : List Jvm.Cond) (rm : Room) (as : Array Value) (Q : Option Value → Heap → Prop) : Prop :=
  MetFree l y (head1 (Jvm.Cond.code y bytes maxL ret :: ws) rm) (fun a U => a = as ∧ Z.Warmed39 U.vm ∧ U.heap = h0) (fun _ _ _ _ _ => True) (fun _ U o U' => ∃ v L, o = .returned v ∧ (Q v U'.heap ∧ Fr n0 L) ∧ FrameEnd U o U' L rm.cells rm.slots)

theorem WSt.here (S : WSt p l e R s m args below meth c Z n0 T h k n) : At T m c below := by obtain ⟨_, X, _⟩ := S; exact X.here
theorem WSt.eT (S : WSt p l e R s m args below meth c Z n0 T h k n) : T.heap = h := by obtain ⟨_, _, q, _⟩ := S; exact q
theorem WSt.ge (S : WSt p l e R s m args below meth c Z n0 T h k n) : n0 ≤ h.size := by
  obtain ⟨_, X, q, _, r, _⟩ := S
  have h1 : s.heap.size ≤ T.heap.size := X.same.2.1
  rw [← q]; omega
theorem WGo.st {T' : State} {g g' : JFrame} (q : ∀ t, Steps p.tables e below (T'.setTop g') t → Steps p.tables e below (T.setTop g) t) (r : WGo p e below s n0 Q K N T' g') : WGo p e below s n0 Q K N T g := by
  obtain ⟨s2, o, h1, r⟩ := r
  exact ⟨s2, o, q _ h1, r⟩
theorem WGo.cast {g g' : JFrame} (q : g = g') (r : WGo p e below s n0 Q K N T g') : WGo p e below s n0 Q K N T g := q ▸ r
theorem WCon.of {y : MethodName} {bytes : ByteArray} {maxL : Nat} {ret : Option FieldType} {ws : List Jvm.Cond} {rm : Room} {as : Array Value} {h0 : Heap} (hp : plainFor y = true) (hn0 : n0 ≤ h0.size)
    (body : ∀ (p : Program) (e : Env) (s : State) (m : MethodId) (below : List Frame) (meth : Method) (c : Code) (T : State), p.tables.exec = Jvm.exec → Z.Warmed39 s.vm → c.code = bytes → c.maxLocals = maxL → s.vm.findClass y.cls = some m.cls → meth.name = y.name → meth.sig.returnType = ret → WSt p l e rm s m as below meth c Z n0 T h0 0 0 → WGo p e below s n0 Q rm.cells rm.slots T (entryFrame m as maxL)) :
    WCon l Z n0 h0 y bytes maxL ret ws rm as Q := by
  refine MetFree.of_bodySF hp hisR ?_
  intro p e s m args below meth c s₁ Bd hml0 hP hK
  obtain ⟨rfl, hZ, hh⟩ := hP
  have X0 := Stand.of_body Bd
  exact body p e s m below meth c s₁ Bd.exec hZ Bd.bytes hml0 (findClass_of_methodNamed Bd.named) (name_of_methodNamed Bd.named Bd.method).1 Bd.returns ⟨[], X0, by rw [← hh, Bd.state]; rfl, Fr.nil _, by rw [hh]; exact hn0, Bd.exec, hZ, Bd.notSynchronized⟩
/-- the returns -/
theorem w_ret (S : WSt p l e R s m args below meth c Z n0 T h k n) {t : FieldType} {w : Value} {i : Instr} {pc : Nat} {Ls : Array Slot} {rest : List Value} (hret : meth.sig.returnType = some t) (hnw : narrow t w = w)
    (hi : (i = .ireturn ∧ (t = .int ∨ t = .boolean ∨ t = .byte ∨ t = .char ∨ t = .short) ∧ ∃ z, w = .int z) ∨ (i = .lreturn ∧ t = .long ∧ ∃ z, w = .long z) ∨ (i = .dreturn ∧ t = .double ∧ ∃ z, w = .double z) ∨ (i = .freturn ∧ t = .float ∧ ∃ z, w = .float z) ∨ (i = .areturn ∧ t.isReference = true ∧ w.isRef = true))
    (hd : decode c.code pc = .ok (i, 1)) (hk : k ≤ K) (hn : n ≤ N) (hQ : Q (some w) h) : WGo p e below s n0 Q K N T (mkF m pc Ls (w :: rest)) := by
  obtain ⟨locs, X, e1, N1, -, hx, hZ, hlk⟩ := S
  obtain ⟨fs, hr, hrun, hended, hW, hsame⟩ := X.leave (v := some w) (fun q => by rw [hret] at q; cases q) hlk
  refine ⟨_, _, retOut X hx hret hnw hi hd hr, hrun, hended, _, locs, rfl, ⟨?_, N1⟩, ⟨_, rfl⟩, hW, hsame.mono hk hn⟩
  show Q (some w) T.heap
  rw [e1]; exact hQ
theorem w_retI (S : WSt p l e R s m args below meth c Z n0 T h k n) {z : Int32} {pc : Nat} {Ls : Array Slot} {rest : List Value} (hret : meth.sig.returnType = some .int) (hd : decode c.code pc = .ok (.ireturn, 1)) (hk : k ≤ K) (hn : n ≤ N) (hQ : Q (some (.int z)) h) : WGo p e below s n0 Q K N T (mkF m pc Ls (.int z :: rest)) :=
  w_ret S hret rfl (Or.inl ⟨rfl, Or.inl rfl, _, rfl⟩) hd hk hn hQ
theorem w_retZ (S : WSt p l e R s m args below meth c Z n0 T h k n) {z : Int32} {pc : Nat} {Ls : Array Slot} {rest : List Value} (hret : meth.sig.returnType = some .boolean) (hd : decode c.code pc = .ok (.ireturn, 1)) (hz : z = 0 ∨ z = 1) (hk : k ≤ K) (hn : n ≤ N) (hQ : Q (some (.int z)) h) : WGo p e below s n0 Q K N T (mkF m pc Ls (.int z :: rest)) :=
  w_ret S hret (by rcases hz with rfl | rfl <;> rfl) (Or.inl ⟨rfl, Or.inr (Or.inl rfl), _, rfl⟩) hd hk hn hQ
theorem w_retJ (S : WSt p l e R s m args below meth c Z n0 T h k n) {z : Int64} {pc : Nat} {Ls : Array Slot} {rest : List Value} (hret : meth.sig.returnType = some .long) (hd : decode c.code pc = .ok (.lreturn, 1)) (hk : k ≤ K) (hn : n ≤ N) (hQ : Q (some (.long z)) h) : WGo p e below s n0 Q K N T (mkF m pc Ls (.long z :: rest)) :=
  w_ret S hret rfl (Or.inr (Or.inl ⟨rfl, rfl, _, rfl⟩)) hd hk hn hQ
theorem w_retA (S : WSt p l e R s m args below meth c Z n0 T h k n) {t : FieldType} {z : Addr} {pc : Nat} {Ls : Array Slot} {rest : List Value} (hret : meth.sig.returnType = some t) (ht : t.isReference = true) (hnw : narrow t (.ref z) = .ref z) (hd : decode c.code pc = .ok (.areturn, 1)) (hk : k ≤ K) (hn : n ≤ N) (hQ : Q (some (.ref z)) h) : WGo p e below s n0 Q K N T (mkF m pc Ls (.ref z :: rest)) :=
  w_ret S hret hnw (Or.inr (Or.inr (Or.inr (Or.inr ⟨rfl, ht, rfl⟩)))) hd hk hn hQ
theorem w_retV (S : WSt p l e R s m args below meth c Z n0 T h k n) {pc : Nat} {Ls : Array Slot} (hret : meth.sig.returnType = none) (hd : decode c.code pc = .ok (.return_, 1)) (hk : k ≤ K) (hn : n ≤ N) (hQ : Q none h) : WGo p e below s n0 Q K N T (mkF m pc Ls []) := by
  obtain ⟨locs, X, e1, N1, -, hx, hZ, hlk⟩ := S
  obtain ⟨fs, hr, hrun, hended, hW, hsame⟩ := X.leave (v := none) (fun _ => rfl) hlk
  refine ⟨_, _, X.returnOut hx hret hd hr, hrun, hended, _, locs, rfl, ⟨?_, N1⟩, ⟨_, rfl⟩, hW, hsame.mono hk hn⟩
  show Q none T.heap
  rw [e1]; exact hQ
/-- constants, remainder -/
theorem w_ldc (S : WSt p l e R s m args below meth c Z n0 T h k n) {own : String} {index : Nat} {v : Int32} (hown : s.vm.findClass own = some m.cls) (w : (Jvm.Cond.constant own index v).before a0 Z = true) {g : JFrame} (hg : g.method = m) (hd : decode c.code g.pc = .ok (.ldc index, 2))
    (r : WGo p e below s n0 Q K N T { g with pc := g.pc + 2, stack := .int v :: g.stack }) : WGo p e below s n0 Q K N T g := by
  obtain ⟨locs, X, e1, N1, -, hx, hZ, hlk⟩ := S
  exact WGo.st (X.ldcInt hx hown (mvT hZ w) hg hd) r
theorem w_ldc2 (S : WSt p l e R s m args below meth c Z n0 T h k n) {own : String} {index : Nat} {v : Int64} (hown : s.vm.findClass own = some m.cls) (w : (Jvm.Cond.constantLong own index v).before a0 Z = true) {g : JFrame} (hg : g.method = m) (hd : decode c.code g.pc = .ok (.ldc2_w index, 3))
    (r : WGo p e below s n0 Q K N T { g with pc := g.pc + 3, stack := .long v :: g.stack }) : WGo p e below s n0 Q K N T g := by
  obtain ⟨locs, X, e1, N1, -, hx, hZ, hlk⟩ := S
  exact WGo.st (X.ldc2Long hx hown (mvT hZ w) hg hd) r
theorem w_irem (S : WSt p l e R s m args below meth c Z n0 T h k n) {g : JFrame} (hg : g.method = m) {x y : Int32} {rest : List Value} (hd : decode c.code g.pc = .ok (.irem, 1)) (hs : g.stack = .int y :: .int x :: rest) (hy : y ≠ 0)
    (r : WGo p e below s n0 Q K N T { g with pc := g.pc + 1, stack := .int (x % y) :: rest }) : WGo p e below s n0 Q K N T g := by
  obtain ⟨locs, X, e1, N1, -, hx, hZ, hlk⟩ := S
  exact WGo.st (fun _ q => iremM X hx hg hd hs hy q) r
/-- arrays of ints, bytes, booleans, chars: the values in order -/
def AI (Z : State) (h : Heap) (a : Addr) (ty : FieldType) (L : List Int32) : Prop := ∃ cl : Cell, Arr Z h a cl ty ∧ cl.slots = (L.map Value.int).toArray
def gi (L : List Int32) (j : Int32) : Int32 := L.getD j.toNatClampNeg 0
def si (L : List Int32) (j : Int32) (v : Int32) : List Int32 := L.set j.toNatClampNeg v
variable {a b : Addr} {ty : FieldType} {L : List Int32} {h' : Heap} {ws : List Addr}
theorem AI.lt (A : AI Z h a ty L) : a < h.size := by obtain ⟨cl, A, -⟩ := A; exact A.lt
theorem AI.keep (A : AI Z h a ty L) (K : Keep h h' ws) (q : a ∉ ws) : AI Z h' a ty L := by obtain ⟨cl, A, r⟩ := A; exact ⟨cl, ⟨K.2.1 a cl A.1 q, A.2⟩, r⟩
theorem ai_size {cl : Cell} (r : cl.slots = (L.map Value.int).toArray) : cl.slots.size = L.length := by rw [r]; simp
theorem ai_in {cl : Cell} {j : Int32} (r : cl.slots = (L.map Value.int).toArray) (h0 : 0 ≤ j.toInt) (h1 : j.toInt < L.length) : ¬ (j < 0 ∨ cl.slots.size ≤ j.toNatClampNeg) := by
  rw [ai_size r]
  have : (0 : Int32).toInt = 0 := rfl
  simp only [Int32.lt_iff_toInt_lt, Int32.toNatClampNeg]; omega
theorem ai_at {cl : Cell} {j : Int32} (r : cl.slots = (L.map Value.int).toArray) (h0 : 0 ≤ j.toInt) (h1 : j.toInt < L.length) : cl.slots[j.toNatClampNeg]? = some (.int (gi L j)) := by
  have q : j.toNatClampNeg < L.length := by simp only [Int32.toNatClampNeg]; omega
  rw [r]
  simp [gi, q]
theorem keep_ext {h h' : Heap} (E : Ext h h') (ws : List Addr) : Keep h h' ws := (Keep.refl h ws).ext E
theorem ai_new {cl : ClassId} {ty : FieldType} {j : Int32} (hty : defaultValue ty = .int 0) : (newA cl ty j).slots = ((List.replicate j.toNatClampNeg (0 : Int32)).map Value.int).toArray := by
  simp [newA, hty]
theorem w_newarray (S : WSt p l e R s m args below meth c Z n0 T h k n) {aty : ArrayType} (w : (Jvm.Cond.arrayClass (newarray.typeOf aty)).before a0 Z = true) (hty : defaultValue (newarray.typeOf aty) = .int 0) {g : JFrame} (hg : g.method = m) (hd : decode c.code g.pc = .ok (.newarray aty, 2)) {j : Int32} {rest : List Value} (hs : g.stack = .int j :: rest)
    (hj : ¬ j < 0) {cap : Nat} (hcap : j.toNatClampNeg ≤ cap) (hb : cap * 8 ≤ 536870912) (hc : k + 1 ≤ R.cells) (hl : n + cap ≤ R.slots) {L : List Int32} (hL : List.replicate j.toNatClampNeg 0 = L)
    (r : ∀ T' h' a', WSt p l e R s m args below meth c Z n0 T' h' (k + 1) (n + cap) → Keep h h' [] → a' = h.size → n0 ≤ a' → AI Z h' a' (newarray.typeOf aty) L → WGo p e below s n0 Q K N T' { g with pc := g.pc + 2, stack := .ref a' :: rest }) : WGo p e below s n0 Q K N T g := by
  have hge := S.ge
  obtain ⟨locs, X, e1, N1, n1, hx, hZ, hlk⟩ := S
  obtain ⟨T', h', cA, X', e', E', A', st⟩ := newP X hx hZ w e1 hg hd hs hj hcap hb hc hl
  exact WGo.st st (r T' h' _ ⟨locs, X', e', N1, n1, hx, hZ, hlk⟩ (keep_ext E' _) rfl hge ⟨_, A', by rw [ai_new hty, hL]⟩)
theorem w_iaload (S : WSt p l e R s m args below meth c Z n0 T h k n) (A : AI Z h a .int L) {g : JFrame} (hg : g.method = m) (hd : decode c.code g.pc = .ok (.iaload, 1)) {j : Int32} {rest : List Value} (hs : g.stack = .int j :: .ref a :: rest) (h0 : 0 ≤ j.toInt) (h1 : j.toInt < L.length) {v : Int32} (hv : gi L j = v)
    (r : WGo p e below s n0 Q K N T { g with pc := g.pc + 1, stack := .int v :: rest }) : WGo p e below s n0 Q K N T g := by
  subst hv
  obtain ⟨locs, X, e1, N1, n1, hx, hZ, hlk⟩ := S
  obtain ⟨cl, A, q⟩ := A
  exact WGo.st (fun t u => X.iaload hx (j := j) (v := .int (gi L j)) (by rw [e1]; exact A.1) (State.isArrayOf_alike hZ.alike A.2.1) A.2.2 (ai_in q h0 h1) (ai_at q h0 h1) hg hs hd t u) r
theorem w_caload (S : WSt p l e R s m args below meth c Z n0 T h k n) (A : AI Z h a .char L) {g : JFrame} (hg : g.method = m) (hd : decode c.code g.pc = .ok (.caload, 1)) {j : Int32} {rest : List Value} (hs : g.stack = .int j :: .ref a :: rest) (h0 : 0 ≤ j.toInt) (h1 : j.toInt < L.length) {v : Int32} (hv : gi L j = v)
    (r : WGo p e below s n0 Q K N T { g with pc := g.pc + 1, stack := .int v :: rest }) : WGo p e below s n0 Q K N T g := by
  subst hv
  obtain ⟨locs, X, e1, N1, n1, hx, hZ, hlk⟩ := S
  obtain ⟨cl, A, q⟩ := A
  exact WGo.st (fun t u => X.caload hx (j := j) (v := .int (gi L j)) (by rw [e1]; exact A.1) (State.isArrayOf_alike hZ.alike A.2.1) A.2.2 (ai_in q h0 h1) (ai_at q h0 h1) hg hs hd t u) r
theorem w_baload (S : WSt p l e R s m args below meth c Z n0 T h k n) (A : AI Z h a .byte L) {g : JFrame} (hg : g.method = m) (hd : decode c.code g.pc = .ok (.baload, 1)) {j : Int32} {rest : List Value} (hs : g.stack = .int j :: .ref a :: rest) (h0 : 0 ≤ j.toInt) (h1 : j.toInt < L.length) {v : Int32} (hv : gi L j = v)
    (r : WGo p e below s n0 Q K N T { g with pc := g.pc + 1, stack := .int v :: rest }) : WGo p e below s n0 Q K N T g := by
  subst hv
  obtain ⟨locs, X, e1, N1, n1, hx, hZ, hlk⟩ := S
  obtain ⟨cl, A, q⟩ := A
  exact WGo.st (fun t u => X.baloadBytes hx (j := j) (v := .int (gi L j)) (by rw [e1]; exact A.1) (State.isArrayOf_alike hZ.alike A.2.1) A.2.2 (ai_in q h0 h1) (ai_at q h0 h1) hg hs hd t u) r
theorem w_zaload (S : WSt p l e R s m args below meth c Z n0 T h k n) (A : AI Z h a .boolean L) {g : JFrame} (hg : g.method = m) (hd : decode c.code g.pc = .ok (.baload, 1)) {j : Int32} {rest : List Value} (hs : g.stack = .int j :: .ref a :: rest) (h0 : 0 ≤ j.toInt) (h1 : j.toInt < L.length) {v : Int32} (hv : gi L j = v)
    (r : WGo p e below s n0 Q K N T { g with pc := g.pc + 1, stack := .int v :: rest }) : WGo p e below s n0 Q K N T g := by
  subst hv
  obtain ⟨locs, X, e1, N1, n1, hx, hZ, hlk⟩ := S
  obtain ⟨cl, A, q⟩ := A
  exact WGo.st (fun t u => X.baloadBooleans hx (j := j) (v := .int (gi L j)) (by rw [e1]; exact A.1) (State.isArrayOf_alike hZ.alike A.2.1) A.2.2 (ai_in q h0 h1) (ai_at q h0 h1) hg hs hd t u) r
theorem w_arraylength (S : WSt p l e R s m args below meth c Z n0 T h k n) (A : AI Z h a ty L) {g : JFrame} (hg : g.method = m) (hd : decode c.code g.pc = .ok (.arraylength, 1)) {rest : List Value} (hs : g.stack = .ref a :: rest) {z : Int32} (hz : L.length.toInt32 = z)
    (r : WGo p e below s n0 Q K N T { g with pc := g.pc + 1, stack := .int z :: rest }) : WGo p e below s n0 Q K N T g := by
  obtain ⟨locs, X, e1, N1, n1, hx, hZ, hlk⟩ := S
  obtain ⟨cl, A, q⟩ := A
  subst hz
  exact WGo.st (fun t u => X.arraylength hx (by rw [e1]; exact A.1) (State.isArrayOf_alike hZ.alike A.2.1) hg hs hd t (by rw [ai_size q]; exact u)) r
theorem ai_set {cl : Cell} {j x : Int32} (r : cl.slots = (L.map Value.int).toArray) : (cl.setSlot j.toNatClampNeg (.int x)).slots = ((si L j x).map Value.int).toArray := by
  simp [Cell.setSlot, r, si]
theorem w_iastore (S : WSt p l e R s m args below meth c Z n0 T h k n) (A : AI Z h a .int L) (ga : n0 ≤ a) {g : JFrame} (hg : g.method = m) (hd : decode c.code g.pc = .ok (.iastore, 1)) {j x : Int32} {rest : List Value} (hs : g.stack = .int x :: .int j :: .ref a :: rest) (h0 : 0 ≤ j.toInt) (h1 : j.toInt < L.length) {L' : List Int32} (hL : si L j x = L')
    (r : ∀ T' h', WSt p l e R s m args below meth c Z n0 T' h' k n → Keep h h' [a] → AI Z h' a .int L' → WGo p e below s n0 Q K N T' { g with pc := g.pc + 1, stack := rest }) : WGo p e below s n0 Q K N T g := by
  obtain ⟨locs, X, e1, N1, n1, hx, hZ, hlk⟩ := S
  obtain ⟨cl, A, q⟩ := A
  obtain ⟨T', h', X', e', W', st⟩ := stI X hx hZ e1 A (ai_in q h0 h1) hg hs hd
  exact WGo.st st (r T' h' ⟨_, X', e', Fr.snoc X' N1 ga, n1, hx, hZ, hlk⟩ (Keep.of_wr W') ⟨_, A.same W', by rw [ai_set q, hL]⟩)
theorem w_bastore (S : WSt p l e R s m args below meth c Z n0 T h k n) (A : AI Z h a .byte L) (ga : n0 ≤ a) {g : JFrame} (hg : g.method = m) (hd : decode c.code g.pc = .ok (.bastore, 1)) {j x : Int32} {rest : List Value} (hs : g.stack = .int x :: .int j :: .ref a :: rest) (h0 : 0 ≤ j.toInt) (h1 : j.toInt < L.length) {L' : List Int32} (hL : si L j x.toInt8.toInt32 = L')
    (r : ∀ T' h', WSt p l e R s m args below meth c Z n0 T' h' k n → Keep h h' [a] → AI Z h' a .byte L' → WGo p e below s n0 Q K N T' { g with pc := g.pc + 1, stack := rest }) : WGo p e below s n0 Q K N T g := by
  obtain ⟨locs, X, e1, N1, n1, hx, hZ, hlk⟩ := S
  obtain ⟨cl, A, q⟩ := A
  obtain ⟨T', h', X', e', W', st⟩ := stB X hx hZ e1 A (ai_in q h0 h1) hg hs hd
  exact WGo.st st (r T' h' ⟨_, X', e', Fr.snoc X' N1 ga, n1, hx, hZ, hlk⟩ (Keep.of_wr W') ⟨_, A.same W', by rw [ai_set q]; exact hL ▸ rfl⟩)
theorem w_zastore (S : WSt p l e R s m args below meth c Z n0 T h k n) (A : AI Z h a .boolean L) (ga : n0 ≤ a) {g : JFrame} (hg : g.method = m) (hd : decode c.code g.pc = .ok (.bastore, 1)) {j x : Int32} {rest : List Value} (hs : g.stack = .int x :: .int j :: .ref a :: rest) (h0 : 0 ≤ j.toInt) (h1 : j.toInt < L.length) (hb : x = 0 ∨ x = 1) {L' : List Int32} (hL : si L j x = L')
    (r : ∀ T' h', WSt p l e R s m args below meth c Z n0 T' h' k n → Keep h h' [a] → AI Z h' a .boolean L' → WGo p e below s n0 Q K N T' { g with pc := g.pc + 1, stack := rest }) : WGo p e below s n0 Q K N T g := by
  obtain ⟨locs, X, e1, N1, n1, hx, hZ, hlk⟩ := S
  obtain ⟨cl, A, q⟩ := A
  obtain ⟨T', h', X', e', W', st⟩ := stZ X hx hZ e1 A (ai_in q h0 h1) hg hs hd
  have hx1 : nar .boolean x = x := by rcases hb with rfl | rfl <;> rfl
  rw [hx1] at W'
  exact WGo.st st (r T' h' ⟨_, X', e', Fr.snoc X' N1 ga, n1, hx, hZ, hlk⟩ (Keep.of_wr W') ⟨_, A.same W', by rw [ai_set q, hL]⟩)
/-- calls by contract -/
theorem w_static (S : WSt p l e R s m args below meth c Z n0 T h k n) {own : String} {index : Nat} {y : MethodName} {bytes : ByteArray} {maxL : Nat} {ret : Option FieldType} (hown : s.vm.findClass own = some m.cls) (w1 : (Jvm.Cond.methodLink own index y).before a0 Z = true) (w2 : (Jvm.Cond.static y).before a0 Z = true) (w3 : (Jvm.Cond.initialized y.cls).before a0 Z = true) (w4 : (Jvm.Cond.code y bytes maxL ret).before a0 Z = true) (hy : y.cls ≠ "java/lang/invoke/MethodHandle" ∧ y.cls ≠ "java/lang/invoke/VarHandle")
    {rm : Room} {as : Array Value} {Qc : Option Value → Heap → Prop} (C : WCon l Z n0 h y bytes maxL ret [] rm as Qc) {W : Nat} (hf : rm.frames + 1 ≤ R.frames) (hl : W + (maxL + 11) + rm.locals ≤ R.locals) (hc : k + rm.cells ≤ R.cells) (hs : n + rm.slots ≤ R.slots)
    {g : JFrame} (hg : g.method = m) (hsize : g.locals.size = c.maxLocals) {argsL rest : List Value} {ps : List FieldType} {rt : Option FieldType} (hpd : parseMethodDescriptor y.desc = some ⟨ps, rt⟩) (hlen : argsL.length = ps.length) (hstack : g.stack = argsL.reverse ++ rest) (has : argsL.toArray = as) (hW : 2 * g.monitorRoom + (rest.map fun v => v.category).sum ≤ W) (hd : decode c.code g.pc = .ok (.invokestatic index, 3))
    (r : ∀ T' h' v, WSt p l e R s m args below meth c Z n0 T' h' (k + rm.cells) (n + rm.slots) → Qc v h' → WGo p e below s n0 Q K N T' { g with pc := g.pc + 3, stack := v.toList ++ rest }) : WGo p e below s n0 Q K N T g := by
  obtain ⟨locs, X, e1, N1, n1, hx, hZ, hlk⟩ := S
  have B := backOf (W := W) (s := s) (args := args) (R := R) (p := p) (e := e) (below := below) (len := 3) (a0 := a0) (Q := fun v h L => Qc v h ∧ Fr n0 L) C hZ w4 w3 hf hl
  obtain ⟨v, vm1, ⟨T1, L1, k1, m1⟩, -, X1, ⟨Lc, hQ, l1, y1, z1⟩, st⟩ := Jvm.LawKit.callS X hx (y := y) hown (mvT hZ w1) (mvT hZ w2) (mvT hZ w3) (mvT hZ w4) hy B hg hsize (lenOf hpd hlen) hstack hW hd (fun _ _ => ⟨has, e1, hc, hs⟩)
  dsimp only [Pt.U, Pt.locs, Pt.cells, Pt.slots] at X1 l1 y1 z1 st hQ
  subst l1 y1 z1
  exact WGo.st st (r _ _ v ⟨_, X1, rfl, Fr.app N1 hQ.2, n1, hx, hZ, hlk⟩ hQ.1)
theorem w_special (S : WSt p l e R s m args below meth c Z n0 T h k n) {own : String} {index : Nat} {y : MethodName} {bytes : ByteArray} {maxL : Nat} (hyn : y.name = "<init>") (hown : s.vm.findClass own = some m.cls) (w1 : (Jvm.Cond.methodLink own index y).before a0 Z = true) (w2 : (Jvm.Cond.instanceMethod y).before a0 Z = true) (w3 : (Jvm.Cond.initialized y.cls).before a0 Z = true) (w4 : (Jvm.Cond.code y bytes maxL none).before a0 Z = true) (hy : y.cls ≠ "java/lang/invoke/MethodHandle" ∧ y.cls ≠ "java/lang/invoke/VarHandle")
    {rm : Room} {as : Array Value} {Qc : Option Value → Heap → Prop} (C : WCon l Z n0 h y bytes maxL none [] rm as Qc) {W : Nat} (hf : rm.frames + 1 ≤ R.frames) (hl : W + (maxL + 11) + rm.locals ≤ R.locals) (hc : k + rm.cells ≤ R.cells) (hs : n + rm.slots ≤ R.slots)
    {g : JFrame} (hg : g.method = m) (hsize : g.locals.size = c.maxLocals) {argsL rest : List Value} {ps : List FieldType} {rt : Option FieldType} (hpd : parseMethodDescriptor y.desc = some ⟨ps, rt⟩) (hlen : argsL.length = ps.length) (hstack : g.stack = argsL.reverse ++ .ref a :: rest) (has : (Value.ref a :: argsL).toArray = as) (hW : 2 * g.monitorRoom + (rest.map fun v => v.category).sum ≤ W) (hd : decode c.code g.pc = .ok (.invokespecial index, 3))
    (r : ∀ T' h' v, WSt p l e R s m args below meth c Z n0 T' h' (k + rm.cells) (n + rm.slots) → Qc v h' → WGo p e below s n0 Q K N T' { g with pc := g.pc + 3, stack := v.toList ++ rest }) : WGo p e below s n0 Q K N T g := by
  obtain ⟨locs, X, e1, N1, n1, hx, hZ, hlk⟩ := S
  have B := backOf (W := W) (s := s) (args := args) (R := R) (p := p) (e := e) (below := below) (len := 3) (a0 := a0) (Q := fun v h L => Qc v h ∧ Fr n0 L) C hZ w4 w3 hf hl
  obtain ⟨v, vm1, ⟨T1, L1, k1, m1⟩, -, X1, ⟨Lc, hQ, l1, y1, z1⟩, st⟩ := X.specialBack hx (y := y) hyn hown (mvT hZ w1) (mvT hZ w2) (mvT hZ w4) hy B hg hsize (Steps.refl _) (lenOf hpd hlen) hstack hW hd (fun _ _ => ⟨has, e1, hc, hs⟩)
  dsimp only [Pt.U, Pt.locs, Pt.cells, Pt.slots] at X1 l1 y1 z1 st hQ
  subst l1 y1 z1
  exact WGo.st (fun _ q => st.trans q) (r _ _ v ⟨_, X1, rfl, Fr.app N1 hQ.2, n1, hx, hZ, hlk⟩ hQ.1)
theorem w_virtual (S : WSt p l e R s m args below meth c Z n0 T h k n) {own C : String} {index : Nat} {y : MethodName} {bytes : ByteArray} {maxL : Nat} {ret : Option FieldType} (hown : s.vm.findClass own = some m.cls) (w1 : (Jvm.Cond.methodLink own index y).before a0 Z = true) (w2 : (Jvm.Cond.declares y).before a0 Z = true) (w5 : (Jvm.Cond.selects C y y).before a0 Z = true) (w6 : (Jvm.Cond.instanceMethod y).before a0 Z = true) (w3 : (Jvm.Cond.initialized y.cls).before a0 Z = true) (w4 : (Jvm.Cond.code y bytes maxL ret).before a0 Z = true) (hy : y.cls ≠ "java/lang/invoke/MethodHandle" ∧ y.cls ≠ "java/lang/invoke/VarHandle") (E : Exa Z h a C)
    {rm : Room} {as : Array Value} {Qc : Option Value → Heap → Prop} (Cn : WCon l Z n0 h y bytes maxL ret [] rm as Qc) {W : Nat} (hf : rm.frames + 1 ≤ R.frames) (hl : W + (maxL + 11) + rm.locals ≤ R.locals) (hc : k + rm.cells ≤ R.cells) (hs : n + rm.slots ≤ R.slots)
    {g : JFrame} (hg : g.method = m) (hsize : g.locals.size = c.maxLocals) {argsL rest : List Value} {ps : List FieldType} {rt : Option FieldType} (hpd : parseMethodDescriptor y.desc = some ⟨ps, rt⟩) (hlen : argsL.length = ps.length) (hstack : g.stack = argsL.reverse ++ .ref a :: rest) (has : (Value.ref a :: argsL).toArray = as) (hW : 2 * g.monitorRoom + (rest.map fun v => v.category).sum ≤ W) (hd : decode c.code g.pc = .ok (.invokevirtual index, 3))
    (r : ∀ T' h' v, WSt p l e R s m args below meth c Z n0 T' h' (k + rm.cells) (n + rm.slots) → Qc v h' → WGo p e below s n0 Q K N T' { g with pc := g.pc + 3, stack := v.toList ++ rest }) : WGo p e below s n0 Q K N T g := by
  obtain ⟨locs, X, e1, N1, n1, hx, hZ, hlk⟩ := S
  have B := backOf (W := W) (s := s) (args := args) (R := R) (p := p) (e := e) (below := below) (len := 3) (a0 := a0) (Q := fun v h L => Qc v h ∧ Fr n0 L) Cn hZ w4 w3 hf hl
  obtain ⟨cq, kq, qa, qb, qc⟩ := isOf hZ e1 E
  obtain ⟨v, vm1, ⟨T1, L1, k1, m1⟩, -, X1, ⟨Lc, hQ, l1, y1, z1⟩, st⟩ := X.virtualBack hx (y := y) (z := y) hown (mvT hZ w1) (mvT hZ w2) (notFace_of_selects (args := #[]) (mvT hZ w5)) (mvT hZ w5) (mvT hZ w6) hy B qa qc hg hsize (Steps.refl _) (lenOf hpd hlen) hstack hW hd (fun _ _ => ⟨has, e1, hc, hs⟩)
  dsimp only [Pt.U, Pt.locs, Pt.cells, Pt.slots] at X1 l1 y1 z1 st hQ
  subst l1 y1 z1
  exact WGo.st (fun _ q => st.trans q) (r _ _ v ⟨_, X1, rfl, Fr.app N1 hQ.2, n1, hx, hZ, hlk⟩ hQ.1)
theorem w_private (S : WSt p l e R s m args below meth c Z n0 T h k n) {own C : String} {index : Nat} {y z : MethodName} {bytes : ByteArray} {maxL : Nat} {ret : Option FieldType} (hown : s.vm.findClass own = some m.cls) (w1 : (Jvm.Cond.methodLink own index y).before a0 Z = true) (w6 : (Jvm.Cond.instanceMethod y).before a0 Z = true) (w7 : (Jvm.Cond.privateMethod y).before a0 Z = true) (w3 : (Jvm.Cond.initialized y.cls).before a0 Z = true) (w4 : (Jvm.Cond.code y bytes maxL ret).before a0 Z = true) (w5 : (Jvm.Cond.selects z.cls z z).before a0 Z = true) (hzy : z.cls = y.cls) (hy : y.cls ≠ "java/lang/invoke/MethodHandle" ∧ y.cls ≠ "java/lang/invoke/VarHandle") (E : Exa Z h a C)
    {rm : Room} {as : Array Value} {Qc : Option Value → Heap → Prop} (Cn : WCon l Z n0 h y bytes maxL ret [] rm as Qc) {W : Nat} (hf : rm.frames + 1 ≤ R.frames) (hl : W + (maxL + 11) + rm.locals ≤ R.locals) (hc : k + rm.cells ≤ R.cells) (hs : n + rm.slots ≤ R.slots)
    {g : JFrame} (hg : g.method = m) (hsize : g.locals.size = c.maxLocals) {argsL rest : List Value} {ps : List FieldType} {rt : Option FieldType} (hpd : parseMethodDescriptor y.desc = some ⟨ps, rt⟩) (hlen : argsL.length = ps.length) (hstack : g.stack = argsL.reverse ++ .ref a :: rest) (has : (Value.ref a :: argsL).toArray = as) (hW : 2 * g.monitorRoom + (rest.map fun v => v.category).sum ≤ W) (hd : decode c.code g.pc = .ok (.invokevirtual index, 3))
    (r : ∀ T' h' v, WSt p l e R s m args below meth c Z n0 T' h' (k + rm.cells) (n + rm.slots) → Qc v h' → WGo p e below s n0 Q K N T' { g with pc := g.pc + 3, stack := v.toList ++ rest }) : WGo p e below s n0 Q K N T g := by
  obtain ⟨locs, X, e1, N1, n1, hx, hZ, hlk⟩ := S
  have B := backOf (W := W) (s := s) (args := args) (R := R) (p := p) (e := e) (below := below) (len := 3) (a0 := a0) (Q := fun v h L => Qc v h ∧ Fr n0 L) Cn hZ w4 w3 hf hl
  have hpriv := Cond.privateMethod_at (mvP hZ w7 (args := #[]))
  have hsel : (Jvm.Cond.selects y.cls y y).before args s = true := by
    have q5 : (Jvm.Cond.selects z.cls z z).before args s = true := mvT hZ w5
    obtain ⟨c2, r2, m2, -, -, q3, -, kP, hkP, hkPi⟩ := Cond.selects_spec q5
    have hfc := findClass_of_methodNamed q3
    rw [hzy] at hfc
    exact selects_self_of_private hfc hkP hkPi hpriv (mvT hZ w6) hy
  obtain ⟨cq, q1, q2⟩ := E.cell
  obtain ⟨v, vm1, ⟨T1, L1, k1, m1⟩, -, X1, ⟨Lc, hQ, l1, y1, z1⟩, st⟩ := X.privateBack hx (y := y) hown (mvT hZ w1) (mvT hZ w6) hsel hpriv (mvT hZ w4) hy B hg hsize (Steps.refl _) (a := a) (by rw [e1]; exact q1) q2 (lenOf hpd hlen) hstack hW hd (fun _ _ => ⟨has, e1, hc, hs⟩)
  dsimp only [Pt.U, Pt.locs, Pt.cells, Pt.slots] at X1 l1 y1 z1 st hQ
  subst l1 y1 z1
  exact WGo.st (fun _ q => st.trans q) (r _ _ v ⟨_, X1, rfl, Fr.app N1 hQ.2, n1, hx, hZ, hlk⟩ hQ.1)
/-- objects -/
theorem w_objinit (S : WSt p l e R s m args below meth c Z n0 T h k n) {own : String} {idx : Nat} (hown : s.vm.findClass own = some m.cls) (w1 : (Jvm.Cond.methodLink own idx Lib.objectInit).before a0 Z = true) (w2 : (Jvm.Cond.instanceMethod Lib.objectInit).before a0 Z = true) (w3 : (Jvm.Cond.code Lib.objectInit ⟨#[0xb1]⟩ 1 none).before a0 Z = true)
    {g : JFrame} (hg : g.method = m) (hsize : g.locals.size = c.maxLocals) {rest : List Value} (hs : g.stack = .ref a :: rest) (hd : decode c.code g.pc = .ok (.invokespecial idx, 3)) (hf : 1 ≤ R.frames) {W : Nat} (hW : 2 * g.monitorRoom + (rest.map fun v => v.category).sum ≤ W) (hl : W + 12 ≤ R.locals)
    (r : ∀ T', WSt p l e R s m args below meth c Z n0 T' h k n → WGo p e below s n0 Q K N T' { g with pc := g.pc + 3, stack := rest }) : WGo p e below s n0 Q K N T g := by
  obtain ⟨locs, X, e1, N1, n1, hx, hZ, hlk⟩ := S
  obtain ⟨T', X', e', st⟩ := initO X hx hZ hown w1 w2 w3 e1 hg hsize hs hd hf hW hl
  exact WGo.st st (r T' ⟨locs, X', e', N1, n1, hx, hZ, hlk⟩)
theorem w_new (S : WSt p l e R s m args below meth c Z n0 T h k n) {own C : String} {index nn : Nat} (hown : s.vm.findClass own = some m.cls) (w : (Jvm.Cond.classLink own index C).before a0 Z = true) (wi : (Jvm.Cond.instantiable C nn).before a0 Z = true) (wz : (Jvm.Cond.initialized C).before a0 Z = true)
    {g : JFrame} (hg : g.method = m) (hd : decode c.code g.pc = .ok (.new index, 3)) (hc : k + 1 ≤ R.cells) (hl : n + nn ≤ R.slots)
    (r : ∀ T' h' a', WSt p l e R s m args below meth c Z n0 T' h' (k + 1) (n + nn) → Keep h h' [] → a' = h.size → n0 ≤ a' → Exa Z h' a' C → (∀ {O nm d : String} {ty : FieldType}, Laid Z a0 C O nm d → parseFieldDescriptor d = some ty → Fld Z h' a' O nm d (defaultValue ty)) → WGo p e below s n0 Q K N T' { g with pc := g.pc + 3, stack := .ref a' :: g.stack }) : WGo p e below s n0 Q K N T g := by
  have hge := S.ge
  obtain ⟨locs, X, e1, N1, n1, hx, hZ, hlk⟩ := S
  obtain ⟨T', h', X', e', E', A', D', -, st⟩ := newO X hx hZ hown w wi wz e1 hg hd hc hl
  exact WGo.st st (r T' h' _ ⟨locs, X', e', N1, n1, hx, hZ, hlk⟩ (keep_ext E' _) rfl hge A' D')
theorem w_getfield (S : WSt p l e R s m args below meth c Z n0 T h k n) {own R0 O f d : String} {index : Nat} (hown : s.vm.findClass own = some m.cls) (w : (Jvm.Cond.fieldLink own index R0 f d).before a0 Z = true) (via : Via Z R0 O f d) {v : Value} (F : Fld Z h a O f d v) {g : JFrame} (hg : g.method = m) {rest : List Value} (hs : g.stack = .ref a :: rest) (hd : decode c.code g.pc = .ok (.getfield index, 3))
    (r : ∀ T', WSt p l e R s m args below meth c Z n0 T' h k n → WGo p e below s n0 Q K N T' { g with pc := g.pc + 3, stack := v :: rest }) : WGo p e below s n0 Q K N T g := by
  obtain ⟨locs, X, e1, N1, n1, hx, hZ, hlk⟩ := S
  obtain ⟨T', X', e', st⟩ := getF X hx hZ hown (host := "") (Or.inl w) via e1 F hg hs hd
  exact WGo.st st (r T' ⟨locs, X', e', N1, n1, hx, hZ, hlk⟩)
theorem w_putfield (S : WSt p l e R s m args below meth c Z n0 T h k n) {own R0 O f d C : String} {index kk : Nat} {ty : FieldType} (hown : s.vm.findClass own = some m.cls) (w : (Jvm.Cond.fieldLink own index R0 f d).before a0 Z = true) (via : Via Z R0 O f d) {v old : Value} (F : Fld Z h a O f d old) (E : Exa Z h a C)
    (L : (Jvm.Cond.lays C O f d).before a0 Z = true ∨ ((Jvm.Cond.laysFinal C O f d).before a0 Z = true ∧ own = O ∧ meth.name = "<init>")) (wi : (Jvm.Cond.instantiable C kk).before a0 Z = true) (ga : n0 ≤ a)
    (hty : parseFieldDescriptor d = some ty) (hn : narrow ty v = v) (hf : fits ty v = true) {g : JFrame} (hg : g.method = m) {rest : List Value} (hs : g.stack = v :: .ref a :: rest) (hd : decode c.code g.pc = .ok (.putfield index, 3))
    (r : ∀ T' h', WSt p l e R s m args below meth c Z n0 T' h' k n → Wr h h' a (Jvm.RoadKit.slotOf Z O f d) v → Keep h h' [a] → WGo p e below s n0 Q K N T' { g with pc := g.pc + 3, stack := rest }) : WGo p e below s n0 Q K N T g := by
  obtain ⟨locs, X, e1, N1, n1, hx, hZ, hlk⟩ := S
  obtain ⟨T', h', X', e', W', st⟩ := putF X hx hZ hown (host := "") (Or.inl w) via e1 F E L wi hty hn hf hg hs hd
  exact WGo.st st (r T' h' ⟨_, X', e', Fr.snoc X' N1 ga, n1, hx, hZ, hlk⟩ W' (Keep.of_wr W'))
theorem w_getstatic (S : WSt p l e R s m args below meth c Z n0 T h k n) {own R0 O f d : String} {index : Nat} (hown : s.vm.findClass own = some m.cls) (w : (Jvm.Cond.fieldLink own index R0 f d).before a0 Z = true) (via : Via Z R0 O f d) {v : Value} (F : Sta Z h O f d v) {g : JFrame} (hg : g.method = m) (hd : decode c.code g.pc = .ok (.getstatic index, 3))
    (r : ∀ T', WSt p l e R s m args below meth c Z n0 T' h k n → WGo p e below s n0 Q K N T' { g with pc := g.pc + 3, stack := v :: g.stack }) : WGo p e below s n0 Q K N T g := by
  obtain ⟨locs, X, e1, N1, n1, hx, hZ, hlk⟩ := S
  obtain ⟨T', X', e', st⟩ := getS X hx hZ hown (host := "") w via e1 F hg hd
  exact WGo.st st (r T' ⟨locs, X', e', N1, n1, hx, hZ, hlk⟩)
/-- comparisons of longs -/
theorem cl_lt {x y : Int64} (q : x < y) : lcmpW x y = -1 := Int32.toInt_inj.mp ((c_lcmp x y).1 (Int64.lt_iff_toInt_lt.mp q))
theorem cl_eq {x y : Int64} (q : x = y) : lcmpW x y = 0 := Int32.toInt_inj.mp ((c_lcmp x y).2.1 (by rw [q]))
theorem cl_gt {x y : Int64} (q : y < x) : lcmpW x y = 1 := Int32.toInt_inj.mp ((c_lcmp x y).2.2 (Int64.lt_iff_toInt_lt.mp q))
theorem cl_tri (x y : Int64) : x < y ∨ x = y ∨ y < x := by
  simp only [Int64.lt_iff_toInt_lt]
  rcases Int.lt_trichotomy x.toInt y.toInt with q | q | q
  · exact Or.inl q
  · exact Or.inr (Or.inl (Int64.toInt_inj.mp q))
  · exact Or.inr (Or.inr q)
theorem tltJ {x y : Int64} (q : x < y) : ifCond.holds .lt (lcmpW x y) = true ∧ ifCond.holds .ge (lcmpW x y) = false := by rw [cl_lt q]; decide
theorem fltJ {x y : Int64} (q : ¬ x < y) : ifCond.holds .lt (lcmpW x y) = false ∧ ifCond.holds .ge (lcmpW x y) = true := by
  rcases cl_tri x y with r | r | r
  · exact absurd r q
  · rw [cl_eq r]; decide
  · rw [cl_gt r]; decide
theorem tgtJ {x y : Int64} (q : y < x) : ifCond.holds .gt (lcmpW x y) = true ∧ ifCond.holds .le (lcmpW x y) = false := by rw [cl_gt q]; decide
theorem fgtJ {x y : Int64} (q : ¬ y < x) : ifCond.holds .gt (lcmpW x y) = false ∧ ifCond.holds .le (lcmpW x y) = true := by
  rcases cl_tri x y with r | r | r
  · rw [cl_lt r]; decide
  · rw [cl_eq r]; decide
  · exact absurd r q
theorem teqJ {x y : Int64} (q : x = y) : ifCond.holds .eq (lcmpW x y) = true ∧ ifCond.holds .ne (lcmpW x y) = false := by rw [cl_eq q]; decide
theorem feqJ {x y : Int64} (q : ¬ x = y) : ifCond.holds .eq (lcmpW x y) = false ∧ ifCond.holds .ne (lcmpW x y) = true := by
  rcases cl_tri x y with r | r | r
  · rw [cl_lt r]; decide
  · exact absurd r q
  · rw [cl_gt r]; decide
theorem w_dupX2 {tb : Tables} [Ours tb] {target : State} {g : JFrame} (h : At T m c below) (hx : tb.exec = Jvm.exec) (hg : g.method = m) {x y z : Value} {rest : List Value} (hd : decode c.code g.pc = .ok (.dup_x2, 1)) (hs : g.stack = x :: y :: z :: rest) (hc : x.category = 1) (hc1 : y.category = 1) (hc2 : z.category = 1)
    (hr : Steps tb e below (T.setTop { g with pc := g.pc + 1, stack := x :: y :: z :: x :: rest }) target) : Steps tb e below (T.setTop g) target := by
  subst hg
  jvm_step h [h.top, hx, hd, hs, hc, hc1, hc2]
  exact hr
end Core
section Arith
theorem rem_rng (x y : Int32) (d : Int) (hy : y.toInt = d) (hd : 0 < d) : 0 ≤ ((x &&& (2147483647 : Int32)) % y).toInt ∧ ((x &&& (2147483647 : Int32)) % y).toInt < d := by
  have h1 := c_mask x 2147483647 31 (by decide) (by decide)
  have h2 := (c_irem (x &&& 2147483647) y d hy).1 (by omega)
  rw [h2]
  exact ⟨Int.emod_nonneg _ (by omega), Int.emod_lt_of_pos _ hd⟩
theorem byte_idem (x : Int32) : x.toInt8.toInt32.toInt8.toInt32 = x.toInt8.toInt32 := by
  have h1 := c_i2b x
  have h2 := c_i2b x.toInt8.toInt32
  apply Int32.toInt_inj.mp
  omega
theorem si_len (L : List Int32) (j v : Int32) : (si L j v).length = L.length := by simp [si]
theorem gi_same (L : List Int32) (j v : Int32) (h0 : 0 ≤ j.toInt) (h1 : j.toInt < L.length) : gi (si L j v) j = v := by
  have q : j.toNatClampNeg < L.length := by simp only [Int32.toNatClampNeg]; omega
  simp [gi, si, q]
theorem gi_other (L : List Int32) (i j v : Int32) (h0 : 0 ≤ i.toInt) (h1 : 0 ≤ j.toInt) (hne : i.toInt ≠ j.toInt) : gi (si L j v) i = gi L i := by
  have q : j.toNatClampNeg ≠ i.toNatClampNeg := by simp only [Int32.toNatClampNeg]; omega
  simp [gi, si, List.getElem?_set, q]
theorem add_c {x k : Int32} {z : Int} (hz : k.toInt = z) (h0 : -2147483648 ≤ x.toInt + z) (h1 : x.toInt + z < 2147483648) : (x + k).toInt = x.toInt + z := by
  have h := c_iadd x k
  have r := rng32 (x + k)
  omega
theorem sub_c {x k : Int32} {z : Int} (hz : k.toInt = z) (h0 : -2147483648 ≤ x.toInt - z) (h1 : x.toInt - z < 2147483648) : (x - k).toInt = x.toInt - z := by
  have h := c_isub x k
  have r := rng32 (x - k)
  omega
theorem two_st (L : List Int32) (p q x y : Int32) (p0 : 0 ≤ p.toInt) (p1 : p.toInt < L.length) (q0 : 0 ≤ q.toInt) (q1 : q.toInt < L.length) (ne : p.toInt ≠ q.toInt) : gi (si (si L p x) q y) p = x ∧ gi (si (si L p x) q y) q = y :=
  ⟨by rw [gi_other _ _ _ _ p0 q0 ne]; exact gi_same L p x p0 p1, gi_same _ q y q0 (by rw [si_len]; exact q1)⟩
end Arith

def befF (x j y i : Int32) : Int32 := if x < y then 1 else if x = y then (if j < i then 1 else 0) else 0
def ind (q : Prop) [Decidable q] : Int32 := if q then 1 else 0
def r0F (a b c d : Int32) : Int32 := ((befF b (1 : Int32) a (0 : Int32)) + (befF c (2 : Int32) a (0 : Int32))) + (befF d (3 : Int32) a (0 : Int32))
def r1F (a b c d : Int32) : Int32 := ((befF a (0 : Int32) b (1 : Int32)) + (befF c (2 : Int32) b (1 : Int32))) + (befF d (3 : Int32) b (1 : Int32))
def r2F (a b c d : Int32) : Int32 := ((befF a (0 : Int32) c (2 : Int32)) + (befF b (1 : Int32) c (2 : Int32))) + (befF d (3 : Int32) c (2 : Int32))
def r3F (a b c d : Int32) : Int32 := ((befF a (0 : Int32) d (3 : Int32)) + (befF b (1 : Int32) d (3 : Int32))) + (befF c (2 : Int32) d (3 : Int32))
def cuF (a b c d y : Int32) : Int32 := ((ind (a < y) + ind (b < y)) + ind (c < y)) + ind (d < y)
def c1F (a b c d y : Int32) : Int32 := ((ind (a + 1 = y) + ind (b + 1 = y)) + ind (c + 1 = y)) + ind (d + 1 = y)
theorem ltself (y : Int32) : ¬ y < y := by rw [Int32.lt_iff_toInt_lt]; omega
theorem ind_self (y : Int32) : ind (y < y) = 0 := if_neg (ltself y)
theorem bef_lt (x y : Int32) {j i : Int32} (h : j < i) : befF x j y i = ind (x < y) + ind (x = y) := by
  unfold befF ind
  by_cases h1 : x < y
  · have h2 : ¬ x = y := fun q => by subst q; exact ltself _ h1
    simp [h1, h2]
  · by_cases h2 : x = y
    · simp [h1, h2, h, ltself]
    · simp [h1, h2]
theorem bef_ge (x y : Int32) {j i : Int32} (h : ¬ j < i) : befF x j y i = ind (x < y) := by
  unfold befF ind
  by_cases h1 : x < y
  · simp [h1]
  · by_cases h2 : x = y
    · simp [h1, h2, h, ltself]
    · simp [h1, h2]
theorem pos0 (a b c d : Int32) : cuF a b c d a = r0F a b c d := by
  unfold cuF r0F
  rw [bef_ge b a (by decide), bef_ge c a (by decide), bef_ge d a (by decide), ind_self, Int32.zero_add]
theorem pos1 (a b c d : Int32) : cuF a b c d b + ind (a = b) = r1F a b c d := by
  unfold cuF r1F
  rw [bef_lt a b (by decide), bef_ge c b (by decide), bef_ge d b (by decide), ind_self, Int32.add_zero]
  ac_rfl
theorem pos2 (a b c d : Int32) : cuF a b c d c + ind (a = c) + ind (b = c) = r2F a b c d := by
  unfold cuF r2F
  rw [bef_lt a c (by decide), bef_lt b c (by decide), bef_ge d c (by decide), ind_self, Int32.add_zero]
  ac_rfl
theorem pos3 (a b c d : Int32) : cuF a b c d d + ind (a = d) + ind (b = d) + ind (c = d) = r3F a b c d := by
  unfold cuF r3F
  rw [bef_lt a d (by decide), bef_lt b d (by decide), bef_lt c d (by decide), ind_self, Int32.add_zero]
  ac_rfl
theorem bef01 (x j y i : Int32) : befF x j y i = 0 ∨ befF x j y i = 1 := by
  unfold befF; split
  · exact Or.inr rfl
  · split
    · split
      · exact Or.inr rfl
      · exact Or.inl rfl
    · exact Or.inl rfl
theorem sum3 {x y z : Int32} (h1 : x = 0 ∨ x = 1) (h2 : y = 0 ∨ y = 1) (h3 : z = 0 ∨ z = 1) : 0 ≤ ((x + y) + z).toInt ∧ ((x + y) + z).toInt < ((4 : Nat) : Int) := by
  rcases h1 with rfl | rfl <;> rcases h2 with rfl | rfl <;> rcases h3 with rfl | rfl <;> decide
theorem r0_rng (a b c d : Int32) : 0 ≤ (r0F a b c d).toInt ∧ (r0F a b c d).toInt < ((4 : Nat) : Int) := sum3 (bef01 _ _ _ _) (bef01 _ _ _ _) (bef01 _ _ _ _)
theorem r1_rng (a b c d : Int32) : 0 ≤ (r1F a b c d).toInt ∧ (r1F a b c d).toInt < ((4 : Nat) : Int) := sum3 (bef01 _ _ _ _) (bef01 _ _ _ _) (bef01 _ _ _ _)
theorem r2_rng (a b c d : Int32) : 0 ≤ (r2F a b c d).toInt ∧ (r2F a b c d).toInt < ((4 : Nat) : Int) := sum3 (bef01 _ _ _ _) (bef01 _ _ _ _) (bef01 _ _ _ _)
theorem r3_rng (a b c d : Int32) : 0 ≤ (r3F a b c d).toInt ∧ (r3F a b c d).toInt < ((4 : Nat) : Int) := sum3 (bef01 _ _ _ _) (bef01 _ _ _ _) (bef01 _ _ _ _)
theorem cnt_step {C : List Int32} {x : Int32} (h0 : 0 ≤ x.toInt) (h1 : x.toInt < C.length) (y : Int32) (hy : 0 ≤ y.toInt) : gi (si C x (gi C x + (1 : Int32))) y = gi C y + ind (x = y) := by
  by_cases e : x = y
  · subst e; rw [gi_same _ _ _ h0 h1]; simp [ind]
  · rw [gi_other _ _ _ _ hy h0 (fun q => e (Int32.toInt_inj.mp q.symm))]; simp [ind, e]
theorem gi_zero (n : Nat) (y : Int32) : gi (List.replicate n (0 : Int32)) y = 0 := by
  simp only [gi, List.getD_eq_getElem?_getD, List.getElem?_replicate]; split <;> rfl
theorem ind_step {a i : Int32} (a0 : 0 ≤ a.toInt) (a1 : a.toInt < 100) (i0 : 0 ≤ i.toInt) (i1 : i.toInt < 100) : ind (a + 1 = i + 1) + ind (a < i) = ind (a < i + 1) := by
  have q1 : (a + (1 : Int32)).toInt = a.toInt + 1 := add_c (by decide) (by omega) (by omega)
  have q2 : (i + (1 : Int32)).toInt = i.toInt + 1 := add_c (by decide) (by omega) (by omega)
  unfold ind
  simp only [Int32.lt_iff_toInt_lt, ← Int32.toInt_inj, q1, q2]
  by_cases h1 : a.toInt = i.toInt
  · rw [if_pos (by omega), if_neg (by omega), if_pos (by omega)]; decide
  · by_cases h2 : a.toInt < i.toInt
    · rw [if_neg (by omega), if_pos (by omega), if_pos (by omega)]; decide
    · rw [if_neg (by omega), if_neg (by omega), if_neg (by omega)]; decide
theorem cu_step {a b c d i : Int32} (ha : 0 ≤ a.toInt ∧ a.toInt < 8) (hb : 0 ≤ b.toInt ∧ b.toInt < 8) (hc : 0 ≤ c.toInt ∧ c.toInt < 8) (hd : 0 ≤ d.toInt ∧ d.toInt < 8) (i0 : 0 ≤ i.toInt) (i1 : i.toInt < 100) : c1F a b c d (i + (1 : Int32)) + cuF a b c d i = cuF a b c d (i + (1 : Int32)) := by
  unfold c1F cuF
  rw [← ind_step ha.1 (by omega) i0 i1, ← ind_step hb.1 (by omega) i0 i1, ← ind_step hc.1 (by omega) i0 i1, ← ind_step hd.1 (by omega) i0 i1]
  ac_rfl
theorem ind_z1 {a : Int32} (a0 : 0 ≤ a.toInt) (a1 : a.toInt < 100) (y : Int32) (hy : y.toInt = 0) : ind (a + 1 = y) = 0 ∧ ind (a < y) = 0 := by
  have q1 : (a + (1 : Int32)).toInt = a.toInt + 1 := add_c (by decide) (by omega) (by omega)
  have n1 : ¬ a + 1 = y := fun q => by
    have w := congrArg Int32.toInt q
    rw [q1, hy] at w; omega
  have n2 : ¬ a < y := by rw [Int32.lt_iff_toInt_lt]; omega
  exact ⟨if_neg n1, if_neg n2⟩
theorem cu_zero {a b c d : Int32} (ha : 0 ≤ a.toInt ∧ a.toInt < 8) (hb : 0 ≤ b.toInt ∧ b.toInt < 8) (hc : 0 ≤ c.toInt ∧ c.toInt < 8) (hd : 0 ≤ d.toInt ∧ d.toInt < 8) (y : Int32) (hy : y.toInt = 0) : c1F a b c d y = cuF a b c d y := by
  unfold c1F cuF
  have qa := ind_z1 ha.1 (by omega) y hy
  have qb := ind_z1 hb.1 (by omega) y hy
  have qc := ind_z1 hc.1 (by omega) y hy
  have qd := ind_z1 hd.1 (by omega) y hy
  rw [qa.1, qa.2, qb.1, qb.2, qc.1, qc.2, qd.1, qd.2]
theorem gi4_rng {a b c d i : Int32} {R : Int} (h0 : 0 ≤ i.toInt) (h1 : i.toInt < 4) (ha : 0 ≤ a.toInt ∧ a.toInt < R) (hb : 0 ≤ b.toInt ∧ b.toInt < R) (hc : 0 ≤ c.toInt ∧ c.toInt < R) (hd : 0 ≤ d.toInt ∧ d.toInt < R) : 0 ≤ (gi [a, b, c, d] i).toInt ∧ (gi [a, b, c, d] i).toInt < R := by
  have h : i.toInt = 0 ∨ i.toInt = 1 ∨ i.toInt = 2 ∨ i.toInt = 3 := by omega
  rcases h with h | h | h | h
  · obtain rfl : i = 0 := Int32.toInt_inj.mp (by rw [h]; decide)
    exact ha
  · obtain rfl : i = 1 := Int32.toInt_inj.mp (by rw [h]; decide)
    exact hb
  · obtain rfl : i = 2 := Int32.toInt_inj.mp (by rw [h]; decide)
    exact hc
  · obtain rfl : i = 3 := Int32.toInt_inj.mp (by rw [h]; decide)
    exact hd
theorem d_method_2_code_0 : decode method_2_code 0 = .ok (.iload_n 0, 1) := by decide +kernel
theorem d_method_2_code_1 : decode method_2_code 1 = .ok (.iload_n 2, 1) := by decide +kernel
theorem d_method_2_code_2 : decode method_2_code 2 = .ok (.if_icmp .lt 13, 3) := by decide +kernel
theorem d_method_2_code_5 : decode method_2_code 5 = .ok (.iload_n 0, 1) := by decide +kernel
theorem d_method_2_code_6 : decode method_2_code 6 = .ok (.iload_n 2, 1) := by decide +kernel
theorem d_method_2_code_7 : decode method_2_code 7 = .ok (.if_icmp .ne 12, 3) := by decide +kernel
theorem d_method_2_code_10 : decode method_2_code 10 = .ok (.iload_n 1, 1) := by decide +kernel
theorem d_method_2_code_11 : decode method_2_code 11 = .ok (.iload_n 3, 1) := by decide +kernel
theorem d_method_2_code_12 : decode method_2_code 12 = .ok (.if_icmp .ge 7, 3) := by decide +kernel
theorem d_method_2_code_15 : decode method_2_code 15 = .ok (.iconst 1, 1) := by decide +kernel
theorem d_method_2_code_16 : decode method_2_code 16 = .ok (.goto 4, 3) := by decide +kernel
theorem d_method_2_code_19 : decode method_2_code 19 = .ok (.iconst 0, 1) := by decide +kernel
theorem d_method_2_code_20 : decode method_2_code 20 = .ok (.ireturn, 1) := by decide +kernel
def QBf (Z : State) (n0 : Nat) (h0 : Heap) (p1 : Int32) (p2 : Int32) (p3 : Int32) (p4 : Int32) (v : Option Value) (h : Heap) : Prop := v = some (.int (befF p1 p2 p3 p4)) ∧ h = h0
theorem ef_Bf (m : MethodId) (p1 : Int32) (p2 : Int32) (p3 : Int32) (p4 : Int32) : entryFrame m #[(.int p1), (.int p2), (.int p3), (.int p4)] 4 = mkF m 0 #[.val (.int p1), .val (.int p2), .val (.int p3), .val (.int p4)] [] := by first | (simp [entryFrame, mkF, argsToLocals, Value.category, maxLocals]; done) | rfl
set_option maxRecDepth 65536 in
set_option maxHeartbeats 40000000 in
theorem rm_Bf (l : Launch) (Z : State) (a0 : Array Value) (hw : ∀ d ∈ tables_1, d.before a0 Z = true) (n0 : Nat) (h0 : Heap) (p1 : Int32) (p2 : Int32) (p3 : Int32) (p4 : Int32) (Z0 : n0 ≤ h0.size)  :
    WCon l Z n0 h0 (⟨"com/example/ookayama/ookayama/CountingSortByKeyPinLaw", "before", "(IIII)I"⟩ : MethodName) method_2_code 4 (some .int) [] ({ frames := 0, cells := 0, slots := 0, locals := 0 } : Room) #[(.int p1), (.int p2), (.int p3), (.int p4)] (QBf Z n0 h0 p1 p2 p3 p4) := by
  refine WCon.of (by first | exact plainFor_of_name (by decide +kernel) | decide +kernel) Z0 ?_
  intro p e s m below meth c T hx hZ hby hml hown hnm hret S
  refine WGo.cast (ef_Bf m p1 p2 p3 p4) ?_
  show WGo _ _ _ _ _ _ _ _ T (mkF m 0 #[.val (.int p1), .val (.int p2), .val (.int p3), .val (.int p4)] [])
  refine WGo.st (fun _ q => XS.iloadN S.here hx rfl (hb hby d_method_2_code_0) rfl q) ?_
  show WGo _ _ _ _ _ _ _ _ T (mkF m 1 #[.val (.int p1), .val (.int p2), .val (.int p3), .val (.int p4)] [(.int p1)])
  refine WGo.st (fun _ q => XS.iloadN S.here hx rfl (hb hby d_method_2_code_1) rfl q) ?_
  show WGo _ _ _ _ _ _ _ _ T (mkF m 2 #[.val (.int p1), .val (.int p2), .val (.int p3), .val (.int p4)] [(.int p3), (.int p1)])
  by_cases c2 : p1 < p3
  · refine WGo.st (fun _ q => XS.icmpYes S.here hx rfl (pc0 := 2) (pc' := 15) rfl (hb hby d_method_2_code_2) rfl (tlt c2).1 (by decide) (by decide) q) ?_
    show WGo _ _ _ _ _ _ _ _ T (mkF m 15 #[.val (.int p1), .val (.int p2), .val (.int p3), .val (.int p4)] [])
    refine WGo.st (fun _ q => XS.iconst S.here hx rfl (hb hby d_method_2_code_15) q) ?_
    show WGo _ _ _ _ _ _ _ _ T (mkF m 16 #[.val (.int p1), .val (.int p2), .val (.int p3), .val (.int p4)] [(.int (1 : Int32))])
    refine WGo.st (fun _ q => XS.goto S.here hx rfl (pc0 := 16) (pc' := 20) rfl (hb hby d_method_2_code_16) (by decide) (by decide) q) ?_
    show WGo _ _ _ _ _ _ _ _ T (mkF m 20 #[.val (.int p1), .val (.int p2), .val (.int p3), .val (.int p4)] [(.int (1 : Int32))])
    refine w_retI S hret (hb hby d_method_2_code_20) (by decide) (by decide) ?_
    exact ⟨by simp [befF, *], rfl⟩
  · refine WGo.st (fun _ q => XS.icmpNo S.here hx rfl (hb hby d_method_2_code_2) rfl (flt c2).1 q) ?_
    show WGo _ _ _ _ _ _ _ _ T (mkF m 5 #[.val (.int p1), .val (.int p2), .val (.int p3), .val (.int p4)] [])
    refine WGo.st (fun _ q => XS.iloadN S.here hx rfl (hb hby d_method_2_code_5) rfl q) ?_
    show WGo _ _ _ _ _ _ _ _ T (mkF m 6 #[.val (.int p1), .val (.int p2), .val (.int p3), .val (.int p4)] [(.int p1)])
    refine WGo.st (fun _ q => XS.iloadN S.here hx rfl (hb hby d_method_2_code_6) rfl q) ?_
    show WGo _ _ _ _ _ _ _ _ T (mkF m 7 #[.val (.int p1), .val (.int p2), .val (.int p3), .val (.int p4)] [(.int p3), (.int p1)])
    by_cases c7 : p1 = p3
    · refine WGo.st (fun _ q => XS.icmpNo S.here hx rfl (hb hby d_method_2_code_7) rfl (teq c7).2 q) ?_
      show WGo _ _ _ _ _ _ _ _ T (mkF m 10 #[.val (.int p1), .val (.int p2), .val (.int p3), .val (.int p4)] [])
      refine WGo.st (fun _ q => XS.iloadN S.here hx rfl (hb hby d_method_2_code_10) rfl q) ?_
      show WGo _ _ _ _ _ _ _ _ T (mkF m 11 #[.val (.int p1), .val (.int p2), .val (.int p3), .val (.int p4)] [(.int p2)])
      refine WGo.st (fun _ q => XS.iloadN S.here hx rfl (hb hby d_method_2_code_11) rfl q) ?_
      show WGo _ _ _ _ _ _ _ _ T (mkF m 12 #[.val (.int p1), .val (.int p2), .val (.int p3), .val (.int p4)] [(.int p4), (.int p2)])
      by_cases c12 : p2 < p4
      · refine WGo.st (fun _ q => XS.icmpNo S.here hx rfl (hb hby d_method_2_code_12) rfl (tlt c12).2.1 q) ?_
        show WGo _ _ _ _ _ _ _ _ T (mkF m 15 #[.val (.int p1), .val (.int p2), .val (.int p3), .val (.int p4)] [])
        refine WGo.st (fun _ q => XS.iconst S.here hx rfl (hb hby d_method_2_code_15) q) ?_
        show WGo _ _ _ _ _ _ _ _ T (mkF m 16 #[.val (.int p1), .val (.int p2), .val (.int p3), .val (.int p4)] [(.int (1 : Int32))])
        refine WGo.st (fun _ q => XS.goto S.here hx rfl (pc0 := 16) (pc' := 20) rfl (hb hby d_method_2_code_16) (by decide) (by decide) q) ?_
        show WGo _ _ _ _ _ _ _ _ T (mkF m 20 #[.val (.int p1), .val (.int p2), .val (.int p3), .val (.int p4)] [(.int (1 : Int32))])
        refine w_retI S hret (hb hby d_method_2_code_20) (by decide) (by decide) ?_
        exact ⟨by simp [befF, *], rfl⟩
      · refine WGo.st (fun _ q => XS.icmpYes S.here hx rfl (pc0 := 12) (pc' := 19) rfl (hb hby d_method_2_code_12) rfl (flt c12).2.1 (by decide) (by decide) q) ?_
        show WGo _ _ _ _ _ _ _ _ T (mkF m 19 #[.val (.int p1), .val (.int p2), .val (.int p3), .val (.int p4)] [])
        refine WGo.st (fun _ q => XS.iconst S.here hx rfl (hb hby d_method_2_code_19) q) ?_
        show WGo _ _ _ _ _ _ _ _ T (mkF m 20 #[.val (.int p1), .val (.int p2), .val (.int p3), .val (.int p4)] [(.int (0 : Int32))])
        refine w_retI S hret (hb hby d_method_2_code_20) (by decide) (by decide) ?_
        exact ⟨by simp [befF, *], rfl⟩
    · refine WGo.st (fun _ q => XS.icmpYes S.here hx rfl (pc0 := 7) (pc' := 19) rfl (hb hby d_method_2_code_7) rfl (feq c7).2 (by decide) (by decide) q) ?_
      show WGo _ _ _ _ _ _ _ _ T (mkF m 19 #[.val (.int p1), .val (.int p2), .val (.int p3), .val (.int p4)] [])
      refine WGo.st (fun _ q => XS.iconst S.here hx rfl (hb hby d_method_2_code_19) q) ?_
      show WGo _ _ _ _ _ _ _ _ T (mkF m 20 #[.val (.int p1), .val (.int p2), .val (.int p3), .val (.int p4)] [(.int (0 : Int32))])
      refine w_retI S hret (hb hby d_method_2_code_20) (by decide) (by decide) ?_
      exact ⟨by simp [befF, *], rfl⟩
theorem d_prog_16_method_3_code_0 : decode prog_16_method_3_code 0 = .ok (.iload_n 2, 1) := by decide +kernel
theorem d_prog_16_method_3_code_1 : decode prog_16_method_3_code 1 = .ok (.iconst 1, 1) := by decide +kernel
theorem d_prog_16_method_3_code_2 : decode prog_16_method_3_code 2 = .ok (.iadd, 1) := by decide +kernel
theorem d_prog_16_method_3_code_3 : decode prog_16_method_3_code 3 = .ok (.newarray .int, 2) := by decide +kernel
theorem d_prog_16_method_3_code_5 : decode prog_16_method_3_code 5 = .ok (.astore_n 3, 1) := by decide +kernel
theorem d_prog_16_method_3_code_6 : decode prog_16_method_3_code 6 = .ok (.aload_n 0, 1) := by decide +kernel
theorem d_prog_16_method_3_code_7 : decode prog_16_method_3_code 7 = .ok (.astore 4, 2) := by decide +kernel
theorem d_prog_16_method_3_code_9 : decode prog_16_method_3_code 9 = .ok (.aload 4, 2) := by decide +kernel
theorem d_prog_16_method_3_code_11 : decode prog_16_method_3_code 11 = .ok (.arraylength, 1) := by decide +kernel
theorem d_prog_16_method_3_code_12 : decode prog_16_method_3_code 12 = .ok (.istore 5, 2) := by decide +kernel
theorem d_prog_16_method_3_code_14 : decode prog_16_method_3_code 14 = .ok (.iconst 0, 1) := by decide +kernel
theorem d_prog_16_method_3_code_15 : decode prog_16_method_3_code 15 = .ok (.istore 6, 2) := by decide +kernel
theorem d_prog_16_method_3_code_17 : decode prog_16_method_3_code 17 = .ok (.iload 6, 2) := by decide +kernel
theorem d_prog_16_method_3_code_19 : decode prog_16_method_3_code 19 = .ok (.iload 5, 2) := by decide +kernel
theorem d_prog_16_method_3_code_21 : decode prog_16_method_3_code 21 = .ok (.if_icmp .ge 28, 3) := by decide +kernel
theorem d_prog_16_method_3_code_24 : decode prog_16_method_3_code 24 = .ok (.aload 4, 2) := by decide +kernel
theorem d_prog_16_method_3_code_26 : decode prog_16_method_3_code 26 = .ok (.iload 6, 2) := by decide +kernel
theorem d_prog_16_method_3_code_28 : decode prog_16_method_3_code 28 = .ok (.iaload, 1) := by decide +kernel
theorem d_prog_16_method_3_code_29 : decode prog_16_method_3_code 29 = .ok (.istore 7, 2) := by decide +kernel
theorem d_prog_16_method_3_code_31 : decode prog_16_method_3_code 31 = .ok (.aload_n 3, 1) := by decide +kernel
theorem d_prog_16_method_3_code_32 : decode prog_16_method_3_code 32 = .ok (.aload_n 1, 1) := by decide +kernel
theorem d_prog_16_method_3_code_33 : decode prog_16_method_3_code 33 = .ok (.iload 7, 2) := by decide +kernel
theorem d_prog_16_method_3_code_35 : decode prog_16_method_3_code 35 = .ok (.iaload, 1) := by decide +kernel
theorem d_prog_16_method_3_code_36 : decode prog_16_method_3_code 36 = .ok (.iconst 1, 1) := by decide +kernel
theorem d_prog_16_method_3_code_37 : decode prog_16_method_3_code 37 = .ok (.iadd, 1) := by decide +kernel
theorem d_prog_16_method_3_code_38 : decode prog_16_method_3_code 38 = .ok (.dup2, 1) := by decide +kernel
theorem d_prog_16_method_3_code_39 : decode prog_16_method_3_code 39 = .ok (.iaload, 1) := by decide +kernel
theorem d_prog_16_method_3_code_40 : decode prog_16_method_3_code 40 = .ok (.iconst 1, 1) := by decide +kernel
theorem d_prog_16_method_3_code_41 : decode prog_16_method_3_code 41 = .ok (.iadd, 1) := by decide +kernel
theorem d_prog_16_method_3_code_42 : decode prog_16_method_3_code 42 = .ok (.iastore, 1) := by decide +kernel
theorem d_prog_16_method_3_code_43 : decode prog_16_method_3_code 43 = .ok (.iinc 6 1, 3) := by decide +kernel
theorem d_prog_16_method_3_code_46 : decode prog_16_method_3_code 46 = .ok (.goto (-29), 3) := by decide +kernel
theorem d_prog_16_method_3_code_49 : decode prog_16_method_3_code 49 = .ok (.iconst 0, 1) := by decide +kernel
theorem d_prog_16_method_3_code_50 : decode prog_16_method_3_code 50 = .ok (.istore 4, 2) := by decide +kernel
theorem d_prog_16_method_3_code_52 : decode prog_16_method_3_code 52 = .ok (.iload 4, 2) := by decide +kernel
theorem d_prog_16_method_3_code_54 : decode prog_16_method_3_code 54 = .ok (.iload_n 2, 1) := by decide +kernel
theorem d_prog_16_method_3_code_55 : decode prog_16_method_3_code 55 = .ok (.if_icmp .ge 22, 3) := by decide +kernel
theorem d_prog_16_method_3_code_58 : decode prog_16_method_3_code 58 = .ok (.aload_n 3, 1) := by decide +kernel
theorem d_prog_16_method_3_code_59 : decode prog_16_method_3_code 59 = .ok (.iload 4, 2) := by decide +kernel
theorem d_prog_16_method_3_code_61 : decode prog_16_method_3_code 61 = .ok (.iconst 1, 1) := by decide +kernel
theorem d_prog_16_method_3_code_62 : decode prog_16_method_3_code 62 = .ok (.iadd, 1) := by decide +kernel
theorem d_prog_16_method_3_code_63 : decode prog_16_method_3_code 63 = .ok (.dup2, 1) := by decide +kernel
theorem d_prog_16_method_3_code_64 : decode prog_16_method_3_code 64 = .ok (.iaload, 1) := by decide +kernel
theorem d_prog_16_method_3_code_65 : decode prog_16_method_3_code 65 = .ok (.aload_n 3, 1) := by decide +kernel
theorem d_prog_16_method_3_code_66 : decode prog_16_method_3_code 66 = .ok (.iload 4, 2) := by decide +kernel
theorem d_prog_16_method_3_code_68 : decode prog_16_method_3_code 68 = .ok (.iaload, 1) := by decide +kernel
theorem d_prog_16_method_3_code_69 : decode prog_16_method_3_code 69 = .ok (.iadd, 1) := by decide +kernel
theorem d_prog_16_method_3_code_70 : decode prog_16_method_3_code 70 = .ok (.iastore, 1) := by decide +kernel
theorem d_prog_16_method_3_code_71 : decode prog_16_method_3_code 71 = .ok (.iinc 4 1, 3) := by decide +kernel
theorem d_prog_16_method_3_code_74 : decode prog_16_method_3_code 74 = .ok (.goto (-22), 3) := by decide +kernel
theorem d_prog_16_method_3_code_77 : decode prog_16_method_3_code 77 = .ok (.aload_n 0, 1) := by decide +kernel
theorem d_prog_16_method_3_code_78 : decode prog_16_method_3_code 78 = .ok (.arraylength, 1) := by decide +kernel
theorem d_prog_16_method_3_code_79 : decode prog_16_method_3_code 79 = .ok (.newarray .int, 2) := by decide +kernel
theorem d_prog_16_method_3_code_81 : decode prog_16_method_3_code 81 = .ok (.astore 4, 2) := by decide +kernel
theorem d_prog_16_method_3_code_83 : decode prog_16_method_3_code 83 = .ok (.aload_n 0, 1) := by decide +kernel
theorem d_prog_16_method_3_code_84 : decode prog_16_method_3_code 84 = .ok (.astore 5, 2) := by decide +kernel
theorem d_prog_16_method_3_code_86 : decode prog_16_method_3_code 86 = .ok (.aload 5, 2) := by decide +kernel
theorem d_prog_16_method_3_code_88 : decode prog_16_method_3_code 88 = .ok (.arraylength, 1) := by decide +kernel
theorem d_prog_16_method_3_code_89 : decode prog_16_method_3_code 89 = .ok (.istore 6, 2) := by decide +kernel
theorem d_prog_16_method_3_code_91 : decode prog_16_method_3_code 91 = .ok (.iconst 0, 1) := by decide +kernel
theorem d_prog_16_method_3_code_92 : decode prog_16_method_3_code 92 = .ok (.istore 7, 2) := by decide +kernel
theorem d_prog_16_method_3_code_94 : decode prog_16_method_3_code 94 = .ok (.iload 7, 2) := by decide +kernel
theorem d_prog_16_method_3_code_96 : decode prog_16_method_3_code 96 = .ok (.iload 6, 2) := by decide +kernel
theorem d_prog_16_method_3_code_98 : decode prog_16_method_3_code 98 = .ok (.if_icmp .ge 32, 3) := by decide +kernel
theorem d_prog_16_method_3_code_101 : decode prog_16_method_3_code 101 = .ok (.aload 5, 2) := by decide +kernel
theorem d_prog_16_method_3_code_103 : decode prog_16_method_3_code 103 = .ok (.iload 7, 2) := by decide +kernel
theorem d_prog_16_method_3_code_105 : decode prog_16_method_3_code 105 = .ok (.iaload, 1) := by decide +kernel
theorem d_prog_16_method_3_code_106 : decode prog_16_method_3_code 106 = .ok (.istore 8, 2) := by decide +kernel
theorem d_prog_16_method_3_code_108 : decode prog_16_method_3_code 108 = .ok (.aload 4, 2) := by decide +kernel
theorem d_prog_16_method_3_code_110 : decode prog_16_method_3_code 110 = .ok (.aload_n 3, 1) := by decide +kernel
theorem d_prog_16_method_3_code_111 : decode prog_16_method_3_code 111 = .ok (.aload_n 1, 1) := by decide +kernel
theorem d_prog_16_method_3_code_112 : decode prog_16_method_3_code 112 = .ok (.iload 8, 2) := by decide +kernel
theorem d_prog_16_method_3_code_114 : decode prog_16_method_3_code 114 = .ok (.iaload, 1) := by decide +kernel
theorem d_prog_16_method_3_code_115 : decode prog_16_method_3_code 115 = .ok (.dup2, 1) := by decide +kernel
theorem d_prog_16_method_3_code_116 : decode prog_16_method_3_code 116 = .ok (.iaload, 1) := by decide +kernel
theorem d_prog_16_method_3_code_117 : decode prog_16_method_3_code 117 = .ok (.dup_x2, 1) := by decide +kernel
theorem d_prog_16_method_3_code_118 : decode prog_16_method_3_code 118 = .ok (.iconst 1, 1) := by decide +kernel
theorem d_prog_16_method_3_code_119 : decode prog_16_method_3_code 119 = .ok (.iadd, 1) := by decide +kernel
theorem d_prog_16_method_3_code_120 : decode prog_16_method_3_code 120 = .ok (.iastore, 1) := by decide +kernel
theorem d_prog_16_method_3_code_121 : decode prog_16_method_3_code 121 = .ok (.iload 8, 2) := by decide +kernel
theorem d_prog_16_method_3_code_123 : decode prog_16_method_3_code 123 = .ok (.iastore, 1) := by decide +kernel
theorem d_prog_16_method_3_code_124 : decode prog_16_method_3_code 124 = .ok (.iinc 7 1, 3) := by decide +kernel
theorem d_prog_16_method_3_code_127 : decode prog_16_method_3_code 127 = .ok (.goto (-33), 3) := by decide +kernel
theorem d_prog_16_method_3_code_130 : decode prog_16_method_3_code 130 = .ok (.aload 4, 2) := by decide +kernel
theorem d_prog_16_method_3_code_132 : decode prog_16_method_3_code 132 = .ok (.areturn, 1) := by decide +kernel
def QKy (Z : State) (n0 : Nat) (h0 : Heap) (a1 : Addr) (a2 : Addr) (p3 : Int32) (LK : List Int32) (i0 : Int32) (i1 : Int32) (i2 : Int32) (i3 : Int32) (k0 : Int32) (k1 : Int32) (k2 : Int32) (k3 : Int32) (v : Option Value) (h : Heap) : Prop := ∃ b, v = some (.ref b) ∧ Keep h0 h [] ∧ h0.size ≤ b ∧ n0 ≤ b ∧ AI Z h b .int (si (si (si (si [(0 : Int32), (0 : Int32), (0 : Int32), (0 : Int32)] (r0F k0 k1 k2 k3) i0) (r1F k0 k1 k2 k3) i1) (r2F k0 k1 k2 k3) i2) (r3F k0 k1 k2 k3) i3)
theorem ef_Ky (m : MethodId) (a1 : Addr) (a2 : Addr) (p3 : Int32) : entryFrame m #[(.ref a1), (.ref a2), (.int p3)] 9 = mkF m 0 #[.val (.ref a1), .val (.ref a2), .val (.int p3), .unset, .unset, .unset, .unset, .unset, .unset] [] := by first | (simp [entryFrame, mkF, argsToLocals, Value.category, maxLocals]; done) | rfl
set_option maxRecDepth 65536 in
set_option maxHeartbeats 40000000 in
theorem rm_Ky (l : Launch) (Z : State) (a0 : Array Value) (hw : ∀ d ∈ tables_1, d.before a0 Z = true) (n0 : Nat) (h0 : Heap) (a1 : Addr) (a2 : Addr) (p3 : Int32) (LK : List Int32) (i0 : Int32) (i1 : Int32) (i2 : Int32) (i3 : Int32) (k0 : Int32) (k1 : Int32) (k2 : Int32) (k3 : Int32) (Z0 : n0 ≤ h0.size) (A1 : AI Z h0 a1 .int [i0, i1, i2, i3]) (A2 : AI Z h0 a2 .int LK) (hlK : LK.length = 4) (hi0 : 0 ≤ i0.toInt ∧ i0.toInt < 4) (hg0 : gi LK i0 = k0) (hk0 : 0 ≤ k0.toInt ∧ k0.toInt < p3.toInt) (hi1 : 0 ≤ i1.toInt ∧ i1.toInt < 4) (hg1 : gi LK i1 = k1) (hk1 : 0 ≤ k1.toInt ∧ k1.toInt < p3.toInt) (hi2 : 0 ≤ i2.toInt ∧ i2.toInt < 4) (hg2 : gi LK i2 = k2) (hk2 : 0 ≤ k2.toInt ∧ k2.toInt < p3.toInt) (hi3 : 0 ≤ i3.toInt ∧ i3.toInt < 4) (hg3 : gi LK i3 = k3) (hk3 : 0 ≤ k3.toInt ∧ k3.toInt < p3.toInt) (hR : 1 ≤ p3.toInt ∧ p3.toInt ≤ 8) :
    WCon l Z n0 h0 (⟨"com/example/ookayama/ookayama/CountingSort", "byKey", "([I[II)[I"⟩ : MethodName) prog_16_method_3_code 9 (some (.array .int)) [] ({ frames := 0, cells := 2, slots := 13, locals := 0 } : Room) #[(.ref a1), (.ref a2), (.int p3)] (QKy Z n0 h0 a1 a2 p3 LK i0 i1 i2 i3 k0 k1 k2 k3) := by
  refine WCon.of (by first | exact plainFor_of_name (by decide +kernel) | decide +kernel) Z0 ?_
  intro p e s m below meth c T hx hZ hby hml hown hnm hret S
  refine WGo.cast (ef_Ky m a1 a2 p3) ?_
  show WGo _ _ _ _ _ _ _ _ T (mkF m 0 #[.val (.ref a1), .val (.ref a2), .val (.int p3), .unset, .unset, .unset, .unset, .unset, .unset] [])
  refine WGo.st (fun _ q => XS.iloadN S.here hx rfl (hb hby d_prog_16_method_3_code_0) rfl q) ?_
  show WGo _ _ _ _ _ _ _ _ T (mkF m 1 #[.val (.ref a1), .val (.ref a2), .val (.int p3), .unset, .unset, .unset, .unset, .unset, .unset] [(.int p3)])
  refine WGo.st (fun _ q => XS.iconst S.here hx rfl (hb hby d_prog_16_method_3_code_1) q) ?_
  show WGo _ _ _ _ _ _ _ _ T (mkF m 2 #[.val (.ref a1), .val (.ref a2), .val (.int p3), .unset, .unset, .unset, .unset, .unset, .unset] [(.int (1 : Int32)), (.int p3)])
  refine WGo.st (fun _ q => XS.iadd S.here hx rfl (hb hby d_prog_16_method_3_code_2) rfl q) ?_
  show WGo _ _ _ _ _ _ _ _ T (mkF m 3 #[.val (.ref a1), .val (.ref a2), .val (.int p3), .unset, .unset, .unset, .unset, .unset, .unset] [(.int (p3 + (1 : Int32)))])
  have q3 : (p3 + (1 : Int32)).toInt = p3.toInt + 1 := add_c (by decide) (by omega) (by omega)
  obtain ⟨C0, eC0⟩ : ∃ C, C = List.replicate (p3 + (1 : Int32)).toNatClampNeg (0 : Int32) := ⟨_, rfl⟩
  have hl0 : (C0.length : Int) = p3.toInt + 1 := by rw [eC0, List.length_replicate]; simp only [Int32.toNatClampNeg, q3]; omega
  have hv0 : ∀ y : Int32, 0 ≤ y.toInt → gi C0 y = 0 := fun y _ => by rw [eC0]; exact gi_zero _ y
  refine w_newarray S (hw _ (List.mem_of_getElem? (i := 0) rfl)) rfl rfl (hb hby d_prog_16_method_3_code_3) rfl (by rw [Int32.lt_iff_toInt_lt, q3]; have z : (0 : Int32).toInt = 0 := (by decide); omega) (cap := 9) (by simp only [Int32.toNatClampNeg, q3]; omega) (by decide) (by decide) (by decide) (L := C0) eC0.symm ?_
  intro T1 h2 aC S3 K4 e_aC g_aC A_aC
  have n_a1_aC : a1 ≠ aC := by rw [e_aC]; exact Nat.ne_of_lt A1.lt
  have n_a2_aC : a2 ≠ aC := by rw [e_aC]; exact Nat.ne_of_lt A2.lt
  have N_aC : h0.size ≤ aC := by rw [e_aC]; exact (Keep.refl h0 []).1
  have P5 := Keep.trans (Keep.refl h0 []) K4 all0
  have f6 := AI.keep A1 K4 nin0
  have f7 := AI.keep A2 K4 nin0
  show WGo _ _ _ _ _ _ _ _ T1 (mkF m 5 #[.val (.ref a1), .val (.ref a2), .val (.int p3), .unset, .unset, .unset, .unset, .unset, .unset] [(.ref aC)])
  refine WGo.st (fun _ q => XS.astoreN S3.here hx rfl (hb hby d_prog_16_method_3_code_5) rfl rfl (l' := #[.val (.ref a1), .val (.ref a2), .val (.int p3), .val (.ref aC), .unset, .unset, .unset, .unset, .unset]) rfl q) ?_
  show WGo _ _ _ _ _ _ _ _ T1 (mkF m 6 #[.val (.ref a1), .val (.ref a2), .val (.int p3), .val (.ref aC), .unset, .unset, .unset, .unset, .unset] [])
  refine WGo.st (fun _ q => XS.aloadN S3.here hx rfl (hb hby d_prog_16_method_3_code_6) rfl rfl q) ?_
  show WGo _ _ _ _ _ _ _ _ T1 (mkF m 7 #[.val (.ref a1), .val (.ref a2), .val (.int p3), .val (.ref aC), .unset, .unset, .unset, .unset, .unset] [(.ref a1)])
  refine WGo.st (fun _ q => XS.astore S3.here hx rfl (hb hby d_prog_16_method_3_code_7) rfl rfl (l' := #[.val (.ref a1), .val (.ref a2), .val (.int p3), .val (.ref aC), .val (.ref a1), .unset, .unset, .unset, .unset]) rfl q) ?_
  show WGo _ _ _ _ _ _ _ _ T1 (mkF m 9 #[.val (.ref a1), .val (.ref a2), .val (.int p3), .val (.ref aC), .val (.ref a1), .unset, .unset, .unset, .unset] [])
  refine WGo.st (fun _ q => XS.aload S3.here hx rfl (hb hby d_prog_16_method_3_code_9) rfl rfl q) ?_
  show WGo _ _ _ _ _ _ _ _ T1 (mkF m 11 #[.val (.ref a1), .val (.ref a2), .val (.int p3), .val (.ref aC), .val (.ref a1), .unset, .unset, .unset, .unset] [(.ref a1)])
  refine w_arraylength S3 f6 rfl (hb hby d_prog_16_method_3_code_11) rfl (z := (4 : Int32)) rfl ?_
  show WGo _ _ _ _ _ _ _ _ T1 (mkF m 12 #[.val (.ref a1), .val (.ref a2), .val (.int p3), .val (.ref aC), .val (.ref a1), .unset, .unset, .unset, .unset] [(.int (4 : Int32))])
  refine WGo.st (fun _ q => XS.istore S3.here hx rfl (hb hby d_prog_16_method_3_code_12) rfl (l' := #[.val (.ref a1), .val (.ref a2), .val (.int p3), .val (.ref aC), .val (.ref a1), .val (.int (4 : Int32)), .unset, .unset, .unset]) rfl q) ?_
  show WGo _ _ _ _ _ _ _ _ T1 (mkF m 14 #[.val (.ref a1), .val (.ref a2), .val (.int p3), .val (.ref aC), .val (.ref a1), .val (.int (4 : Int32)), .unset, .unset, .unset] [])
  refine WGo.st (fun _ q => XS.iconst S3.here hx rfl (hb hby d_prog_16_method_3_code_14) q) ?_
  show WGo _ _ _ _ _ _ _ _ T1 (mkF m 15 #[.val (.ref a1), .val (.ref a2), .val (.int p3), .val (.ref aC), .val (.ref a1), .val (.int (4 : Int32)), .unset, .unset, .unset] [(.int (0 : Int32))])
  refine WGo.st (fun _ q => XS.istore S3.here hx rfl (hb hby d_prog_16_method_3_code_15) rfl (l' := #[.val (.ref a1), .val (.ref a2), .val (.int p3), .val (.ref aC), .val (.ref a1), .val (.int (4 : Int32)), .val (.int (0 : Int32)), .unset, .unset]) rfl q) ?_
  show WGo _ _ _ _ _ _ _ _ T1 (mkF m 17 #[.val (.ref a1), .val (.ref a2), .val (.int p3), .val (.ref aC), .val (.ref a1), .val (.int (4 : Int32)), .val (.int (0 : Int32)), .unset, .unset] [])
  refine WGo.st (fun _ q => XS.iload S3.here hx rfl (hb hby d_prog_16_method_3_code_17) rfl q) ?_
  show WGo _ _ _ _ _ _ _ _ T1 (mkF m 19 #[.val (.ref a1), .val (.ref a2), .val (.int p3), .val (.ref aC), .val (.ref a1), .val (.int (4 : Int32)), .val (.int (0 : Int32)), .unset, .unset] [(.int (0 : Int32))])
  refine WGo.st (fun _ q => XS.iload S3.here hx rfl (hb hby d_prog_16_method_3_code_19) rfl q) ?_
  show WGo _ _ _ _ _ _ _ _ T1 (mkF m 21 #[.val (.ref a1), .val (.ref a2), .val (.int p3), .val (.ref aC), .val (.ref a1), .val (.int (4 : Int32)), .val (.int (0 : Int32)), .unset, .unset] [(.int (4 : Int32)), (.int (0 : Int32))])
  refine WGo.st (fun _ q => XS.icmpNo S3.here hx rfl (hb hby d_prog_16_method_3_code_21) rfl (tlt (by decide : ((0 : Int32) < (4 : Int32)))).2.1 q) ?_
  show WGo _ _ _ _ _ _ _ _ T1 (mkF m 24 #[.val (.ref a1), .val (.ref a2), .val (.int p3), .val (.ref aC), .val (.ref a1), .val (.int (4 : Int32)), .val (.int (0 : Int32)), .unset, .unset] [])
  refine WGo.st (fun _ q => XS.aload S3.here hx rfl (hb hby d_prog_16_method_3_code_24) rfl rfl q) ?_
  show WGo _ _ _ _ _ _ _ _ T1 (mkF m 26 #[.val (.ref a1), .val (.ref a2), .val (.int p3), .val (.ref aC), .val (.ref a1), .val (.int (4 : Int32)), .val (.int (0 : Int32)), .unset, .unset] [(.ref a1)])
  refine WGo.st (fun _ q => XS.iload S3.here hx rfl (hb hby d_prog_16_method_3_code_26) rfl q) ?_
  show WGo _ _ _ _ _ _ _ _ T1 (mkF m 28 #[.val (.ref a1), .val (.ref a2), .val (.int p3), .val (.ref aC), .val (.ref a1), .val (.int (4 : Int32)), .val (.int (0 : Int32)), .unset, .unset] [(.int (0 : Int32)), (.ref a1)])
  refine w_iaload S3 f6 rfl (hb hby d_prog_16_method_3_code_28) rfl (by decide) (by decide : (0 : Int32).toInt < ((4 : Nat) : Int)) rfl ?_
  show WGo _ _ _ _ _ _ _ _ T1 (mkF m 29 #[.val (.ref a1), .val (.ref a2), .val (.int p3), .val (.ref aC), .val (.ref a1), .val (.int (4 : Int32)), .val (.int (0 : Int32)), .unset, .unset] [(.int i0)])
  refine WGo.st (fun _ q => XS.istore S3.here hx rfl (hb hby d_prog_16_method_3_code_29) rfl (l' := #[.val (.ref a1), .val (.ref a2), .val (.int p3), .val (.ref aC), .val (.ref a1), .val (.int (4 : Int32)), .val (.int (0 : Int32)), .val (.int i0), .unset]) rfl q) ?_
  show WGo _ _ _ _ _ _ _ _ T1 (mkF m 31 #[.val (.ref a1), .val (.ref a2), .val (.int p3), .val (.ref aC), .val (.ref a1), .val (.int (4 : Int32)), .val (.int (0 : Int32)), .val (.int i0), .unset] [])
  refine WGo.st (fun _ q => XS.aloadN S3.here hx rfl (hb hby d_prog_16_method_3_code_31) rfl rfl q) ?_
  show WGo _ _ _ _ _ _ _ _ T1 (mkF m 32 #[.val (.ref a1), .val (.ref a2), .val (.int p3), .val (.ref aC), .val (.ref a1), .val (.int (4 : Int32)), .val (.int (0 : Int32)), .val (.int i0), .unset] [(.ref aC)])
  refine WGo.st (fun _ q => XS.aloadN S3.here hx rfl (hb hby d_prog_16_method_3_code_32) rfl rfl q) ?_
  show WGo _ _ _ _ _ _ _ _ T1 (mkF m 33 #[.val (.ref a1), .val (.ref a2), .val (.int p3), .val (.ref aC), .val (.ref a1), .val (.int (4 : Int32)), .val (.int (0 : Int32)), .val (.int i0), .unset] [(.ref a2), (.ref aC)])
  refine WGo.st (fun _ q => XS.iload S3.here hx rfl (hb hby d_prog_16_method_3_code_33) rfl q) ?_
  show WGo _ _ _ _ _ _ _ _ T1 (mkF m 35 #[.val (.ref a1), .val (.ref a2), .val (.int p3), .val (.ref aC), .val (.ref a1), .val (.int (4 : Int32)), .val (.int (0 : Int32)), .val (.int i0), .unset] [(.int i0), (.ref a2), (.ref aC)])
  refine w_iaload S3 f7 rfl (hb hby d_prog_16_method_3_code_35) rfl hi0.1 (by rw [hlK]; exact hi0.2) hg0 ?_
  show WGo _ _ _ _ _ _ _ _ T1 (mkF m 36 #[.val (.ref a1), .val (.ref a2), .val (.int p3), .val (.ref aC), .val (.ref a1), .val (.int (4 : Int32)), .val (.int (0 : Int32)), .val (.int i0), .unset] [(.int k0), (.ref aC)])
  refine WGo.st (fun _ q => XS.iconst S3.here hx rfl (hb hby d_prog_16_method_3_code_36) q) ?_
  show WGo _ _ _ _ _ _ _ _ T1 (mkF m 37 #[.val (.ref a1), .val (.ref a2), .val (.int p3), .val (.ref aC), .val (.ref a1), .val (.int (4 : Int32)), .val (.int (0 : Int32)), .val (.int i0), .unset] [(.int (1 : Int32)), (.int k0), (.ref aC)])
  refine WGo.st (fun _ q => XS.iadd S3.here hx rfl (hb hby d_prog_16_method_3_code_37) rfl q) ?_
  show WGo _ _ _ _ _ _ _ _ T1 (mkF m 38 #[.val (.ref a1), .val (.ref a2), .val (.int p3), .val (.ref aC), .val (.ref a1), .val (.int (4 : Int32)), .val (.int (0 : Int32)), .val (.int i0), .unset] [(.int (k0 + (1 : Int32))), (.ref aC)])
  have qk0 : (k0 + (1 : Int32)).toInt = k0.toInt + 1 := add_c (by decide) (by omega) (by omega)
  refine WGo.st (fun _ q => Jvm.Free.XT.dup2 S3.here hx rfl (hb hby d_prog_16_method_3_code_38) rfl rfl rfl q) ?_
  show WGo _ _ _ _ _ _ _ _ T1 (mkF m 39 #[.val (.ref a1), .val (.ref a2), .val (.int p3), .val (.ref aC), .val (.ref a1), .val (.int (4 : Int32)), .val (.int (0 : Int32)), .val (.int i0), .unset] [(.int (k0 + (1 : Int32))), (.ref aC), (.int (k0 + (1 : Int32))), (.ref aC)])
  refine w_iaload S3 A_aC rfl (hb hby d_prog_16_method_3_code_39) rfl (by omega) (by omega) rfl ?_
  show WGo _ _ _ _ _ _ _ _ T1 (mkF m 40 #[.val (.ref a1), .val (.ref a2), .val (.int p3), .val (.ref aC), .val (.ref a1), .val (.int (4 : Int32)), .val (.int (0 : Int32)), .val (.int i0), .unset] [(.int (gi C0 (k0 + (1 : Int32)))), (.int (k0 + (1 : Int32))), (.ref aC)])
  refine WGo.st (fun _ q => XS.iconst S3.here hx rfl (hb hby d_prog_16_method_3_code_40) q) ?_
  show WGo _ _ _ _ _ _ _ _ T1 (mkF m 41 #[.val (.ref a1), .val (.ref a2), .val (.int p3), .val (.ref aC), .val (.ref a1), .val (.int (4 : Int32)), .val (.int (0 : Int32)), .val (.int i0), .unset] [(.int (1 : Int32)), (.int (gi C0 (k0 + (1 : Int32)))), (.int (k0 + (1 : Int32))), (.ref aC)])
  refine WGo.st (fun _ q => XS.iadd S3.here hx rfl (hb hby d_prog_16_method_3_code_41) rfl q) ?_
  show WGo _ _ _ _ _ _ _ _ T1 (mkF m 42 #[.val (.ref a1), .val (.ref a2), .val (.int p3), .val (.ref aC), .val (.ref a1), .val (.int (4 : Int32)), .val (.int (0 : Int32)), .val (.int i0), .unset] [(.int ((gi C0 (k0 + (1 : Int32))) + (1 : Int32))), (.int (k0 + (1 : Int32))), (.ref aC)])
  refine w_iastore S3 A_aC g_aC rfl (hb hby d_prog_16_method_3_code_42) rfl (by omega) (by omega) (L' := (si C0 (k0 + (1 : Int32)) ((gi C0 (k0 + (1 : Int32))) + (1 : Int32)))) rfl ?_
  intro T8 h9 S10 K11 A12
  have P13 := Keep.trans P5 K11 (allS (Or.inr N_aC) all0)
  have f14 := AI.keep f6 K11 (ninS n_a1_aC nin0)
  have f15 := AI.keep f7 K11 (ninS n_a2_aC nin0)
  show WGo _ _ _ _ _ _ _ _ T8 (mkF m 43 #[.val (.ref a1), .val (.ref a2), .val (.int p3), .val (.ref aC), .val (.ref a1), .val (.int (4 : Int32)), .val (.int (0 : Int32)), .val (.int i0), .unset] [])
  obtain ⟨C1, eC1⟩ : ∃ C, C = (si C0 (k0 + (1 : Int32)) ((gi C0 (k0 + (1 : Int32))) + (1 : Int32))) := ⟨_, rfl⟩
  rw [← eC1] at A12
  have hl1 : (C1.length : Int) = p3.toInt + 1 := by rw [eC1, si_len]; exact hl0
  have hv1 : ∀ y : Int32, 0 ≤ y.toInt → gi C1 y = gi C0 y + ind (k0 + (1 : Int32) = y) := fun y hy => by rw [eC1]; exact cnt_step (by omega) (by omega) y hy
  refine WGo.st (fun _ q => XS.iinc S10.here hx rfl (hb hby d_prog_16_method_3_code_43) rfl (l' := #[.val (.ref a1), .val (.ref a2), .val (.int p3), .val (.ref aC), .val (.ref a1), .val (.int (4 : Int32)), .val (.int (1 : Int32)), .val (.int i0), .unset]) rfl q) ?_
  show WGo _ _ _ _ _ _ _ _ T8 (mkF m 46 #[.val (.ref a1), .val (.ref a2), .val (.int p3), .val (.ref aC), .val (.ref a1), .val (.int (4 : Int32)), .val (.int (1 : Int32)), .val (.int i0), .unset] [])
  refine WGo.st (fun _ q => XS.goto S10.here hx rfl (pc0 := 46) (pc' := 17) rfl (hb hby d_prog_16_method_3_code_46) (by decide) (by decide) q) ?_
  show WGo _ _ _ _ _ _ _ _ T8 (mkF m 17 #[.val (.ref a1), .val (.ref a2), .val (.int p3), .val (.ref aC), .val (.ref a1), .val (.int (4 : Int32)), .val (.int (1 : Int32)), .val (.int i0), .unset] [])
  refine WGo.st (fun _ q => XS.iload S10.here hx rfl (hb hby d_prog_16_method_3_code_17) rfl q) ?_
  show WGo _ _ _ _ _ _ _ _ T8 (mkF m 19 #[.val (.ref a1), .val (.ref a2), .val (.int p3), .val (.ref aC), .val (.ref a1), .val (.int (4 : Int32)), .val (.int (1 : Int32)), .val (.int i0), .unset] [(.int (1 : Int32))])
  refine WGo.st (fun _ q => XS.iload S10.here hx rfl (hb hby d_prog_16_method_3_code_19) rfl q) ?_
  show WGo _ _ _ _ _ _ _ _ T8 (mkF m 21 #[.val (.ref a1), .val (.ref a2), .val (.int p3), .val (.ref aC), .val (.ref a1), .val (.int (4 : Int32)), .val (.int (1 : Int32)), .val (.int i0), .unset] [(.int (4 : Int32)), (.int (1 : Int32))])
  refine WGo.st (fun _ q => XS.icmpNo S10.here hx rfl (hb hby d_prog_16_method_3_code_21) rfl (tlt (by decide : ((1 : Int32) < (4 : Int32)))).2.1 q) ?_
  show WGo _ _ _ _ _ _ _ _ T8 (mkF m 24 #[.val (.ref a1), .val (.ref a2), .val (.int p3), .val (.ref aC), .val (.ref a1), .val (.int (4 : Int32)), .val (.int (1 : Int32)), .val (.int i0), .unset] [])
  refine WGo.st (fun _ q => XS.aload S10.here hx rfl (hb hby d_prog_16_method_3_code_24) rfl rfl q) ?_
  show WGo _ _ _ _ _ _ _ _ T8 (mkF m 26 #[.val (.ref a1), .val (.ref a2), .val (.int p3), .val (.ref aC), .val (.ref a1), .val (.int (4 : Int32)), .val (.int (1 : Int32)), .val (.int i0), .unset] [(.ref a1)])
  refine WGo.st (fun _ q => XS.iload S10.here hx rfl (hb hby d_prog_16_method_3_code_26) rfl q) ?_
  show WGo _ _ _ _ _ _ _ _ T8 (mkF m 28 #[.val (.ref a1), .val (.ref a2), .val (.int p3), .val (.ref aC), .val (.ref a1), .val (.int (4 : Int32)), .val (.int (1 : Int32)), .val (.int i0), .unset] [(.int (1 : Int32)), (.ref a1)])
  refine w_iaload S10 f14 rfl (hb hby d_prog_16_method_3_code_28) rfl (by decide) (by decide : (1 : Int32).toInt < ((4 : Nat) : Int)) rfl ?_
  show WGo _ _ _ _ _ _ _ _ T8 (mkF m 29 #[.val (.ref a1), .val (.ref a2), .val (.int p3), .val (.ref aC), .val (.ref a1), .val (.int (4 : Int32)), .val (.int (1 : Int32)), .val (.int i0), .unset] [(.int i1)])
  refine WGo.st (fun _ q => XS.istore S10.here hx rfl (hb hby d_prog_16_method_3_code_29) rfl (l' := #[.val (.ref a1), .val (.ref a2), .val (.int p3), .val (.ref aC), .val (.ref a1), .val (.int (4 : Int32)), .val (.int (1 : Int32)), .val (.int i1), .unset]) rfl q) ?_
  show WGo _ _ _ _ _ _ _ _ T8 (mkF m 31 #[.val (.ref a1), .val (.ref a2), .val (.int p3), .val (.ref aC), .val (.ref a1), .val (.int (4 : Int32)), .val (.int (1 : Int32)), .val (.int i1), .unset] [])
  refine WGo.st (fun _ q => XS.aloadN S10.here hx rfl (hb hby d_prog_16_method_3_code_31) rfl rfl q) ?_
  show WGo _ _ _ _ _ _ _ _ T8 (mkF m 32 #[.val (.ref a1), .val (.ref a2), .val (.int p3), .val (.ref aC), .val (.ref a1), .val (.int (4 : Int32)), .val (.int (1 : Int32)), .val (.int i1), .unset] [(.ref aC)])
  refine WGo.st (fun _ q => XS.aloadN S10.here hx rfl (hb hby d_prog_16_method_3_code_32) rfl rfl q) ?_
  show WGo _ _ _ _ _ _ _ _ T8 (mkF m 33 #[.val (.ref a1), .val (.ref a2), .val (.int p3), .val (.ref aC), .val (.ref a1), .val (.int (4 : Int32)), .val (.int (1 : Int32)), .val (.int i1), .unset] [(.ref a2), (.ref aC)])
  refine WGo.st (fun _ q => XS.iload S10.here hx rfl (hb hby d_prog_16_method_3_code_33) rfl q) ?_
  show WGo _ _ _ _ _ _ _ _ T8 (mkF m 35 #[.val (.ref a1), .val (.ref a2), .val (.int p3), .val (.ref aC), .val (.ref a1), .val (.int (4 : Int32)), .val (.int (1 : Int32)), .val (.int i1), .unset] [(.int i1), (.ref a2), (.ref aC)])
  refine w_iaload S10 f15 rfl (hb hby d_prog_16_method_3_code_35) rfl hi1.1 (by rw [hlK]; exact hi1.2) hg1 ?_
  show WGo _ _ _ _ _ _ _ _ T8 (mkF m 36 #[.val (.ref a1), .val (.ref a2), .val (.int p3), .val (.ref aC), .val (.ref a1), .val (.int (4 : Int32)), .val (.int (1 : Int32)), .val (.int i1), .unset] [(.int k1), (.ref aC)])
  refine WGo.st (fun _ q => XS.iconst S10.here hx rfl (hb hby d_prog_16_method_3_code_36) q) ?_
  show WGo _ _ _ _ _ _ _ _ T8 (mkF m 37 #[.val (.ref a1), .val (.ref a2), .val (.int p3), .val (.ref aC), .val (.ref a1), .val (.int (4 : Int32)), .val (.int (1 : Int32)), .val (.int i1), .unset] [(.int (1 : Int32)), (.int k1), (.ref aC)])
  refine WGo.st (fun _ q => XS.iadd S10.here hx rfl (hb hby d_prog_16_method_3_code_37) rfl q) ?_
  show WGo _ _ _ _ _ _ _ _ T8 (mkF m 38 #[.val (.ref a1), .val (.ref a2), .val (.int p3), .val (.ref aC), .val (.ref a1), .val (.int (4 : Int32)), .val (.int (1 : Int32)), .val (.int i1), .unset] [(.int (k1 + (1 : Int32))), (.ref aC)])
  have qk1 : (k1 + (1 : Int32)).toInt = k1.toInt + 1 := add_c (by decide) (by omega) (by omega)
  refine WGo.st (fun _ q => Jvm.Free.XT.dup2 S10.here hx rfl (hb hby d_prog_16_method_3_code_38) rfl rfl rfl q) ?_
  show WGo _ _ _ _ _ _ _ _ T8 (mkF m 39 #[.val (.ref a1), .val (.ref a2), .val (.int p3), .val (.ref aC), .val (.ref a1), .val (.int (4 : Int32)), .val (.int (1 : Int32)), .val (.int i1), .unset] [(.int (k1 + (1 : Int32))), (.ref aC), (.int (k1 + (1 : Int32))), (.ref aC)])
  refine w_iaload S10 A12 rfl (hb hby d_prog_16_method_3_code_39) rfl (by omega) (by omega) rfl ?_
  show WGo _ _ _ _ _ _ _ _ T8 (mkF m 40 #[.val (.ref a1), .val (.ref a2), .val (.int p3), .val (.ref aC), .val (.ref a1), .val (.int (4 : Int32)), .val (.int (1 : Int32)), .val (.int i1), .unset] [(.int (gi C1 (k1 + (1 : Int32)))), (.int (k1 + (1 : Int32))), (.ref aC)])
  refine WGo.st (fun _ q => XS.iconst S10.here hx rfl (hb hby d_prog_16_method_3_code_40) q) ?_
  show WGo _ _ _ _ _ _ _ _ T8 (mkF m 41 #[.val (.ref a1), .val (.ref a2), .val (.int p3), .val (.ref aC), .val (.ref a1), .val (.int (4 : Int32)), .val (.int (1 : Int32)), .val (.int i1), .unset] [(.int (1 : Int32)), (.int (gi C1 (k1 + (1 : Int32)))), (.int (k1 + (1 : Int32))), (.ref aC)])
  refine WGo.st (fun _ q => XS.iadd S10.here hx rfl (hb hby d_prog_16_method_3_code_41) rfl q) ?_
  show WGo _ _ _ _ _ _ _ _ T8 (mkF m 42 #[.val (.ref a1), .val (.ref a2), .val (.int p3), .val (.ref aC), .val (.ref a1), .val (.int (4 : Int32)), .val (.int (1 : Int32)), .val (.int i1), .unset] [(.int ((gi C1 (k1 + (1 : Int32))) + (1 : Int32))), (.int (k1 + (1 : Int32))), (.ref aC)])
  refine w_iastore S10 A12 g_aC rfl (hb hby d_prog_16_method_3_code_42) rfl (by omega) (by omega) (L' := (si C1 (k1 + (1 : Int32)) ((gi C1 (k1 + (1 : Int32))) + (1 : Int32)))) rfl ?_
  intro T16 h17 S18 K19 A20
  have P21 := Keep.trans P13 K19 (allS (Or.inr N_aC) all0)
  have f22 := AI.keep f14 K19 (ninS n_a1_aC nin0)
  have f23 := AI.keep f15 K19 (ninS n_a2_aC nin0)
  show WGo _ _ _ _ _ _ _ _ T16 (mkF m 43 #[.val (.ref a1), .val (.ref a2), .val (.int p3), .val (.ref aC), .val (.ref a1), .val (.int (4 : Int32)), .val (.int (1 : Int32)), .val (.int i1), .unset] [])
  obtain ⟨C2, eC2⟩ : ∃ C, C = (si C1 (k1 + (1 : Int32)) ((gi C1 (k1 + (1 : Int32))) + (1 : Int32))) := ⟨_, rfl⟩
  rw [← eC2] at A20
  have hl2 : (C2.length : Int) = p3.toInt + 1 := by rw [eC2, si_len]; exact hl1
  have hv2 : ∀ y : Int32, 0 ≤ y.toInt → gi C2 y = gi C1 y + ind (k1 + (1 : Int32) = y) := fun y hy => by rw [eC2]; exact cnt_step (by omega) (by omega) y hy
  refine WGo.st (fun _ q => XS.iinc S18.here hx rfl (hb hby d_prog_16_method_3_code_43) rfl (l' := #[.val (.ref a1), .val (.ref a2), .val (.int p3), .val (.ref aC), .val (.ref a1), .val (.int (4 : Int32)), .val (.int (2 : Int32)), .val (.int i1), .unset]) rfl q) ?_
  show WGo _ _ _ _ _ _ _ _ T16 (mkF m 46 #[.val (.ref a1), .val (.ref a2), .val (.int p3), .val (.ref aC), .val (.ref a1), .val (.int (4 : Int32)), .val (.int (2 : Int32)), .val (.int i1), .unset] [])
  refine WGo.st (fun _ q => XS.goto S18.here hx rfl (pc0 := 46) (pc' := 17) rfl (hb hby d_prog_16_method_3_code_46) (by decide) (by decide) q) ?_
  show WGo _ _ _ _ _ _ _ _ T16 (mkF m 17 #[.val (.ref a1), .val (.ref a2), .val (.int p3), .val (.ref aC), .val (.ref a1), .val (.int (4 : Int32)), .val (.int (2 : Int32)), .val (.int i1), .unset] [])
  refine WGo.st (fun _ q => XS.iload S18.here hx rfl (hb hby d_prog_16_method_3_code_17) rfl q) ?_
  show WGo _ _ _ _ _ _ _ _ T16 (mkF m 19 #[.val (.ref a1), .val (.ref a2), .val (.int p3), .val (.ref aC), .val (.ref a1), .val (.int (4 : Int32)), .val (.int (2 : Int32)), .val (.int i1), .unset] [(.int (2 : Int32))])
  refine WGo.st (fun _ q => XS.iload S18.here hx rfl (hb hby d_prog_16_method_3_code_19) rfl q) ?_
  show WGo _ _ _ _ _ _ _ _ T16 (mkF m 21 #[.val (.ref a1), .val (.ref a2), .val (.int p3), .val (.ref aC), .val (.ref a1), .val (.int (4 : Int32)), .val (.int (2 : Int32)), .val (.int i1), .unset] [(.int (4 : Int32)), (.int (2 : Int32))])
  refine WGo.st (fun _ q => XS.icmpNo S18.here hx rfl (hb hby d_prog_16_method_3_code_21) rfl (tlt (by decide : ((2 : Int32) < (4 : Int32)))).2.1 q) ?_
  show WGo _ _ _ _ _ _ _ _ T16 (mkF m 24 #[.val (.ref a1), .val (.ref a2), .val (.int p3), .val (.ref aC), .val (.ref a1), .val (.int (4 : Int32)), .val (.int (2 : Int32)), .val (.int i1), .unset] [])
  refine WGo.st (fun _ q => XS.aload S18.here hx rfl (hb hby d_prog_16_method_3_code_24) rfl rfl q) ?_
  show WGo _ _ _ _ _ _ _ _ T16 (mkF m 26 #[.val (.ref a1), .val (.ref a2), .val (.int p3), .val (.ref aC), .val (.ref a1), .val (.int (4 : Int32)), .val (.int (2 : Int32)), .val (.int i1), .unset] [(.ref a1)])
  refine WGo.st (fun _ q => XS.iload S18.here hx rfl (hb hby d_prog_16_method_3_code_26) rfl q) ?_
  show WGo _ _ _ _ _ _ _ _ T16 (mkF m 28 #[.val (.ref a1), .val (.ref a2), .val (.int p3), .val (.ref aC), .val (.ref a1), .val (.int (4 : Int32)), .val (.int (2 : Int32)), .val (.int i1), .unset] [(.int (2 : Int32)), (.ref a1)])
  refine w_iaload S18 f22 rfl (hb hby d_prog_16_method_3_code_28) rfl (by decide) (by decide : (2 : Int32).toInt < ((4 : Nat) : Int)) rfl ?_
  show WGo _ _ _ _ _ _ _ _ T16 (mkF m 29 #[.val (.ref a1), .val (.ref a2), .val (.int p3), .val (.ref aC), .val (.ref a1), .val (.int (4 : Int32)), .val (.int (2 : Int32)), .val (.int i1), .unset] [(.int i2)])
  refine WGo.st (fun _ q => XS.istore S18.here hx rfl (hb hby d_prog_16_method_3_code_29) rfl (l' := #[.val (.ref a1), .val (.ref a2), .val (.int p3), .val (.ref aC), .val (.ref a1), .val (.int (4 : Int32)), .val (.int (2 : Int32)), .val (.int i2), .unset]) rfl q) ?_
  show WGo _ _ _ _ _ _ _ _ T16 (mkF m 31 #[.val (.ref a1), .val (.ref a2), .val (.int p3), .val (.ref aC), .val (.ref a1), .val (.int (4 : Int32)), .val (.int (2 : Int32)), .val (.int i2), .unset] [])
  refine WGo.st (fun _ q => XS.aloadN S18.here hx rfl (hb hby d_prog_16_method_3_code_31) rfl rfl q) ?_
  show WGo _ _ _ _ _ _ _ _ T16 (mkF m 32 #[.val (.ref a1), .val (.ref a2), .val (.int p3), .val (.ref aC), .val (.ref a1), .val (.int (4 : Int32)), .val (.int (2 : Int32)), .val (.int i2), .unset] [(.ref aC)])
  refine WGo.st (fun _ q => XS.aloadN S18.here hx rfl (hb hby d_prog_16_method_3_code_32) rfl rfl q) ?_
  show WGo _ _ _ _ _ _ _ _ T16 (mkF m 33 #[.val (.ref a1), .val (.ref a2), .val (.int p3), .val (.ref aC), .val (.ref a1), .val (.int (4 : Int32)), .val (.int (2 : Int32)), .val (.int i2), .unset] [(.ref a2), (.ref aC)])
  refine WGo.st (fun _ q => XS.iload S18.here hx rfl (hb hby d_prog_16_method_3_code_33) rfl q) ?_
  show WGo _ _ _ _ _ _ _ _ T16 (mkF m 35 #[.val (.ref a1), .val (.ref a2), .val (.int p3), .val (.ref aC), .val (.ref a1), .val (.int (4 : Int32)), .val (.int (2 : Int32)), .val (.int i2), .unset] [(.int i2), (.ref a2), (.ref aC)])
  refine w_iaload S18 f23 rfl (hb hby d_prog_16_method_3_code_35) rfl hi2.1 (by rw [hlK]; exact hi2.2) hg2 ?_
  show WGo _ _ _ _ _ _ _ _ T16 (mkF m 36 #[.val (.ref a1), .val (.ref a2), .val (.int p3), .val (.ref aC), .val (.ref a1), .val (.int (4 : Int32)), .val (.int (2 : Int32)), .val (.int i2), .unset] [(.int k2), (.ref aC)])
  refine WGo.st (fun _ q => XS.iconst S18.here hx rfl (hb hby d_prog_16_method_3_code_36) q) ?_
  show WGo _ _ _ _ _ _ _ _ T16 (mkF m 37 #[.val (.ref a1), .val (.ref a2), .val (.int p3), .val (.ref aC), .val (.ref a1), .val (.int (4 : Int32)), .val (.int (2 : Int32)), .val (.int i2), .unset] [(.int (1 : Int32)), (.int k2), (.ref aC)])
  refine WGo.st (fun _ q => XS.iadd S18.here hx rfl (hb hby d_prog_16_method_3_code_37) rfl q) ?_
  show WGo _ _ _ _ _ _ _ _ T16 (mkF m 38 #[.val (.ref a1), .val (.ref a2), .val (.int p3), .val (.ref aC), .val (.ref a1), .val (.int (4 : Int32)), .val (.int (2 : Int32)), .val (.int i2), .unset] [(.int (k2 + (1 : Int32))), (.ref aC)])
  have qk2 : (k2 + (1 : Int32)).toInt = k2.toInt + 1 := add_c (by decide) (by omega) (by omega)
  refine WGo.st (fun _ q => Jvm.Free.XT.dup2 S18.here hx rfl (hb hby d_prog_16_method_3_code_38) rfl rfl rfl q) ?_
  show WGo _ _ _ _ _ _ _ _ T16 (mkF m 39 #[.val (.ref a1), .val (.ref a2), .val (.int p3), .val (.ref aC), .val (.ref a1), .val (.int (4 : Int32)), .val (.int (2 : Int32)), .val (.int i2), .unset] [(.int (k2 + (1 : Int32))), (.ref aC), (.int (k2 + (1 : Int32))), (.ref aC)])
  refine w_iaload S18 A20 rfl (hb hby d_prog_16_method_3_code_39) rfl (by omega) (by omega) rfl ?_
  show WGo _ _ _ _ _ _ _ _ T16 (mkF m 40 #[.val (.ref a1), .val (.ref a2), .val (.int p3), .val (.ref aC), .val (.ref a1), .val (.int (4 : Int32)), .val (.int (2 : Int32)), .val (.int i2), .unset] [(.int (gi C2 (k2 + (1 : Int32)))), (.int (k2 + (1 : Int32))), (.ref aC)])
  refine WGo.st (fun _ q => XS.iconst S18.here hx rfl (hb hby d_prog_16_method_3_code_40) q) ?_
  show WGo _ _ _ _ _ _ _ _ T16 (mkF m 41 #[.val (.ref a1), .val (.ref a2), .val (.int p3), .val (.ref aC), .val (.ref a1), .val (.int (4 : Int32)), .val (.int (2 : Int32)), .val (.int i2), .unset] [(.int (1 : Int32)), (.int (gi C2 (k2 + (1 : Int32)))), (.int (k2 + (1 : Int32))), (.ref aC)])
  refine WGo.st (fun _ q => XS.iadd S18.here hx rfl (hb hby d_prog_16_method_3_code_41) rfl q) ?_
  show WGo _ _ _ _ _ _ _ _ T16 (mkF m 42 #[.val (.ref a1), .val (.ref a2), .val (.int p3), .val (.ref aC), .val (.ref a1), .val (.int (4 : Int32)), .val (.int (2 : Int32)), .val (.int i2), .unset] [(.int ((gi C2 (k2 + (1 : Int32))) + (1 : Int32))), (.int (k2 + (1 : Int32))), (.ref aC)])
  refine w_iastore S18 A20 g_aC rfl (hb hby d_prog_16_method_3_code_42) rfl (by omega) (by omega) (L' := (si C2 (k2 + (1 : Int32)) ((gi C2 (k2 + (1 : Int32))) + (1 : Int32)))) rfl ?_
  intro T24 h25 S26 K27 A28
  have P29 := Keep.trans P21 K27 (allS (Or.inr N_aC) all0)
  have f30 := AI.keep f22 K27 (ninS n_a1_aC nin0)
  have f31 := AI.keep f23 K27 (ninS n_a2_aC nin0)
  show WGo _ _ _ _ _ _ _ _ T24 (mkF m 43 #[.val (.ref a1), .val (.ref a2), .val (.int p3), .val (.ref aC), .val (.ref a1), .val (.int (4 : Int32)), .val (.int (2 : Int32)), .val (.int i2), .unset] [])
  obtain ⟨C3, eC3⟩ : ∃ C, C = (si C2 (k2 + (1 : Int32)) ((gi C2 (k2 + (1 : Int32))) + (1 : Int32))) := ⟨_, rfl⟩
  rw [← eC3] at A28
  have hl3 : (C3.length : Int) = p3.toInt + 1 := by rw [eC3, si_len]; exact hl2
  have hv3 : ∀ y : Int32, 0 ≤ y.toInt → gi C3 y = gi C2 y + ind (k2 + (1 : Int32) = y) := fun y hy => by rw [eC3]; exact cnt_step (by omega) (by omega) y hy
  refine WGo.st (fun _ q => XS.iinc S26.here hx rfl (hb hby d_prog_16_method_3_code_43) rfl (l' := #[.val (.ref a1), .val (.ref a2), .val (.int p3), .val (.ref aC), .val (.ref a1), .val (.int (4 : Int32)), .val (.int (3 : Int32)), .val (.int i2), .unset]) rfl q) ?_
  show WGo _ _ _ _ _ _ _ _ T24 (mkF m 46 #[.val (.ref a1), .val (.ref a2), .val (.int p3), .val (.ref aC), .val (.ref a1), .val (.int (4 : Int32)), .val (.int (3 : Int32)), .val (.int i2), .unset] [])
  refine WGo.st (fun _ q => XS.goto S26.here hx rfl (pc0 := 46) (pc' := 17) rfl (hb hby d_prog_16_method_3_code_46) (by decide) (by decide) q) ?_
  show WGo _ _ _ _ _ _ _ _ T24 (mkF m 17 #[.val (.ref a1), .val (.ref a2), .val (.int p3), .val (.ref aC), .val (.ref a1), .val (.int (4 : Int32)), .val (.int (3 : Int32)), .val (.int i2), .unset] [])
  refine WGo.st (fun _ q => XS.iload S26.here hx rfl (hb hby d_prog_16_method_3_code_17) rfl q) ?_
  show WGo _ _ _ _ _ _ _ _ T24 (mkF m 19 #[.val (.ref a1), .val (.ref a2), .val (.int p3), .val (.ref aC), .val (.ref a1), .val (.int (4 : Int32)), .val (.int (3 : Int32)), .val (.int i2), .unset] [(.int (3 : Int32))])
  refine WGo.st (fun _ q => XS.iload S26.here hx rfl (hb hby d_prog_16_method_3_code_19) rfl q) ?_
  show WGo _ _ _ _ _ _ _ _ T24 (mkF m 21 #[.val (.ref a1), .val (.ref a2), .val (.int p3), .val (.ref aC), .val (.ref a1), .val (.int (4 : Int32)), .val (.int (3 : Int32)), .val (.int i2), .unset] [(.int (4 : Int32)), (.int (3 : Int32))])
  refine WGo.st (fun _ q => XS.icmpNo S26.here hx rfl (hb hby d_prog_16_method_3_code_21) rfl (tlt (by decide : ((3 : Int32) < (4 : Int32)))).2.1 q) ?_
  show WGo _ _ _ _ _ _ _ _ T24 (mkF m 24 #[.val (.ref a1), .val (.ref a2), .val (.int p3), .val (.ref aC), .val (.ref a1), .val (.int (4 : Int32)), .val (.int (3 : Int32)), .val (.int i2), .unset] [])
  refine WGo.st (fun _ q => XS.aload S26.here hx rfl (hb hby d_prog_16_method_3_code_24) rfl rfl q) ?_
  show WGo _ _ _ _ _ _ _ _ T24 (mkF m 26 #[.val (.ref a1), .val (.ref a2), .val (.int p3), .val (.ref aC), .val (.ref a1), .val (.int (4 : Int32)), .val (.int (3 : Int32)), .val (.int i2), .unset] [(.ref a1)])
  refine WGo.st (fun _ q => XS.iload S26.here hx rfl (hb hby d_prog_16_method_3_code_26) rfl q) ?_
  show WGo _ _ _ _ _ _ _ _ T24 (mkF m 28 #[.val (.ref a1), .val (.ref a2), .val (.int p3), .val (.ref aC), .val (.ref a1), .val (.int (4 : Int32)), .val (.int (3 : Int32)), .val (.int i2), .unset] [(.int (3 : Int32)), (.ref a1)])
  refine w_iaload S26 f30 rfl (hb hby d_prog_16_method_3_code_28) rfl (by decide) (by decide : (3 : Int32).toInt < ((4 : Nat) : Int)) rfl ?_
  show WGo _ _ _ _ _ _ _ _ T24 (mkF m 29 #[.val (.ref a1), .val (.ref a2), .val (.int p3), .val (.ref aC), .val (.ref a1), .val (.int (4 : Int32)), .val (.int (3 : Int32)), .val (.int i2), .unset] [(.int i3)])
  refine WGo.st (fun _ q => XS.istore S26.here hx rfl (hb hby d_prog_16_method_3_code_29) rfl (l' := #[.val (.ref a1), .val (.ref a2), .val (.int p3), .val (.ref aC), .val (.ref a1), .val (.int (4 : Int32)), .val (.int (3 : Int32)), .val (.int i3), .unset]) rfl q) ?_
  show WGo _ _ _ _ _ _ _ _ T24 (mkF m 31 #[.val (.ref a1), .val (.ref a2), .val (.int p3), .val (.ref aC), .val (.ref a1), .val (.int (4 : Int32)), .val (.int (3 : Int32)), .val (.int i3), .unset] [])
  refine WGo.st (fun _ q => XS.aloadN S26.here hx rfl (hb hby d_prog_16_method_3_code_31) rfl rfl q) ?_
  show WGo _ _ _ _ _ _ _ _ T24 (mkF m 32 #[.val (.ref a1), .val (.ref a2), .val (.int p3), .val (.ref aC), .val (.ref a1), .val (.int (4 : Int32)), .val (.int (3 : Int32)), .val (.int i3), .unset] [(.ref aC)])
  refine WGo.st (fun _ q => XS.aloadN S26.here hx rfl (hb hby d_prog_16_method_3_code_32) rfl rfl q) ?_
  show WGo _ _ _ _ _ _ _ _ T24 (mkF m 33 #[.val (.ref a1), .val (.ref a2), .val (.int p3), .val (.ref aC), .val (.ref a1), .val (.int (4 : Int32)), .val (.int (3 : Int32)), .val (.int i3), .unset] [(.ref a2), (.ref aC)])
  refine WGo.st (fun _ q => XS.iload S26.here hx rfl (hb hby d_prog_16_method_3_code_33) rfl q) ?_
  show WGo _ _ _ _ _ _ _ _ T24 (mkF m 35 #[.val (.ref a1), .val (.ref a2), .val (.int p3), .val (.ref aC), .val (.ref a1), .val (.int (4 : Int32)), .val (.int (3 : Int32)), .val (.int i3), .unset] [(.int i3), (.ref a2), (.ref aC)])
  refine w_iaload S26 f31 rfl (hb hby d_prog_16_method_3_code_35) rfl hi3.1 (by rw [hlK]; exact hi3.2) hg3 ?_
  show WGo _ _ _ _ _ _ _ _ T24 (mkF m 36 #[.val (.ref a1), .val (.ref a2), .val (.int p3), .val (.ref aC), .val (.ref a1), .val (.int (4 : Int32)), .val (.int (3 : Int32)), .val (.int i3), .unset] [(.int k3), (.ref aC)])
  refine WGo.st (fun _ q => XS.iconst S26.here hx rfl (hb hby d_prog_16_method_3_code_36) q) ?_
  show WGo _ _ _ _ _ _ _ _ T24 (mkF m 37 #[.val (.ref a1), .val (.ref a2), .val (.int p3), .val (.ref aC), .val (.ref a1), .val (.int (4 : Int32)), .val (.int (3 : Int32)), .val (.int i3), .unset] [(.int (1 : Int32)), (.int k3), (.ref aC)])
  refine WGo.st (fun _ q => XS.iadd S26.here hx rfl (hb hby d_prog_16_method_3_code_37) rfl q) ?_
  show WGo _ _ _ _ _ _ _ _ T24 (mkF m 38 #[.val (.ref a1), .val (.ref a2), .val (.int p3), .val (.ref aC), .val (.ref a1), .val (.int (4 : Int32)), .val (.int (3 : Int32)), .val (.int i3), .unset] [(.int (k3 + (1 : Int32))), (.ref aC)])
  have qk3 : (k3 + (1 : Int32)).toInt = k3.toInt + 1 := add_c (by decide) (by omega) (by omega)
  refine WGo.st (fun _ q => Jvm.Free.XT.dup2 S26.here hx rfl (hb hby d_prog_16_method_3_code_38) rfl rfl rfl q) ?_
  show WGo _ _ _ _ _ _ _ _ T24 (mkF m 39 #[.val (.ref a1), .val (.ref a2), .val (.int p3), .val (.ref aC), .val (.ref a1), .val (.int (4 : Int32)), .val (.int (3 : Int32)), .val (.int i3), .unset] [(.int (k3 + (1 : Int32))), (.ref aC), (.int (k3 + (1 : Int32))), (.ref aC)])
  refine w_iaload S26 A28 rfl (hb hby d_prog_16_method_3_code_39) rfl (by omega) (by omega) rfl ?_
  show WGo _ _ _ _ _ _ _ _ T24 (mkF m 40 #[.val (.ref a1), .val (.ref a2), .val (.int p3), .val (.ref aC), .val (.ref a1), .val (.int (4 : Int32)), .val (.int (3 : Int32)), .val (.int i3), .unset] [(.int (gi C3 (k3 + (1 : Int32)))), (.int (k3 + (1 : Int32))), (.ref aC)])
  refine WGo.st (fun _ q => XS.iconst S26.here hx rfl (hb hby d_prog_16_method_3_code_40) q) ?_
  show WGo _ _ _ _ _ _ _ _ T24 (mkF m 41 #[.val (.ref a1), .val (.ref a2), .val (.int p3), .val (.ref aC), .val (.ref a1), .val (.int (4 : Int32)), .val (.int (3 : Int32)), .val (.int i3), .unset] [(.int (1 : Int32)), (.int (gi C3 (k3 + (1 : Int32)))), (.int (k3 + (1 : Int32))), (.ref aC)])
  refine WGo.st (fun _ q => XS.iadd S26.here hx rfl (hb hby d_prog_16_method_3_code_41) rfl q) ?_
  show WGo _ _ _ _ _ _ _ _ T24 (mkF m 42 #[.val (.ref a1), .val (.ref a2), .val (.int p3), .val (.ref aC), .val (.ref a1), .val (.int (4 : Int32)), .val (.int (3 : Int32)), .val (.int i3), .unset] [(.int ((gi C3 (k3 + (1 : Int32))) + (1 : Int32))), (.int (k3 + (1 : Int32))), (.ref aC)])
  refine w_iastore S26 A28 g_aC rfl (hb hby d_prog_16_method_3_code_42) rfl (by omega) (by omega) (L' := (si C3 (k3 + (1 : Int32)) ((gi C3 (k3 + (1 : Int32))) + (1 : Int32)))) rfl ?_
  intro T32 h33 S34 K35 A36
  have P37 := Keep.trans P29 K35 (allS (Or.inr N_aC) all0)
  have f38 := AI.keep f30 K35 (ninS n_a1_aC nin0)
  have f39 := AI.keep f31 K35 (ninS n_a2_aC nin0)
  show WGo _ _ _ _ _ _ _ _ T32 (mkF m 43 #[.val (.ref a1), .val (.ref a2), .val (.int p3), .val (.ref aC), .val (.ref a1), .val (.int (4 : Int32)), .val (.int (3 : Int32)), .val (.int i3), .unset] [])
  obtain ⟨C4, eC4⟩ : ∃ C, C = (si C3 (k3 + (1 : Int32)) ((gi C3 (k3 + (1 : Int32))) + (1 : Int32))) := ⟨_, rfl⟩
  rw [← eC4] at A36
  have hl4 : (C4.length : Int) = p3.toInt + 1 := by rw [eC4, si_len]; exact hl3
  have hv4 : ∀ y : Int32, 0 ≤ y.toInt → gi C4 y = gi C3 y + ind (k3 + (1 : Int32) = y) := fun y hy => by rw [eC4]; exact cnt_step (by omega) (by omega) y hy
  refine WGo.st (fun _ q => XS.iinc S34.here hx rfl (hb hby d_prog_16_method_3_code_43) rfl (l' := #[.val (.ref a1), .val (.ref a2), .val (.int p3), .val (.ref aC), .val (.ref a1), .val (.int (4 : Int32)), .val (.int (4 : Int32)), .val (.int i3), .unset]) rfl q) ?_
  show WGo _ _ _ _ _ _ _ _ T32 (mkF m 46 #[.val (.ref a1), .val (.ref a2), .val (.int p3), .val (.ref aC), .val (.ref a1), .val (.int (4 : Int32)), .val (.int (4 : Int32)), .val (.int i3), .unset] [])
  refine WGo.st (fun _ q => XS.goto S34.here hx rfl (pc0 := 46) (pc' := 17) rfl (hb hby d_prog_16_method_3_code_46) (by decide) (by decide) q) ?_
  show WGo _ _ _ _ _ _ _ _ T32 (mkF m 17 #[.val (.ref a1), .val (.ref a2), .val (.int p3), .val (.ref aC), .val (.ref a1), .val (.int (4 : Int32)), .val (.int (4 : Int32)), .val (.int i3), .unset] [])
  refine WGo.st (fun _ q => XS.iload S34.here hx rfl (hb hby d_prog_16_method_3_code_17) rfl q) ?_
  show WGo _ _ _ _ _ _ _ _ T32 (mkF m 19 #[.val (.ref a1), .val (.ref a2), .val (.int p3), .val (.ref aC), .val (.ref a1), .val (.int (4 : Int32)), .val (.int (4 : Int32)), .val (.int i3), .unset] [(.int (4 : Int32))])
  refine WGo.st (fun _ q => XS.iload S34.here hx rfl (hb hby d_prog_16_method_3_code_19) rfl q) ?_
  show WGo _ _ _ _ _ _ _ _ T32 (mkF m 21 #[.val (.ref a1), .val (.ref a2), .val (.int p3), .val (.ref aC), .val (.ref a1), .val (.int (4 : Int32)), .val (.int (4 : Int32)), .val (.int i3), .unset] [(.int (4 : Int32)), (.int (4 : Int32))])
  refine WGo.st (fun _ q => XS.icmpYes S34.here hx rfl (pc0 := 21) (pc' := 49) rfl (hb hby d_prog_16_method_3_code_21) rfl (flt (by decide : ¬ ((4 : Int32) < (4 : Int32)))).2.1 (by decide) (by decide) q) ?_
  show WGo _ _ _ _ _ _ _ _ T32 (mkF m 49 #[.val (.ref a1), .val (.ref a2), .val (.int p3), .val (.ref aC), .val (.ref a1), .val (.int (4 : Int32)), .val (.int (4 : Int32)), .val (.int i3), .unset] [])
  refine WGo.st (fun _ q => XS.iconst S34.here hx rfl (hb hby d_prog_16_method_3_code_49) q) ?_
  show WGo _ _ _ _ _ _ _ _ T32 (mkF m 50 #[.val (.ref a1), .val (.ref a2), .val (.int p3), .val (.ref aC), .val (.ref a1), .val (.int (4 : Int32)), .val (.int (4 : Int32)), .val (.int i3), .unset] [(.int (0 : Int32))])
  refine WGo.st (fun _ q => XS.istore S34.here hx rfl (hb hby d_prog_16_method_3_code_50) rfl (l' := #[.val (.ref a1), .val (.ref a2), .val (.int p3), .val (.ref aC), .val (.int (0 : Int32)), .val (.int (4 : Int32)), .val (.int (4 : Int32)), .val (.int i3), .unset]) rfl q) ?_
  show WGo _ _ _ _ _ _ _ _ T32 (mkF m 52 #[.val (.ref a1), .val (.ref a2), .val (.int p3), .val (.ref aC), .val (.int (0 : Int32)), .val (.int (4 : Int32)), .val (.int (4 : Int32)), .val (.int i3), .unset] [])
  have loop : ∀ (n : Nat) (Tz : State) (hz : Heap) (i : Int32) (Cz : List Int32), WSt p l e ({ frames := 0, cells := 2, slots := 13, locals := 0 } : Room) s m #[(.ref a1), (.ref a2), (.int p3)] below meth c Z n0 Tz hz (1) (9) → Keep h0 hz [] → AI Z hz a1 .int [i0, i1, i2, i3] → AI Z hz a2 .int LK → AI Z hz aC .int Cz → (Cz.length : Int) = p3.toInt + 1 → (∀ y : Int32, 0 ≤ y.toInt → y.toInt ≤ i.toInt → gi Cz y = cuF k0 k1 k2 k3 y) → (∀ y : Int32, i.toInt < y.toInt → y.toInt ≤ p3.toInt → gi Cz y = c1F k0 k1 k2 k3 y) → 0 ≤ i.toInt → i.toInt ≤ p3.toInt → (p3.toInt - i.toInt).toNat = n → WGo p e below s n0 (QKy Z n0 h0 a1 a2 p3 LK i0 i1 i2 i3 k0 k1 k2 k3) ({ frames := 0, cells := 2, slots := 13, locals := 0 } : Room).cells ({ frames := 0, cells := 2, slots := 13, locals := 0 } : Room).slots Tz (mkF m 52 #[.val (.ref a1), .val (.ref a2), .val (.int p3), .val (.ref aC), .val (.int i), .val (.int (4 : Int32)), .val (.int (4 : Int32)), .val (.int i3), .unset] []) := by
    intro n
    induction n using Nat.strongRecOn with
    | _ n ih =>
    intro Tz hz i Cz Sz Kz B1 B2 B3 hlz hlo hhi i0z i1z hn
    show WGo _ _ _ _ _ _ _ _ Tz (mkF m 52 #[.val (.ref a1), .val (.ref a2), .val (.int p3), .val (.ref aC), .val (.int i), .val (.int (4 : Int32)), .val (.int (4 : Int32)), .val (.int i3), .unset] [])
    refine WGo.st (fun _ q => XS.iload Sz.here hx rfl (hb hby d_prog_16_method_3_code_52) rfl q) ?_
    show WGo _ _ _ _ _ _ _ _ Tz (mkF m 54 #[.val (.ref a1), .val (.ref a2), .val (.int p3), .val (.ref aC), .val (.int i), .val (.int (4 : Int32)), .val (.int (4 : Int32)), .val (.int i3), .unset] [(.int i)])
    refine WGo.st (fun _ q => XS.iloadN Sz.here hx rfl (hb hby d_prog_16_method_3_code_54) rfl q) ?_
    show WGo _ _ _ _ _ _ _ _ Tz (mkF m 55 #[.val (.ref a1), .val (.ref a2), .val (.int p3), .val (.ref aC), .val (.int i), .val (.int (4 : Int32)), .val (.int (4 : Int32)), .val (.int i3), .unset] [(.int p3), (.int i)])
    by_cases c55 : i < p3
    · refine WGo.st (fun _ q => XS.icmpNo Sz.here hx rfl (hb hby d_prog_16_method_3_code_55) rfl (tlt c55).2.1 q) ?_
      show WGo _ _ _ _ _ _ _ _ Tz (mkF m 58 #[.val (.ref a1), .val (.ref a2), .val (.int p3), .val (.ref aC), .val (.int i), .val (.int (4 : Int32)), .val (.int (4 : Int32)), .val (.int i3), .unset] [])
      rw [Int32.lt_iff_toInt_lt] at c55
      have qi : (i + (1 : Int32)).toInt = i.toInt + 1 := add_c (by decide) (by omega) (by omega)
      refine WGo.st (fun _ q => XS.aloadN Sz.here hx rfl (hb hby d_prog_16_method_3_code_58) rfl rfl q) ?_
      show WGo _ _ _ _ _ _ _ _ Tz (mkF m 59 #[.val (.ref a1), .val (.ref a2), .val (.int p3), .val (.ref aC), .val (.int i), .val (.int (4 : Int32)), .val (.int (4 : Int32)), .val (.int i3), .unset] [(.ref aC)])
      refine WGo.st (fun _ q => XS.iload Sz.here hx rfl (hb hby d_prog_16_method_3_code_59) rfl q) ?_
      show WGo _ _ _ _ _ _ _ _ Tz (mkF m 61 #[.val (.ref a1), .val (.ref a2), .val (.int p3), .val (.ref aC), .val (.int i), .val (.int (4 : Int32)), .val (.int (4 : Int32)), .val (.int i3), .unset] [(.int i), (.ref aC)])
      refine WGo.st (fun _ q => XS.iconst Sz.here hx rfl (hb hby d_prog_16_method_3_code_61) q) ?_
      show WGo _ _ _ _ _ _ _ _ Tz (mkF m 62 #[.val (.ref a1), .val (.ref a2), .val (.int p3), .val (.ref aC), .val (.int i), .val (.int (4 : Int32)), .val (.int (4 : Int32)), .val (.int i3), .unset] [(.int (1 : Int32)), (.int i), (.ref aC)])
      refine WGo.st (fun _ q => XS.iadd Sz.here hx rfl (hb hby d_prog_16_method_3_code_62) rfl q) ?_
      show WGo _ _ _ _ _ _ _ _ Tz (mkF m 63 #[.val (.ref a1), .val (.ref a2), .val (.int p3), .val (.ref aC), .val (.int i), .val (.int (4 : Int32)), .val (.int (4 : Int32)), .val (.int i3), .unset] [(.int (i + (1 : Int32))), (.ref aC)])
      refine WGo.st (fun _ q => Jvm.Free.XT.dup2 Sz.here hx rfl (hb hby d_prog_16_method_3_code_63) rfl rfl rfl q) ?_
      show WGo _ _ _ _ _ _ _ _ Tz (mkF m 64 #[.val (.ref a1), .val (.ref a2), .val (.int p3), .val (.ref aC), .val (.int i), .val (.int (4 : Int32)), .val (.int (4 : Int32)), .val (.int i3), .unset] [(.int (i + (1 : Int32))), (.ref aC), (.int (i + (1 : Int32))), (.ref aC)])
      refine w_iaload Sz B3 rfl (hb hby d_prog_16_method_3_code_64) rfl (by omega) (by omega) rfl ?_
      show WGo _ _ _ _ _ _ _ _ Tz (mkF m 65 #[.val (.ref a1), .val (.ref a2), .val (.int p3), .val (.ref aC), .val (.int i), .val (.int (4 : Int32)), .val (.int (4 : Int32)), .val (.int i3), .unset] [(.int (gi Cz (i + (1 : Int32)))), (.int (i + (1 : Int32))), (.ref aC)])
      refine WGo.st (fun _ q => XS.aloadN Sz.here hx rfl (hb hby d_prog_16_method_3_code_65) rfl rfl q) ?_
      show WGo _ _ _ _ _ _ _ _ Tz (mkF m 66 #[.val (.ref a1), .val (.ref a2), .val (.int p3), .val (.ref aC), .val (.int i), .val (.int (4 : Int32)), .val (.int (4 : Int32)), .val (.int i3), .unset] [(.ref aC), (.int (gi Cz (i + (1 : Int32)))), (.int (i + (1 : Int32))), (.ref aC)])
      refine WGo.st (fun _ q => XS.iload Sz.here hx rfl (hb hby d_prog_16_method_3_code_66) rfl q) ?_
      show WGo _ _ _ _ _ _ _ _ Tz (mkF m 68 #[.val (.ref a1), .val (.ref a2), .val (.int p3), .val (.ref aC), .val (.int i), .val (.int (4 : Int32)), .val (.int (4 : Int32)), .val (.int i3), .unset] [(.int i), (.ref aC), (.int (gi Cz (i + (1 : Int32)))), (.int (i + (1 : Int32))), (.ref aC)])
      refine w_iaload Sz B3 rfl (hb hby d_prog_16_method_3_code_68) rfl (by omega) (by omega) rfl ?_
      show WGo _ _ _ _ _ _ _ _ Tz (mkF m 69 #[.val (.ref a1), .val (.ref a2), .val (.int p3), .val (.ref aC), .val (.int i), .val (.int (4 : Int32)), .val (.int (4 : Int32)), .val (.int i3), .unset] [(.int (gi Cz i)), (.int (gi Cz (i + (1 : Int32)))), (.int (i + (1 : Int32))), (.ref aC)])
      refine WGo.st (fun _ q => XS.iadd Sz.here hx rfl (hb hby d_prog_16_method_3_code_69) rfl q) ?_
      show WGo _ _ _ _ _ _ _ _ Tz (mkF m 70 #[.val (.ref a1), .val (.ref a2), .val (.int p3), .val (.ref aC), .val (.int i), .val (.int (4 : Int32)), .val (.int (4 : Int32)), .val (.int i3), .unset] [(.int ((gi Cz (i + (1 : Int32))) + (gi Cz i))), (.int (i + (1 : Int32))), (.ref aC)])
      refine w_iastore Sz B3 g_aC rfl (hb hby d_prog_16_method_3_code_70) rfl (by omega) (by omega) (L' := (si Cz (i + (1 : Int32)) ((gi Cz (i + (1 : Int32))) + (gi Cz i)))) rfl ?_
      intro T40 h41 S42 K43 A44
      have P45 := Keep.trans Kz K43 (allS (Or.inr N_aC) all0)
      have f46 := AI.keep B1 K43 (ninS n_a1_aC nin0)
      have f47 := AI.keep B2 K43 (ninS n_a2_aC nin0)
      show WGo _ _ _ _ _ _ _ _ T40 (mkF m 71 #[.val (.ref a1), .val (.ref a2), .val (.int p3), .val (.ref aC), .val (.int i), .val (.int (4 : Int32)), .val (.int (4 : Int32)), .val (.int i3), .unset] [])
      refine WGo.st (fun _ q => XS.iinc S42.here hx rfl (hb hby d_prog_16_method_3_code_71) rfl (l' := #[.val (.ref a1), .val (.ref a2), .val (.int p3), .val (.ref aC), .val (.int (i + (1 : Int32))), .val (.int (4 : Int32)), .val (.int (4 : Int32)), .val (.int i3), .unset]) rfl q) ?_
      show WGo _ _ _ _ _ _ _ _ T40 (mkF m 74 #[.val (.ref a1), .val (.ref a2), .val (.int p3), .val (.ref aC), .val (.int (i + (1 : Int32))), .val (.int (4 : Int32)), .val (.int (4 : Int32)), .val (.int i3), .unset] [])
      refine WGo.st (fun _ q => XS.goto S42.here hx rfl (pc0 := 74) (pc' := 52) rfl (hb hby d_prog_16_method_3_code_74) (by decide) (by decide) q) ?_
      show WGo _ _ _ _ _ _ _ _ T40 (mkF m 52 #[.val (.ref a1), .val (.ref a2), .val (.int p3), .val (.ref aC), .val (.int (i + (1 : Int32))), .val (.int (4 : Int32)), .val (.int (4 : Int32)), .val (.int i3), .unset] [])
      refine ih _ ?_ T40 h41 (i + (1 : Int32)) _ S42 P45 f46 f47 A44 ?_ ?_ ?_ (by omega) (by omega) rfl
      · omega
      · rw [si_len]; exact hlz
      · intro y y0 y1
        by_cases e : y = i + (1 : Int32)
        · subst e; rw [gi_same _ _ _ (by omega) (by omega), hhi _ (by omega) (by omega), hlo _ i0z (by omega)]; exact cu_step (by omega) (by omega) (by omega) (by omega) i0z (by omega)
        · have e2 : y.toInt ≠ (i + (1 : Int32)).toInt := fun q => e (Int32.toInt_inj.mp q)
          rw [gi_other _ _ _ _ y0 (by omega) e2]; exact hlo y y0 (by omega)
      · intro y y0 y1
        rw [gi_other _ _ _ _ (by omega) (by omega) (by omega)]; exact hhi y (by omega) y1
    · refine WGo.st (fun _ q => XS.icmpYes Sz.here hx rfl (pc0 := 55) (pc' := 77) rfl (hb hby d_prog_16_method_3_code_55) rfl (flt c55).2.1 (by decide) (by decide) q) ?_
      show WGo _ _ _ _ _ _ _ _ Tz (mkF m 77 #[.val (.ref a1), .val (.ref a2), .val (.int p3), .val (.ref aC), .val (.int i), .val (.int (4 : Int32)), .val (.int (4 : Int32)), .val (.int i3), .unset] [])
      rw [Int32.lt_iff_toInt_lt] at c55
      have hu0 : ∀ y : Int32, 0 ≤ y.toInt → y.toInt ≤ p3.toInt → gi Cz y = cuF k0 k1 k2 k3 y := fun y y0 y1 => hlo y y0 (by omega)
      have hm0 := hlz
      refine WGo.st (fun _ q => XS.aloadN Sz.here hx rfl (hb hby d_prog_16_method_3_code_77) rfl rfl q) ?_
      show WGo _ _ _ _ _ _ _ _ Tz (mkF m 78 #[.val (.ref a1), .val (.ref a2), .val (.int p3), .val (.ref aC), .val (.int i), .val (.int (4 : Int32)), .val (.int (4 : Int32)), .val (.int i3), .unset] [(.ref a1)])
      refine w_arraylength Sz B1 rfl (hb hby d_prog_16_method_3_code_78) rfl (z := (4 : Int32)) rfl ?_
      show WGo _ _ _ _ _ _ _ _ Tz (mkF m 79 #[.val (.ref a1), .val (.ref a2), .val (.int p3), .val (.ref aC), .val (.int i), .val (.int (4 : Int32)), .val (.int (4 : Int32)), .val (.int i3), .unset] [(.int (4 : Int32))])
      refine w_newarray Sz (hw _ (List.mem_of_getElem? (i := 0) rfl)) rfl rfl (hb hby d_prog_16_method_3_code_79) rfl (by decide) (cap := 4) (by decide) (by decide) (by decide) (by decide) (L := [(0 : Int32), (0 : Int32), (0 : Int32), (0 : Int32)]) rfl ?_
      intro T48 h49 aR S50 K51 e_aR g_aR A_aR
      have n_a1_aR : a1 ≠ aR := by rw [e_aR]; exact Nat.ne_of_lt B1.lt
      have n_a2_aR : a2 ≠ aR := by rw [e_aR]; exact Nat.ne_of_lt B2.lt
      have n_aC_aR : aC ≠ aR := by rw [e_aR]; exact Nat.ne_of_lt B3.lt
      have N_aR : h0.size ≤ aR := by rw [e_aR]; exact Kz.1
      have P52 := Keep.trans Kz K51 all0
      have f53 := AI.keep B1 K51 nin0
      have f54 := AI.keep B2 K51 nin0
      have f55 := AI.keep B3 K51 nin0
      show WGo _ _ _ _ _ _ _ _ T48 (mkF m 81 #[.val (.ref a1), .val (.ref a2), .val (.int p3), .val (.ref aC), .val (.int i), .val (.int (4 : Int32)), .val (.int (4 : Int32)), .val (.int i3), .unset] [(.ref aR)])
      refine WGo.st (fun _ q => XS.astore S50.here hx rfl (hb hby d_prog_16_method_3_code_81) rfl rfl (l' := #[.val (.ref a1), .val (.ref a2), .val (.int p3), .val (.ref aC), .val (.ref aR), .val (.int (4 : Int32)), .val (.int (4 : Int32)), .val (.int i3), .unset]) rfl q) ?_
      show WGo _ _ _ _ _ _ _ _ T48 (mkF m 83 #[.val (.ref a1), .val (.ref a2), .val (.int p3), .val (.ref aC), .val (.ref aR), .val (.int (4 : Int32)), .val (.int (4 : Int32)), .val (.int i3), .unset] [])
      refine WGo.st (fun _ q => XS.aloadN S50.here hx rfl (hb hby d_prog_16_method_3_code_83) rfl rfl q) ?_
      show WGo _ _ _ _ _ _ _ _ T48 (mkF m 84 #[.val (.ref a1), .val (.ref a2), .val (.int p3), .val (.ref aC), .val (.ref aR), .val (.int (4 : Int32)), .val (.int (4 : Int32)), .val (.int i3), .unset] [(.ref a1)])
      refine WGo.st (fun _ q => XS.astore S50.here hx rfl (hb hby d_prog_16_method_3_code_84) rfl rfl (l' := #[.val (.ref a1), .val (.ref a2), .val (.int p3), .val (.ref aC), .val (.ref aR), .val (.ref a1), .val (.int (4 : Int32)), .val (.int i3), .unset]) rfl q) ?_
      show WGo _ _ _ _ _ _ _ _ T48 (mkF m 86 #[.val (.ref a1), .val (.ref a2), .val (.int p3), .val (.ref aC), .val (.ref aR), .val (.ref a1), .val (.int (4 : Int32)), .val (.int i3), .unset] [])
      refine WGo.st (fun _ q => XS.aload S50.here hx rfl (hb hby d_prog_16_method_3_code_86) rfl rfl q) ?_
      show WGo _ _ _ _ _ _ _ _ T48 (mkF m 88 #[.val (.ref a1), .val (.ref a2), .val (.int p3), .val (.ref aC), .val (.ref aR), .val (.ref a1), .val (.int (4 : Int32)), .val (.int i3), .unset] [(.ref a1)])
      refine w_arraylength S50 f53 rfl (hb hby d_prog_16_method_3_code_88) rfl (z := (4 : Int32)) rfl ?_
      show WGo _ _ _ _ _ _ _ _ T48 (mkF m 89 #[.val (.ref a1), .val (.ref a2), .val (.int p3), .val (.ref aC), .val (.ref aR), .val (.ref a1), .val (.int (4 : Int32)), .val (.int i3), .unset] [(.int (4 : Int32))])
      refine WGo.st (fun _ q => XS.istore S50.here hx rfl (hb hby d_prog_16_method_3_code_89) rfl (l' := #[.val (.ref a1), .val (.ref a2), .val (.int p3), .val (.ref aC), .val (.ref aR), .val (.ref a1), .val (.int (4 : Int32)), .val (.int i3), .unset]) rfl q) ?_
      show WGo _ _ _ _ _ _ _ _ T48 (mkF m 91 #[.val (.ref a1), .val (.ref a2), .val (.int p3), .val (.ref aC), .val (.ref aR), .val (.ref a1), .val (.int (4 : Int32)), .val (.int i3), .unset] [])
      refine WGo.st (fun _ q => XS.iconst S50.here hx rfl (hb hby d_prog_16_method_3_code_91) q) ?_
      show WGo _ _ _ _ _ _ _ _ T48 (mkF m 92 #[.val (.ref a1), .val (.ref a2), .val (.int p3), .val (.ref aC), .val (.ref aR), .val (.ref a1), .val (.int (4 : Int32)), .val (.int i3), .unset] [(.int (0 : Int32))])
      refine WGo.st (fun _ q => XS.istore S50.here hx rfl (hb hby d_prog_16_method_3_code_92) rfl (l' := #[.val (.ref a1), .val (.ref a2), .val (.int p3), .val (.ref aC), .val (.ref aR), .val (.ref a1), .val (.int (4 : Int32)), .val (.int (0 : Int32)), .unset]) rfl q) ?_
      show WGo _ _ _ _ _ _ _ _ T48 (mkF m 94 #[.val (.ref a1), .val (.ref a2), .val (.int p3), .val (.ref aC), .val (.ref aR), .val (.ref a1), .val (.int (4 : Int32)), .val (.int (0 : Int32)), .unset] [])
      refine WGo.st (fun _ q => XS.iload S50.here hx rfl (hb hby d_prog_16_method_3_code_94) rfl q) ?_
      show WGo _ _ _ _ _ _ _ _ T48 (mkF m 96 #[.val (.ref a1), .val (.ref a2), .val (.int p3), .val (.ref aC), .val (.ref aR), .val (.ref a1), .val (.int (4 : Int32)), .val (.int (0 : Int32)), .unset] [(.int (0 : Int32))])
      refine WGo.st (fun _ q => XS.iload S50.here hx rfl (hb hby d_prog_16_method_3_code_96) rfl q) ?_
      show WGo _ _ _ _ _ _ _ _ T48 (mkF m 98 #[.val (.ref a1), .val (.ref a2), .val (.int p3), .val (.ref aC), .val (.ref aR), .val (.ref a1), .val (.int (4 : Int32)), .val (.int (0 : Int32)), .unset] [(.int (4 : Int32)), (.int (0 : Int32))])
      refine WGo.st (fun _ q => XS.icmpNo S50.here hx rfl (hb hby d_prog_16_method_3_code_98) rfl (tlt (by decide : ((0 : Int32) < (4 : Int32)))).2.1 q) ?_
      show WGo _ _ _ _ _ _ _ _ T48 (mkF m 101 #[.val (.ref a1), .val (.ref a2), .val (.int p3), .val (.ref aC), .val (.ref aR), .val (.ref a1), .val (.int (4 : Int32)), .val (.int (0 : Int32)), .unset] [])
      refine WGo.st (fun _ q => XS.aload S50.here hx rfl (hb hby d_prog_16_method_3_code_101) rfl rfl q) ?_
      show WGo _ _ _ _ _ _ _ _ T48 (mkF m 103 #[.val (.ref a1), .val (.ref a2), .val (.int p3), .val (.ref aC), .val (.ref aR), .val (.ref a1), .val (.int (4 : Int32)), .val (.int (0 : Int32)), .unset] [(.ref a1)])
      refine WGo.st (fun _ q => XS.iload S50.here hx rfl (hb hby d_prog_16_method_3_code_103) rfl q) ?_
      show WGo _ _ _ _ _ _ _ _ T48 (mkF m 105 #[.val (.ref a1), .val (.ref a2), .val (.int p3), .val (.ref aC), .val (.ref aR), .val (.ref a1), .val (.int (4 : Int32)), .val (.int (0 : Int32)), .unset] [(.int (0 : Int32)), (.ref a1)])
      refine w_iaload S50 f53 rfl (hb hby d_prog_16_method_3_code_105) rfl (by decide) (by decide : (0 : Int32).toInt < ((4 : Nat) : Int)) rfl ?_
      show WGo _ _ _ _ _ _ _ _ T48 (mkF m 106 #[.val (.ref a1), .val (.ref a2), .val (.int p3), .val (.ref aC), .val (.ref aR), .val (.ref a1), .val (.int (4 : Int32)), .val (.int (0 : Int32)), .unset] [(.int i0)])
      refine WGo.st (fun _ q => XS.istore S50.here hx rfl (hb hby d_prog_16_method_3_code_106) rfl (l' := #[.val (.ref a1), .val (.ref a2), .val (.int p3), .val (.ref aC), .val (.ref aR), .val (.ref a1), .val (.int (4 : Int32)), .val (.int (0 : Int32)), .val (.int i0)]) rfl q) ?_
      show WGo _ _ _ _ _ _ _ _ T48 (mkF m 108 #[.val (.ref a1), .val (.ref a2), .val (.int p3), .val (.ref aC), .val (.ref aR), .val (.ref a1), .val (.int (4 : Int32)), .val (.int (0 : Int32)), .val (.int i0)] [])
      refine WGo.st (fun _ q => XS.aload S50.here hx rfl (hb hby d_prog_16_method_3_code_108) rfl rfl q) ?_
      show WGo _ _ _ _ _ _ _ _ T48 (mkF m 110 #[.val (.ref a1), .val (.ref a2), .val (.int p3), .val (.ref aC), .val (.ref aR), .val (.ref a1), .val (.int (4 : Int32)), .val (.int (0 : Int32)), .val (.int i0)] [(.ref aR)])
      refine WGo.st (fun _ q => XS.aloadN S50.here hx rfl (hb hby d_prog_16_method_3_code_110) rfl rfl q) ?_
      show WGo _ _ _ _ _ _ _ _ T48 (mkF m 111 #[.val (.ref a1), .val (.ref a2), .val (.int p3), .val (.ref aC), .val (.ref aR), .val (.ref a1), .val (.int (4 : Int32)), .val (.int (0 : Int32)), .val (.int i0)] [(.ref aC), (.ref aR)])
      refine WGo.st (fun _ q => XS.aloadN S50.here hx rfl (hb hby d_prog_16_method_3_code_111) rfl rfl q) ?_
      show WGo _ _ _ _ _ _ _ _ T48 (mkF m 112 #[.val (.ref a1), .val (.ref a2), .val (.int p3), .val (.ref aC), .val (.ref aR), .val (.ref a1), .val (.int (4 : Int32)), .val (.int (0 : Int32)), .val (.int i0)] [(.ref a2), (.ref aC), (.ref aR)])
      refine WGo.st (fun _ q => XS.iload S50.here hx rfl (hb hby d_prog_16_method_3_code_112) rfl q) ?_
      show WGo _ _ _ _ _ _ _ _ T48 (mkF m 114 #[.val (.ref a1), .val (.ref a2), .val (.int p3), .val (.ref aC), .val (.ref aR), .val (.ref a1), .val (.int (4 : Int32)), .val (.int (0 : Int32)), .val (.int i0)] [(.int i0), (.ref a2), (.ref aC), (.ref aR)])
      refine w_iaload S50 f54 rfl (hb hby d_prog_16_method_3_code_114) rfl hi0.1 (by rw [hlK]; exact hi0.2) hg0 ?_
      show WGo _ _ _ _ _ _ _ _ T48 (mkF m 115 #[.val (.ref a1), .val (.ref a2), .val (.int p3), .val (.ref aC), .val (.ref aR), .val (.ref a1), .val (.int (4 : Int32)), .val (.int (0 : Int32)), .val (.int i0)] [(.int k0), (.ref aC), (.ref aR)])
      refine WGo.st (fun _ q => Jvm.Free.XT.dup2 S50.here hx rfl (hb hby d_prog_16_method_3_code_115) rfl rfl rfl q) ?_
      show WGo _ _ _ _ _ _ _ _ T48 (mkF m 116 #[.val (.ref a1), .val (.ref a2), .val (.int p3), .val (.ref aC), .val (.ref aR), .val (.ref a1), .val (.int (4 : Int32)), .val (.int (0 : Int32)), .val (.int i0)] [(.int k0), (.ref aC), (.int k0), (.ref aC), (.ref aR)])
      have hp0 : gi Cz k0 = (r0F k0 k1 k2 k3) := by
        rw [hu0 _ hk0.1 (by omega)]
        exact pos0 k0 k1 k2 k3
      refine w_iaload S50 f55 rfl (hb hby d_prog_16_method_3_code_116) rfl hk0.1 (by omega) hp0 ?_
      show WGo _ _ _ _ _ _ _ _ T48 (mkF m 117 #[.val (.ref a1), .val (.ref a2), .val (.int p3), .val (.ref aC), .val (.ref aR), .val (.ref a1), .val (.int (4 : Int32)), .val (.int (0 : Int32)), .val (.int i0)] [(.int (r0F k0 k1 k2 k3)), (.int k0), (.ref aC), (.ref aR)])
      refine WGo.st (fun _ q => w_dupX2 S50.here hx rfl (hb hby d_prog_16_method_3_code_117) rfl rfl rfl rfl q) ?_
      show WGo _ _ _ _ _ _ _ _ T48 (mkF m 118 #[.val (.ref a1), .val (.ref a2), .val (.int p3), .val (.ref aC), .val (.ref aR), .val (.ref a1), .val (.int (4 : Int32)), .val (.int (0 : Int32)), .val (.int i0)] [(.int (r0F k0 k1 k2 k3)), (.int k0), (.ref aC), (.int (r0F k0 k1 k2 k3)), (.ref aR)])
      refine WGo.st (fun _ q => XS.iconst S50.here hx rfl (hb hby d_prog_16_method_3_code_118) q) ?_
      show WGo _ _ _ _ _ _ _ _ T48 (mkF m 119 #[.val (.ref a1), .val (.ref a2), .val (.int p3), .val (.ref aC), .val (.ref aR), .val (.ref a1), .val (.int (4 : Int32)), .val (.int (0 : Int32)), .val (.int i0)] [(.int (1 : Int32)), (.int (r0F k0 k1 k2 k3)), (.int k0), (.ref aC), (.int (r0F k0 k1 k2 k3)), (.ref aR)])
      refine WGo.st (fun _ q => XS.iadd S50.here hx rfl (hb hby d_prog_16_method_3_code_119) rfl q) ?_
      show WGo _ _ _ _ _ _ _ _ T48 (mkF m 120 #[.val (.ref a1), .val (.ref a2), .val (.int p3), .val (.ref aC), .val (.ref aR), .val (.ref a1), .val (.int (4 : Int32)), .val (.int (0 : Int32)), .val (.int i0)] [(.int ((r0F k0 k1 k2 k3) + (1 : Int32))), (.int k0), (.ref aC), (.int (r0F k0 k1 k2 k3)), (.ref aR)])
      refine w_iastore S50 f55 g_aC rfl (hb hby d_prog_16_method_3_code_120) rfl hk0.1 (by omega) (L' := (si Cz k0 ((r0F k0 k1 k2 k3) + (1 : Int32)))) rfl ?_
      intro T56 h57 S58 K59 A60
      have P61 := Keep.trans P52 K59 (allS (Or.inr N_aC) all0)
      have f62 := AI.keep f53 K59 (ninS n_a1_aC nin0)
      have f63 := AI.keep f54 K59 (ninS n_a2_aC nin0)
      have f64 := AI.keep A_aR K59 (ninS (Ne.symm n_aC_aR) nin0)
      show WGo _ _ _ _ _ _ _ _ T56 (mkF m 121 #[.val (.ref a1), .val (.ref a2), .val (.int p3), .val (.ref aC), .val (.ref aR), .val (.ref a1), .val (.int (4 : Int32)), .val (.int (0 : Int32)), .val (.int i0)] [(.int (r0F k0 k1 k2 k3)), (.ref aR)])
      obtain ⟨D1, eD1⟩ : ∃ C, C = (si Cz k0 ((r0F k0 k1 k2 k3) + (1 : Int32))) := ⟨_, rfl⟩
      rw [← eD1] at A60
      have hm1 : (D1.length : Int) = p3.toInt + 1 := by rw [eD1, si_len]; exact hm0
      have hw1 : ∀ y : Int32, 0 ≤ y.toInt → y.toInt ≤ p3.toInt → gi D1 y = gi Cz y + ind (k0 = y) := fun y hy _ => by rw [eD1, ← hp0]; exact cnt_step hk0.1 (by omega) y hy
      refine WGo.st (fun _ q => XS.iload S58.here hx rfl (hb hby d_prog_16_method_3_code_121) rfl q) ?_
      show WGo _ _ _ _ _ _ _ _ T56 (mkF m 123 #[.val (.ref a1), .val (.ref a2), .val (.int p3), .val (.ref aC), .val (.ref aR), .val (.ref a1), .val (.int (4 : Int32)), .val (.int (0 : Int32)), .val (.int i0)] [(.int i0), (.int (r0F k0 k1 k2 k3)), (.ref aR)])
      refine w_iastore S58 f64 g_aR rfl (hb hby d_prog_16_method_3_code_123) rfl (r0_rng k0 k1 k2 k3).1 (by exact (r0_rng k0 k1 k2 k3).2) (L' := (si [(0 : Int32), (0 : Int32), (0 : Int32), (0 : Int32)] (r0F k0 k1 k2 k3) i0)) rfl ?_
      intro T65 h66 S67 K68 A69
      have P70 := Keep.trans P61 K68 (allS (Or.inr N_aR) all0)
      have f71 := AI.keep f62 K68 (ninS n_a1_aR nin0)
      have f72 := AI.keep f63 K68 (ninS n_a2_aR nin0)
      have f73 := AI.keep A60 K68 (ninS n_aC_aR nin0)
      show WGo _ _ _ _ _ _ _ _ T65 (mkF m 124 #[.val (.ref a1), .val (.ref a2), .val (.int p3), .val (.ref aC), .val (.ref aR), .val (.ref a1), .val (.int (4 : Int32)), .val (.int (0 : Int32)), .val (.int i0)] [])
      refine WGo.st (fun _ q => XS.iinc S67.here hx rfl (hb hby d_prog_16_method_3_code_124) rfl (l' := #[.val (.ref a1), .val (.ref a2), .val (.int p3), .val (.ref aC), .val (.ref aR), .val (.ref a1), .val (.int (4 : Int32)), .val (.int (1 : Int32)), .val (.int i0)]) rfl q) ?_
      show WGo _ _ _ _ _ _ _ _ T65 (mkF m 127 #[.val (.ref a1), .val (.ref a2), .val (.int p3), .val (.ref aC), .val (.ref aR), .val (.ref a1), .val (.int (4 : Int32)), .val (.int (1 : Int32)), .val (.int i0)] [])
      refine WGo.st (fun _ q => XS.goto S67.here hx rfl (pc0 := 127) (pc' := 94) rfl (hb hby d_prog_16_method_3_code_127) (by decide) (by decide) q) ?_
      show WGo _ _ _ _ _ _ _ _ T65 (mkF m 94 #[.val (.ref a1), .val (.ref a2), .val (.int p3), .val (.ref aC), .val (.ref aR), .val (.ref a1), .val (.int (4 : Int32)), .val (.int (1 : Int32)), .val (.int i0)] [])
      refine WGo.st (fun _ q => XS.iload S67.here hx rfl (hb hby d_prog_16_method_3_code_94) rfl q) ?_
      show WGo _ _ _ _ _ _ _ _ T65 (mkF m 96 #[.val (.ref a1), .val (.ref a2), .val (.int p3), .val (.ref aC), .val (.ref aR), .val (.ref a1), .val (.int (4 : Int32)), .val (.int (1 : Int32)), .val (.int i0)] [(.int (1 : Int32))])
      refine WGo.st (fun _ q => XS.iload S67.here hx rfl (hb hby d_prog_16_method_3_code_96) rfl q) ?_
      show WGo _ _ _ _ _ _ _ _ T65 (mkF m 98 #[.val (.ref a1), .val (.ref a2), .val (.int p3), .val (.ref aC), .val (.ref aR), .val (.ref a1), .val (.int (4 : Int32)), .val (.int (1 : Int32)), .val (.int i0)] [(.int (4 : Int32)), (.int (1 : Int32))])
      refine WGo.st (fun _ q => XS.icmpNo S67.here hx rfl (hb hby d_prog_16_method_3_code_98) rfl (tlt (by decide : ((1 : Int32) < (4 : Int32)))).2.1 q) ?_
      show WGo _ _ _ _ _ _ _ _ T65 (mkF m 101 #[.val (.ref a1), .val (.ref a2), .val (.int p3), .val (.ref aC), .val (.ref aR), .val (.ref a1), .val (.int (4 : Int32)), .val (.int (1 : Int32)), .val (.int i0)] [])
      refine WGo.st (fun _ q => XS.aload S67.here hx rfl (hb hby d_prog_16_method_3_code_101) rfl rfl q) ?_
      show WGo _ _ _ _ _ _ _ _ T65 (mkF m 103 #[.val (.ref a1), .val (.ref a2), .val (.int p3), .val (.ref aC), .val (.ref aR), .val (.ref a1), .val (.int (4 : Int32)), .val (.int (1 : Int32)), .val (.int i0)] [(.ref a1)])
      refine WGo.st (fun _ q => XS.iload S67.here hx rfl (hb hby d_prog_16_method_3_code_103) rfl q) ?_
      show WGo _ _ _ _ _ _ _ _ T65 (mkF m 105 #[.val (.ref a1), .val (.ref a2), .val (.int p3), .val (.ref aC), .val (.ref aR), .val (.ref a1), .val (.int (4 : Int32)), .val (.int (1 : Int32)), .val (.int i0)] [(.int (1 : Int32)), (.ref a1)])
      refine w_iaload S67 f71 rfl (hb hby d_prog_16_method_3_code_105) rfl (by decide) (by decide : (1 : Int32).toInt < ((4 : Nat) : Int)) rfl ?_
      show WGo _ _ _ _ _ _ _ _ T65 (mkF m 106 #[.val (.ref a1), .val (.ref a2), .val (.int p3), .val (.ref aC), .val (.ref aR), .val (.ref a1), .val (.int (4 : Int32)), .val (.int (1 : Int32)), .val (.int i0)] [(.int i1)])
      refine WGo.st (fun _ q => XS.istore S67.here hx rfl (hb hby d_prog_16_method_3_code_106) rfl (l' := #[.val (.ref a1), .val (.ref a2), .val (.int p3), .val (.ref aC), .val (.ref aR), .val (.ref a1), .val (.int (4 : Int32)), .val (.int (1 : Int32)), .val (.int i1)]) rfl q) ?_
      show WGo _ _ _ _ _ _ _ _ T65 (mkF m 108 #[.val (.ref a1), .val (.ref a2), .val (.int p3), .val (.ref aC), .val (.ref aR), .val (.ref a1), .val (.int (4 : Int32)), .val (.int (1 : Int32)), .val (.int i1)] [])
      refine WGo.st (fun _ q => XS.aload S67.here hx rfl (hb hby d_prog_16_method_3_code_108) rfl rfl q) ?_
      show WGo _ _ _ _ _ _ _ _ T65 (mkF m 110 #[.val (.ref a1), .val (.ref a2), .val (.int p3), .val (.ref aC), .val (.ref aR), .val (.ref a1), .val (.int (4 : Int32)), .val (.int (1 : Int32)), .val (.int i1)] [(.ref aR)])
      refine WGo.st (fun _ q => XS.aloadN S67.here hx rfl (hb hby d_prog_16_method_3_code_110) rfl rfl q) ?_
      show WGo _ _ _ _ _ _ _ _ T65 (mkF m 111 #[.val (.ref a1), .val (.ref a2), .val (.int p3), .val (.ref aC), .val (.ref aR), .val (.ref a1), .val (.int (4 : Int32)), .val (.int (1 : Int32)), .val (.int i1)] [(.ref aC), (.ref aR)])
      refine WGo.st (fun _ q => XS.aloadN S67.here hx rfl (hb hby d_prog_16_method_3_code_111) rfl rfl q) ?_
      show WGo _ _ _ _ _ _ _ _ T65 (mkF m 112 #[.val (.ref a1), .val (.ref a2), .val (.int p3), .val (.ref aC), .val (.ref aR), .val (.ref a1), .val (.int (4 : Int32)), .val (.int (1 : Int32)), .val (.int i1)] [(.ref a2), (.ref aC), (.ref aR)])
      refine WGo.st (fun _ q => XS.iload S67.here hx rfl (hb hby d_prog_16_method_3_code_112) rfl q) ?_
      show WGo _ _ _ _ _ _ _ _ T65 (mkF m 114 #[.val (.ref a1), .val (.ref a2), .val (.int p3), .val (.ref aC), .val (.ref aR), .val (.ref a1), .val (.int (4 : Int32)), .val (.int (1 : Int32)), .val (.int i1)] [(.int i1), (.ref a2), (.ref aC), (.ref aR)])
      refine w_iaload S67 f72 rfl (hb hby d_prog_16_method_3_code_114) rfl hi1.1 (by rw [hlK]; exact hi1.2) hg1 ?_
      show WGo _ _ _ _ _ _ _ _ T65 (mkF m 115 #[.val (.ref a1), .val (.ref a2), .val (.int p3), .val (.ref aC), .val (.ref aR), .val (.ref a1), .val (.int (4 : Int32)), .val (.int (1 : Int32)), .val (.int i1)] [(.int k1), (.ref aC), (.ref aR)])
      refine WGo.st (fun _ q => Jvm.Free.XT.dup2 S67.here hx rfl (hb hby d_prog_16_method_3_code_115) rfl rfl rfl q) ?_
      show WGo _ _ _ _ _ _ _ _ T65 (mkF m 116 #[.val (.ref a1), .val (.ref a2), .val (.int p3), .val (.ref aC), .val (.ref aR), .val (.ref a1), .val (.int (4 : Int32)), .val (.int (1 : Int32)), .val (.int i1)] [(.int k1), (.ref aC), (.int k1), (.ref aC), (.ref aR)])
      have hp1 : gi D1 k1 = (r1F k0 k1 k2 k3) := by
        rw [hw1 _ hk1.1 (by omega), hu0 _ hk1.1 (by omega)]
        exact pos1 k0 k1 k2 k3
      refine w_iaload S67 f73 rfl (hb hby d_prog_16_method_3_code_116) rfl hk1.1 (by omega) hp1 ?_
      show WGo _ _ _ _ _ _ _ _ T65 (mkF m 117 #[.val (.ref a1), .val (.ref a2), .val (.int p3), .val (.ref aC), .val (.ref aR), .val (.ref a1), .val (.int (4 : Int32)), .val (.int (1 : Int32)), .val (.int i1)] [(.int (r1F k0 k1 k2 k3)), (.int k1), (.ref aC), (.ref aR)])
      refine WGo.st (fun _ q => w_dupX2 S67.here hx rfl (hb hby d_prog_16_method_3_code_117) rfl rfl rfl rfl q) ?_
      show WGo _ _ _ _ _ _ _ _ T65 (mkF m 118 #[.val (.ref a1), .val (.ref a2), .val (.int p3), .val (.ref aC), .val (.ref aR), .val (.ref a1), .val (.int (4 : Int32)), .val (.int (1 : Int32)), .val (.int i1)] [(.int (r1F k0 k1 k2 k3)), (.int k1), (.ref aC), (.int (r1F k0 k1 k2 k3)), (.ref aR)])
      refine WGo.st (fun _ q => XS.iconst S67.here hx rfl (hb hby d_prog_16_method_3_code_118) q) ?_
      show WGo _ _ _ _ _ _ _ _ T65 (mkF m 119 #[.val (.ref a1), .val (.ref a2), .val (.int p3), .val (.ref aC), .val (.ref aR), .val (.ref a1), .val (.int (4 : Int32)), .val (.int (1 : Int32)), .val (.int i1)] [(.int (1 : Int32)), (.int (r1F k0 k1 k2 k3)), (.int k1), (.ref aC), (.int (r1F k0 k1 k2 k3)), (.ref aR)])
      refine WGo.st (fun _ q => XS.iadd S67.here hx rfl (hb hby d_prog_16_method_3_code_119) rfl q) ?_
      show WGo _ _ _ _ _ _ _ _ T65 (mkF m 120 #[.val (.ref a1), .val (.ref a2), .val (.int p3), .val (.ref aC), .val (.ref aR), .val (.ref a1), .val (.int (4 : Int32)), .val (.int (1 : Int32)), .val (.int i1)] [(.int ((r1F k0 k1 k2 k3) + (1 : Int32))), (.int k1), (.ref aC), (.int (r1F k0 k1 k2 k3)), (.ref aR)])
      refine w_iastore S67 f73 g_aC rfl (hb hby d_prog_16_method_3_code_120) rfl hk1.1 (by omega) (L' := (si D1 k1 ((r1F k0 k1 k2 k3) + (1 : Int32)))) rfl ?_
      intro T74 h75 S76 K77 A78
      have P79 := Keep.trans P70 K77 (allS (Or.inr N_aC) all0)
      have f80 := AI.keep f71 K77 (ninS n_a1_aC nin0)
      have f81 := AI.keep f72 K77 (ninS n_a2_aC nin0)
      have f82 := AI.keep A69 K77 (ninS (Ne.symm n_aC_aR) nin0)
      show WGo _ _ _ _ _ _ _ _ T74 (mkF m 121 #[.val (.ref a1), .val (.ref a2), .val (.int p3), .val (.ref aC), .val (.ref aR), .val (.ref a1), .val (.int (4 : Int32)), .val (.int (1 : Int32)), .val (.int i1)] [(.int (r1F k0 k1 k2 k3)), (.ref aR)])
      obtain ⟨D2, eD2⟩ : ∃ C, C = (si D1 k1 ((r1F k0 k1 k2 k3) + (1 : Int32))) := ⟨_, rfl⟩
      rw [← eD2] at A78
      have hm2 : (D2.length : Int) = p3.toInt + 1 := by rw [eD2, si_len]; exact hm1
      have hw2 : ∀ y : Int32, 0 ≤ y.toInt → y.toInt ≤ p3.toInt → gi D2 y = gi D1 y + ind (k1 = y) := fun y hy _ => by rw [eD2, ← hp1]; exact cnt_step hk1.1 (by omega) y hy
      refine WGo.st (fun _ q => XS.iload S76.here hx rfl (hb hby d_prog_16_method_3_code_121) rfl q) ?_
      show WGo _ _ _ _ _ _ _ _ T74 (mkF m 123 #[.val (.ref a1), .val (.ref a2), .val (.int p3), .val (.ref aC), .val (.ref aR), .val (.ref a1), .val (.int (4 : Int32)), .val (.int (1 : Int32)), .val (.int i1)] [(.int i1), (.int (r1F k0 k1 k2 k3)), (.ref aR)])
      refine w_iastore S76 f82 g_aR rfl (hb hby d_prog_16_method_3_code_123) rfl (r1_rng k0 k1 k2 k3).1 (by rw [si_len]; exact (r1_rng k0 k1 k2 k3).2) (L' := (si (si [(0 : Int32), (0 : Int32), (0 : Int32), (0 : Int32)] (r0F k0 k1 k2 k3) i0) (r1F k0 k1 k2 k3) i1)) rfl ?_
      intro T83 h84 S85 K86 A87
      have P88 := Keep.trans P79 K86 (allS (Or.inr N_aR) all0)
      have f89 := AI.keep f80 K86 (ninS n_a1_aR nin0)
      have f90 := AI.keep f81 K86 (ninS n_a2_aR nin0)
      have f91 := AI.keep A78 K86 (ninS n_aC_aR nin0)
      show WGo _ _ _ _ _ _ _ _ T83 (mkF m 124 #[.val (.ref a1), .val (.ref a2), .val (.int p3), .val (.ref aC), .val (.ref aR), .val (.ref a1), .val (.int (4 : Int32)), .val (.int (1 : Int32)), .val (.int i1)] [])
      refine WGo.st (fun _ q => XS.iinc S85.here hx rfl (hb hby d_prog_16_method_3_code_124) rfl (l' := #[.val (.ref a1), .val (.ref a2), .val (.int p3), .val (.ref aC), .val (.ref aR), .val (.ref a1), .val (.int (4 : Int32)), .val (.int (2 : Int32)), .val (.int i1)]) rfl q) ?_
      show WGo _ _ _ _ _ _ _ _ T83 (mkF m 127 #[.val (.ref a1), .val (.ref a2), .val (.int p3), .val (.ref aC), .val (.ref aR), .val (.ref a1), .val (.int (4 : Int32)), .val (.int (2 : Int32)), .val (.int i1)] [])
      refine WGo.st (fun _ q => XS.goto S85.here hx rfl (pc0 := 127) (pc' := 94) rfl (hb hby d_prog_16_method_3_code_127) (by decide) (by decide) q) ?_
      show WGo _ _ _ _ _ _ _ _ T83 (mkF m 94 #[.val (.ref a1), .val (.ref a2), .val (.int p3), .val (.ref aC), .val (.ref aR), .val (.ref a1), .val (.int (4 : Int32)), .val (.int (2 : Int32)), .val (.int i1)] [])
      refine WGo.st (fun _ q => XS.iload S85.here hx rfl (hb hby d_prog_16_method_3_code_94) rfl q) ?_
      show WGo _ _ _ _ _ _ _ _ T83 (mkF m 96 #[.val (.ref a1), .val (.ref a2), .val (.int p3), .val (.ref aC), .val (.ref aR), .val (.ref a1), .val (.int (4 : Int32)), .val (.int (2 : Int32)), .val (.int i1)] [(.int (2 : Int32))])
      refine WGo.st (fun _ q => XS.iload S85.here hx rfl (hb hby d_prog_16_method_3_code_96) rfl q) ?_
      show WGo _ _ _ _ _ _ _ _ T83 (mkF m 98 #[.val (.ref a1), .val (.ref a2), .val (.int p3), .val (.ref aC), .val (.ref aR), .val (.ref a1), .val (.int (4 : Int32)), .val (.int (2 : Int32)), .val (.int i1)] [(.int (4 : Int32)), (.int (2 : Int32))])
      refine WGo.st (fun _ q => XS.icmpNo S85.here hx rfl (hb hby d_prog_16_method_3_code_98) rfl (tlt (by decide : ((2 : Int32) < (4 : Int32)))).2.1 q) ?_
      show WGo _ _ _ _ _ _ _ _ T83 (mkF m 101 #[.val (.ref a1), .val (.ref a2), .val (.int p3), .val (.ref aC), .val (.ref aR), .val (.ref a1), .val (.int (4 : Int32)), .val (.int (2 : Int32)), .val (.int i1)] [])
      refine WGo.st (fun _ q => XS.aload S85.here hx rfl (hb hby d_prog_16_method_3_code_101) rfl rfl q) ?_
      show WGo _ _ _ _ _ _ _ _ T83 (mkF m 103 #[.val (.ref a1), .val (.ref a2), .val (.int p3), .val (.ref aC), .val (.ref aR), .val (.ref a1), .val (.int (4 : Int32)), .val (.int (2 : Int32)), .val (.int i1)] [(.ref a1)])
      refine WGo.st (fun _ q => XS.iload S85.here hx rfl (hb hby d_prog_16_method_3_code_103) rfl q) ?_
      show WGo _ _ _ _ _ _ _ _ T83 (mkF m 105 #[.val (.ref a1), .val (.ref a2), .val (.int p3), .val (.ref aC), .val (.ref aR), .val (.ref a1), .val (.int (4 : Int32)), .val (.int (2 : Int32)), .val (.int i1)] [(.int (2 : Int32)), (.ref a1)])
      refine w_iaload S85 f89 rfl (hb hby d_prog_16_method_3_code_105) rfl (by decide) (by decide : (2 : Int32).toInt < ((4 : Nat) : Int)) rfl ?_
      show WGo _ _ _ _ _ _ _ _ T83 (mkF m 106 #[.val (.ref a1), .val (.ref a2), .val (.int p3), .val (.ref aC), .val (.ref aR), .val (.ref a1), .val (.int (4 : Int32)), .val (.int (2 : Int32)), .val (.int i1)] [(.int i2)])
      refine WGo.st (fun _ q => XS.istore S85.here hx rfl (hb hby d_prog_16_method_3_code_106) rfl (l' := #[.val (.ref a1), .val (.ref a2), .val (.int p3), .val (.ref aC), .val (.ref aR), .val (.ref a1), .val (.int (4 : Int32)), .val (.int (2 : Int32)), .val (.int i2)]) rfl q) ?_
      show WGo _ _ _ _ _ _ _ _ T83 (mkF m 108 #[.val (.ref a1), .val (.ref a2), .val (.int p3), .val (.ref aC), .val (.ref aR), .val (.ref a1), .val (.int (4 : Int32)), .val (.int (2 : Int32)), .val (.int i2)] [])
      refine WGo.st (fun _ q => XS.aload S85.here hx rfl (hb hby d_prog_16_method_3_code_108) rfl rfl q) ?_
      show WGo _ _ _ _ _ _ _ _ T83 (mkF m 110 #[.val (.ref a1), .val (.ref a2), .val (.int p3), .val (.ref aC), .val (.ref aR), .val (.ref a1), .val (.int (4 : Int32)), .val (.int (2 : Int32)), .val (.int i2)] [(.ref aR)])
      refine WGo.st (fun _ q => XS.aloadN S85.here hx rfl (hb hby d_prog_16_method_3_code_110) rfl rfl q) ?_
      show WGo _ _ _ _ _ _ _ _ T83 (mkF m 111 #[.val (.ref a1), .val (.ref a2), .val (.int p3), .val (.ref aC), .val (.ref aR), .val (.ref a1), .val (.int (4 : Int32)), .val (.int (2 : Int32)), .val (.int i2)] [(.ref aC), (.ref aR)])
      refine WGo.st (fun _ q => XS.aloadN S85.here hx rfl (hb hby d_prog_16_method_3_code_111) rfl rfl q) ?_
      show WGo _ _ _ _ _ _ _ _ T83 (mkF m 112 #[.val (.ref a1), .val (.ref a2), .val (.int p3), .val (.ref aC), .val (.ref aR), .val (.ref a1), .val (.int (4 : Int32)), .val (.int (2 : Int32)), .val (.int i2)] [(.ref a2), (.ref aC), (.ref aR)])
      refine WGo.st (fun _ q => XS.iload S85.here hx rfl (hb hby d_prog_16_method_3_code_112) rfl q) ?_
      show WGo _ _ _ _ _ _ _ _ T83 (mkF m 114 #[.val (.ref a1), .val (.ref a2), .val (.int p3), .val (.ref aC), .val (.ref aR), .val (.ref a1), .val (.int (4 : Int32)), .val (.int (2 : Int32)), .val (.int i2)] [(.int i2), (.ref a2), (.ref aC), (.ref aR)])
      refine w_iaload S85 f90 rfl (hb hby d_prog_16_method_3_code_114) rfl hi2.1 (by rw [hlK]; exact hi2.2) hg2 ?_
      show WGo _ _ _ _ _ _ _ _ T83 (mkF m 115 #[.val (.ref a1), .val (.ref a2), .val (.int p3), .val (.ref aC), .val (.ref aR), .val (.ref a1), .val (.int (4 : Int32)), .val (.int (2 : Int32)), .val (.int i2)] [(.int k2), (.ref aC), (.ref aR)])
      refine WGo.st (fun _ q => Jvm.Free.XT.dup2 S85.here hx rfl (hb hby d_prog_16_method_3_code_115) rfl rfl rfl q) ?_
      show WGo _ _ _ _ _ _ _ _ T83 (mkF m 116 #[.val (.ref a1), .val (.ref a2), .val (.int p3), .val (.ref aC), .val (.ref aR), .val (.ref a1), .val (.int (4 : Int32)), .val (.int (2 : Int32)), .val (.int i2)] [(.int k2), (.ref aC), (.int k2), (.ref aC), (.ref aR)])
      have hp2 : gi D2 k2 = (r2F k0 k1 k2 k3) := by
        rw [hw2 _ hk2.1 (by omega), hw1 _ hk2.1 (by omega), hu0 _ hk2.1 (by omega)]
        exact pos2 k0 k1 k2 k3
      refine w_iaload S85 f91 rfl (hb hby d_prog_16_method_3_code_116) rfl hk2.1 (by omega) hp2 ?_
      show WGo _ _ _ _ _ _ _ _ T83 (mkF m 117 #[.val (.ref a1), .val (.ref a2), .val (.int p3), .val (.ref aC), .val (.ref aR), .val (.ref a1), .val (.int (4 : Int32)), .val (.int (2 : Int32)), .val (.int i2)] [(.int (r2F k0 k1 k2 k3)), (.int k2), (.ref aC), (.ref aR)])
      refine WGo.st (fun _ q => w_dupX2 S85.here hx rfl (hb hby d_prog_16_method_3_code_117) rfl rfl rfl rfl q) ?_
      show WGo _ _ _ _ _ _ _ _ T83 (mkF m 118 #[.val (.ref a1), .val (.ref a2), .val (.int p3), .val (.ref aC), .val (.ref aR), .val (.ref a1), .val (.int (4 : Int32)), .val (.int (2 : Int32)), .val (.int i2)] [(.int (r2F k0 k1 k2 k3)), (.int k2), (.ref aC), (.int (r2F k0 k1 k2 k3)), (.ref aR)])
      refine WGo.st (fun _ q => XS.iconst S85.here hx rfl (hb hby d_prog_16_method_3_code_118) q) ?_
      show WGo _ _ _ _ _ _ _ _ T83 (mkF m 119 #[.val (.ref a1), .val (.ref a2), .val (.int p3), .val (.ref aC), .val (.ref aR), .val (.ref a1), .val (.int (4 : Int32)), .val (.int (2 : Int32)), .val (.int i2)] [(.int (1 : Int32)), (.int (r2F k0 k1 k2 k3)), (.int k2), (.ref aC), (.int (r2F k0 k1 k2 k3)), (.ref aR)])
      refine WGo.st (fun _ q => XS.iadd S85.here hx rfl (hb hby d_prog_16_method_3_code_119) rfl q) ?_
      show WGo _ _ _ _ _ _ _ _ T83 (mkF m 120 #[.val (.ref a1), .val (.ref a2), .val (.int p3), .val (.ref aC), .val (.ref aR), .val (.ref a1), .val (.int (4 : Int32)), .val (.int (2 : Int32)), .val (.int i2)] [(.int ((r2F k0 k1 k2 k3) + (1 : Int32))), (.int k2), (.ref aC), (.int (r2F k0 k1 k2 k3)), (.ref aR)])
      refine w_iastore S85 f91 g_aC rfl (hb hby d_prog_16_method_3_code_120) rfl hk2.1 (by omega) (L' := (si D2 k2 ((r2F k0 k1 k2 k3) + (1 : Int32)))) rfl ?_
      intro T92 h93 S94 K95 A96
      have P97 := Keep.trans P88 K95 (allS (Or.inr N_aC) all0)
      have f98 := AI.keep f89 K95 (ninS n_a1_aC nin0)
      have f99 := AI.keep f90 K95 (ninS n_a2_aC nin0)
      have f100 := AI.keep A87 K95 (ninS (Ne.symm n_aC_aR) nin0)
      show WGo _ _ _ _ _ _ _ _ T92 (mkF m 121 #[.val (.ref a1), .val (.ref a2), .val (.int p3), .val (.ref aC), .val (.ref aR), .val (.ref a1), .val (.int (4 : Int32)), .val (.int (2 : Int32)), .val (.int i2)] [(.int (r2F k0 k1 k2 k3)), (.ref aR)])
      obtain ⟨D3, eD3⟩ : ∃ C, C = (si D2 k2 ((r2F k0 k1 k2 k3) + (1 : Int32))) := ⟨_, rfl⟩
      rw [← eD3] at A96
      have hm3 : (D3.length : Int) = p3.toInt + 1 := by rw [eD3, si_len]; exact hm2
      have hw3 : ∀ y : Int32, 0 ≤ y.toInt → y.toInt ≤ p3.toInt → gi D3 y = gi D2 y + ind (k2 = y) := fun y hy _ => by rw [eD3, ← hp2]; exact cnt_step hk2.1 (by omega) y hy
      refine WGo.st (fun _ q => XS.iload S94.here hx rfl (hb hby d_prog_16_method_3_code_121) rfl q) ?_
      show WGo _ _ _ _ _ _ _ _ T92 (mkF m 123 #[.val (.ref a1), .val (.ref a2), .val (.int p3), .val (.ref aC), .val (.ref aR), .val (.ref a1), .val (.int (4 : Int32)), .val (.int (2 : Int32)), .val (.int i2)] [(.int i2), (.int (r2F k0 k1 k2 k3)), (.ref aR)])
      refine w_iastore S94 f100 g_aR rfl (hb hby d_prog_16_method_3_code_123) rfl (r2_rng k0 k1 k2 k3).1 (by rw [si_len, si_len]; exact (r2_rng k0 k1 k2 k3).2) (L' := (si (si (si [(0 : Int32), (0 : Int32), (0 : Int32), (0 : Int32)] (r0F k0 k1 k2 k3) i0) (r1F k0 k1 k2 k3) i1) (r2F k0 k1 k2 k3) i2)) rfl ?_
      intro T101 h102 S103 K104 A105
      have P106 := Keep.trans P97 K104 (allS (Or.inr N_aR) all0)
      have f107 := AI.keep f98 K104 (ninS n_a1_aR nin0)
      have f108 := AI.keep f99 K104 (ninS n_a2_aR nin0)
      have f109 := AI.keep A96 K104 (ninS n_aC_aR nin0)
      show WGo _ _ _ _ _ _ _ _ T101 (mkF m 124 #[.val (.ref a1), .val (.ref a2), .val (.int p3), .val (.ref aC), .val (.ref aR), .val (.ref a1), .val (.int (4 : Int32)), .val (.int (2 : Int32)), .val (.int i2)] [])
      refine WGo.st (fun _ q => XS.iinc S103.here hx rfl (hb hby d_prog_16_method_3_code_124) rfl (l' := #[.val (.ref a1), .val (.ref a2), .val (.int p3), .val (.ref aC), .val (.ref aR), .val (.ref a1), .val (.int (4 : Int32)), .val (.int (3 : Int32)), .val (.int i2)]) rfl q) ?_
      show WGo _ _ _ _ _ _ _ _ T101 (mkF m 127 #[.val (.ref a1), .val (.ref a2), .val (.int p3), .val (.ref aC), .val (.ref aR), .val (.ref a1), .val (.int (4 : Int32)), .val (.int (3 : Int32)), .val (.int i2)] [])
      refine WGo.st (fun _ q => XS.goto S103.here hx rfl (pc0 := 127) (pc' := 94) rfl (hb hby d_prog_16_method_3_code_127) (by decide) (by decide) q) ?_
      show WGo _ _ _ _ _ _ _ _ T101 (mkF m 94 #[.val (.ref a1), .val (.ref a2), .val (.int p3), .val (.ref aC), .val (.ref aR), .val (.ref a1), .val (.int (4 : Int32)), .val (.int (3 : Int32)), .val (.int i2)] [])
      refine WGo.st (fun _ q => XS.iload S103.here hx rfl (hb hby d_prog_16_method_3_code_94) rfl q) ?_
      show WGo _ _ _ _ _ _ _ _ T101 (mkF m 96 #[.val (.ref a1), .val (.ref a2), .val (.int p3), .val (.ref aC), .val (.ref aR), .val (.ref a1), .val (.int (4 : Int32)), .val (.int (3 : Int32)), .val (.int i2)] [(.int (3 : Int32))])
      refine WGo.st (fun _ q => XS.iload S103.here hx rfl (hb hby d_prog_16_method_3_code_96) rfl q) ?_
      show WGo _ _ _ _ _ _ _ _ T101 (mkF m 98 #[.val (.ref a1), .val (.ref a2), .val (.int p3), .val (.ref aC), .val (.ref aR), .val (.ref a1), .val (.int (4 : Int32)), .val (.int (3 : Int32)), .val (.int i2)] [(.int (4 : Int32)), (.int (3 : Int32))])
      refine WGo.st (fun _ q => XS.icmpNo S103.here hx rfl (hb hby d_prog_16_method_3_code_98) rfl (tlt (by decide : ((3 : Int32) < (4 : Int32)))).2.1 q) ?_
      show WGo _ _ _ _ _ _ _ _ T101 (mkF m 101 #[.val (.ref a1), .val (.ref a2), .val (.int p3), .val (.ref aC), .val (.ref aR), .val (.ref a1), .val (.int (4 : Int32)), .val (.int (3 : Int32)), .val (.int i2)] [])
      refine WGo.st (fun _ q => XS.aload S103.here hx rfl (hb hby d_prog_16_method_3_code_101) rfl rfl q) ?_
      show WGo _ _ _ _ _ _ _ _ T101 (mkF m 103 #[.val (.ref a1), .val (.ref a2), .val (.int p3), .val (.ref aC), .val (.ref aR), .val (.ref a1), .val (.int (4 : Int32)), .val (.int (3 : Int32)), .val (.int i2)] [(.ref a1)])
      refine WGo.st (fun _ q => XS.iload S103.here hx rfl (hb hby d_prog_16_method_3_code_103) rfl q) ?_
      show WGo _ _ _ _ _ _ _ _ T101 (mkF m 105 #[.val (.ref a1), .val (.ref a2), .val (.int p3), .val (.ref aC), .val (.ref aR), .val (.ref a1), .val (.int (4 : Int32)), .val (.int (3 : Int32)), .val (.int i2)] [(.int (3 : Int32)), (.ref a1)])
      refine w_iaload S103 f107 rfl (hb hby d_prog_16_method_3_code_105) rfl (by decide) (by decide : (3 : Int32).toInt < ((4 : Nat) : Int)) rfl ?_
      show WGo _ _ _ _ _ _ _ _ T101 (mkF m 106 #[.val (.ref a1), .val (.ref a2), .val (.int p3), .val (.ref aC), .val (.ref aR), .val (.ref a1), .val (.int (4 : Int32)), .val (.int (3 : Int32)), .val (.int i2)] [(.int i3)])
      refine WGo.st (fun _ q => XS.istore S103.here hx rfl (hb hby d_prog_16_method_3_code_106) rfl (l' := #[.val (.ref a1), .val (.ref a2), .val (.int p3), .val (.ref aC), .val (.ref aR), .val (.ref a1), .val (.int (4 : Int32)), .val (.int (3 : Int32)), .val (.int i3)]) rfl q) ?_
      show WGo _ _ _ _ _ _ _ _ T101 (mkF m 108 #[.val (.ref a1), .val (.ref a2), .val (.int p3), .val (.ref aC), .val (.ref aR), .val (.ref a1), .val (.int (4 : Int32)), .val (.int (3 : Int32)), .val (.int i3)] [])
      refine WGo.st (fun _ q => XS.aload S103.here hx rfl (hb hby d_prog_16_method_3_code_108) rfl rfl q) ?_
      show WGo _ _ _ _ _ _ _ _ T101 (mkF m 110 #[.val (.ref a1), .val (.ref a2), .val (.int p3), .val (.ref aC), .val (.ref aR), .val (.ref a1), .val (.int (4 : Int32)), .val (.int (3 : Int32)), .val (.int i3)] [(.ref aR)])
      refine WGo.st (fun _ q => XS.aloadN S103.here hx rfl (hb hby d_prog_16_method_3_code_110) rfl rfl q) ?_
      show WGo _ _ _ _ _ _ _ _ T101 (mkF m 111 #[.val (.ref a1), .val (.ref a2), .val (.int p3), .val (.ref aC), .val (.ref aR), .val (.ref a1), .val (.int (4 : Int32)), .val (.int (3 : Int32)), .val (.int i3)] [(.ref aC), (.ref aR)])
      refine WGo.st (fun _ q => XS.aloadN S103.here hx rfl (hb hby d_prog_16_method_3_code_111) rfl rfl q) ?_
      show WGo _ _ _ _ _ _ _ _ T101 (mkF m 112 #[.val (.ref a1), .val (.ref a2), .val (.int p3), .val (.ref aC), .val (.ref aR), .val (.ref a1), .val (.int (4 : Int32)), .val (.int (3 : Int32)), .val (.int i3)] [(.ref a2), (.ref aC), (.ref aR)])
      refine WGo.st (fun _ q => XS.iload S103.here hx rfl (hb hby d_prog_16_method_3_code_112) rfl q) ?_
      show WGo _ _ _ _ _ _ _ _ T101 (mkF m 114 #[.val (.ref a1), .val (.ref a2), .val (.int p3), .val (.ref aC), .val (.ref aR), .val (.ref a1), .val (.int (4 : Int32)), .val (.int (3 : Int32)), .val (.int i3)] [(.int i3), (.ref a2), (.ref aC), (.ref aR)])
      refine w_iaload S103 f108 rfl (hb hby d_prog_16_method_3_code_114) rfl hi3.1 (by rw [hlK]; exact hi3.2) hg3 ?_
      show WGo _ _ _ _ _ _ _ _ T101 (mkF m 115 #[.val (.ref a1), .val (.ref a2), .val (.int p3), .val (.ref aC), .val (.ref aR), .val (.ref a1), .val (.int (4 : Int32)), .val (.int (3 : Int32)), .val (.int i3)] [(.int k3), (.ref aC), (.ref aR)])
      refine WGo.st (fun _ q => Jvm.Free.XT.dup2 S103.here hx rfl (hb hby d_prog_16_method_3_code_115) rfl rfl rfl q) ?_
      show WGo _ _ _ _ _ _ _ _ T101 (mkF m 116 #[.val (.ref a1), .val (.ref a2), .val (.int p3), .val (.ref aC), .val (.ref aR), .val (.ref a1), .val (.int (4 : Int32)), .val (.int (3 : Int32)), .val (.int i3)] [(.int k3), (.ref aC), (.int k3), (.ref aC), (.ref aR)])
      have hp3 : gi D3 k3 = (r3F k0 k1 k2 k3) := by
        rw [hw3 _ hk3.1 (by omega), hw2 _ hk3.1 (by omega), hw1 _ hk3.1 (by omega), hu0 _ hk3.1 (by omega)]
        exact pos3 k0 k1 k2 k3
      refine w_iaload S103 f109 rfl (hb hby d_prog_16_method_3_code_116) rfl hk3.1 (by omega) hp3 ?_
      show WGo _ _ _ _ _ _ _ _ T101 (mkF m 117 #[.val (.ref a1), .val (.ref a2), .val (.int p3), .val (.ref aC), .val (.ref aR), .val (.ref a1), .val (.int (4 : Int32)), .val (.int (3 : Int32)), .val (.int i3)] [(.int (r3F k0 k1 k2 k3)), (.int k3), (.ref aC), (.ref aR)])
      refine WGo.st (fun _ q => w_dupX2 S103.here hx rfl (hb hby d_prog_16_method_3_code_117) rfl rfl rfl rfl q) ?_
      show WGo _ _ _ _ _ _ _ _ T101 (mkF m 118 #[.val (.ref a1), .val (.ref a2), .val (.int p3), .val (.ref aC), .val (.ref aR), .val (.ref a1), .val (.int (4 : Int32)), .val (.int (3 : Int32)), .val (.int i3)] [(.int (r3F k0 k1 k2 k3)), (.int k3), (.ref aC), (.int (r3F k0 k1 k2 k3)), (.ref aR)])
      refine WGo.st (fun _ q => XS.iconst S103.here hx rfl (hb hby d_prog_16_method_3_code_118) q) ?_
      show WGo _ _ _ _ _ _ _ _ T101 (mkF m 119 #[.val (.ref a1), .val (.ref a2), .val (.int p3), .val (.ref aC), .val (.ref aR), .val (.ref a1), .val (.int (4 : Int32)), .val (.int (3 : Int32)), .val (.int i3)] [(.int (1 : Int32)), (.int (r3F k0 k1 k2 k3)), (.int k3), (.ref aC), (.int (r3F k0 k1 k2 k3)), (.ref aR)])
      refine WGo.st (fun _ q => XS.iadd S103.here hx rfl (hb hby d_prog_16_method_3_code_119) rfl q) ?_
      show WGo _ _ _ _ _ _ _ _ T101 (mkF m 120 #[.val (.ref a1), .val (.ref a2), .val (.int p3), .val (.ref aC), .val (.ref aR), .val (.ref a1), .val (.int (4 : Int32)), .val (.int (3 : Int32)), .val (.int i3)] [(.int ((r3F k0 k1 k2 k3) + (1 : Int32))), (.int k3), (.ref aC), (.int (r3F k0 k1 k2 k3)), (.ref aR)])
      refine w_iastore S103 f109 g_aC rfl (hb hby d_prog_16_method_3_code_120) rfl hk3.1 (by omega) (L' := (si D3 k3 ((r3F k0 k1 k2 k3) + (1 : Int32)))) rfl ?_
      intro T110 h111 S112 K113 A114
      have P115 := Keep.trans P106 K113 (allS (Or.inr N_aC) all0)
      have f116 := AI.keep f107 K113 (ninS n_a1_aC nin0)
      have f117 := AI.keep f108 K113 (ninS n_a2_aC nin0)
      have f118 := AI.keep A105 K113 (ninS (Ne.symm n_aC_aR) nin0)
      show WGo _ _ _ _ _ _ _ _ T110 (mkF m 121 #[.val (.ref a1), .val (.ref a2), .val (.int p3), .val (.ref aC), .val (.ref aR), .val (.ref a1), .val (.int (4 : Int32)), .val (.int (3 : Int32)), .val (.int i3)] [(.int (r3F k0 k1 k2 k3)), (.ref aR)])
      obtain ⟨D4, eD4⟩ : ∃ C, C = (si D3 k3 ((r3F k0 k1 k2 k3) + (1 : Int32))) := ⟨_, rfl⟩
      rw [← eD4] at A114
      have hm4 : (D4.length : Int) = p3.toInt + 1 := by rw [eD4, si_len]; exact hm3
      have hw4 : ∀ y : Int32, 0 ≤ y.toInt → y.toInt ≤ p3.toInt → gi D4 y = gi D3 y + ind (k3 = y) := fun y hy _ => by rw [eD4, ← hp3]; exact cnt_step hk3.1 (by omega) y hy
      refine WGo.st (fun _ q => XS.iload S112.here hx rfl (hb hby d_prog_16_method_3_code_121) rfl q) ?_
      show WGo _ _ _ _ _ _ _ _ T110 (mkF m 123 #[.val (.ref a1), .val (.ref a2), .val (.int p3), .val (.ref aC), .val (.ref aR), .val (.ref a1), .val (.int (4 : Int32)), .val (.int (3 : Int32)), .val (.int i3)] [(.int i3), (.int (r3F k0 k1 k2 k3)), (.ref aR)])
      refine w_iastore S112 f118 g_aR rfl (hb hby d_prog_16_method_3_code_123) rfl (r3_rng k0 k1 k2 k3).1 (by rw [si_len, si_len, si_len]; exact (r3_rng k0 k1 k2 k3).2) (L' := (si (si (si (si [(0 : Int32), (0 : Int32), (0 : Int32), (0 : Int32)] (r0F k0 k1 k2 k3) i0) (r1F k0 k1 k2 k3) i1) (r2F k0 k1 k2 k3) i2) (r3F k0 k1 k2 k3) i3)) rfl ?_
      intro T119 h120 S121 K122 A123
      have P124 := Keep.trans P115 K122 (allS (Or.inr N_aR) all0)
      have f125 := AI.keep f116 K122 (ninS n_a1_aR nin0)
      have f126 := AI.keep f117 K122 (ninS n_a2_aR nin0)
      have f127 := AI.keep A114 K122 (ninS n_aC_aR nin0)
      show WGo _ _ _ _ _ _ _ _ T119 (mkF m 124 #[.val (.ref a1), .val (.ref a2), .val (.int p3), .val (.ref aC), .val (.ref aR), .val (.ref a1), .val (.int (4 : Int32)), .val (.int (3 : Int32)), .val (.int i3)] [])
      refine WGo.st (fun _ q => XS.iinc S121.here hx rfl (hb hby d_prog_16_method_3_code_124) rfl (l' := #[.val (.ref a1), .val (.ref a2), .val (.int p3), .val (.ref aC), .val (.ref aR), .val (.ref a1), .val (.int (4 : Int32)), .val (.int (4 : Int32)), .val (.int i3)]) rfl q) ?_
      show WGo _ _ _ _ _ _ _ _ T119 (mkF m 127 #[.val (.ref a1), .val (.ref a2), .val (.int p3), .val (.ref aC), .val (.ref aR), .val (.ref a1), .val (.int (4 : Int32)), .val (.int (4 : Int32)), .val (.int i3)] [])
      refine WGo.st (fun _ q => XS.goto S121.here hx rfl (pc0 := 127) (pc' := 94) rfl (hb hby d_prog_16_method_3_code_127) (by decide) (by decide) q) ?_
      show WGo _ _ _ _ _ _ _ _ T119 (mkF m 94 #[.val (.ref a1), .val (.ref a2), .val (.int p3), .val (.ref aC), .val (.ref aR), .val (.ref a1), .val (.int (4 : Int32)), .val (.int (4 : Int32)), .val (.int i3)] [])
      refine WGo.st (fun _ q => XS.iload S121.here hx rfl (hb hby d_prog_16_method_3_code_94) rfl q) ?_
      show WGo _ _ _ _ _ _ _ _ T119 (mkF m 96 #[.val (.ref a1), .val (.ref a2), .val (.int p3), .val (.ref aC), .val (.ref aR), .val (.ref a1), .val (.int (4 : Int32)), .val (.int (4 : Int32)), .val (.int i3)] [(.int (4 : Int32))])
      refine WGo.st (fun _ q => XS.iload S121.here hx rfl (hb hby d_prog_16_method_3_code_96) rfl q) ?_
      show WGo _ _ _ _ _ _ _ _ T119 (mkF m 98 #[.val (.ref a1), .val (.ref a2), .val (.int p3), .val (.ref aC), .val (.ref aR), .val (.ref a1), .val (.int (4 : Int32)), .val (.int (4 : Int32)), .val (.int i3)] [(.int (4 : Int32)), (.int (4 : Int32))])
      refine WGo.st (fun _ q => XS.icmpYes S121.here hx rfl (pc0 := 98) (pc' := 130) rfl (hb hby d_prog_16_method_3_code_98) rfl (flt (by decide : ¬ ((4 : Int32) < (4 : Int32)))).2.1 (by decide) (by decide) q) ?_
      show WGo _ _ _ _ _ _ _ _ T119 (mkF m 130 #[.val (.ref a1), .val (.ref a2), .val (.int p3), .val (.ref aC), .val (.ref aR), .val (.ref a1), .val (.int (4 : Int32)), .val (.int (4 : Int32)), .val (.int i3)] [])
      refine WGo.st (fun _ q => XS.aload S121.here hx rfl (hb hby d_prog_16_method_3_code_130) rfl rfl q) ?_
      show WGo _ _ _ _ _ _ _ _ T119 (mkF m 132 #[.val (.ref a1), .val (.ref a2), .val (.int p3), .val (.ref aC), .val (.ref aR), .val (.ref a1), .val (.int (4 : Int32)), .val (.int (4 : Int32)), .val (.int i3)] [(.ref aR)])
      refine w_retA S121 hret rfl rfl (hb hby d_prog_16_method_3_code_132) (by decide) (by decide) ?_
      exact ⟨aR, rfl, P124, N_aR, g_aR, A123⟩
  refine loop _ T32 h33 (0 : Int32) C4 S34 P37 f38 f39 A36 hl4 ?_ ?_ (by decide) (by rw [show (0 : Int32).toInt = 0 from by decide]; omega) rfl
  · intro y y0 y1
    rw [show (0 : Int32).toInt = 0 from by decide] at y1
    rw [hv4 y y0, hv3 y y0, hv2 y y0, hv1 y y0, hv0 y y0, Int32.zero_add]
    exact cu_zero (by omega) (by omega) (by omega) (by omega) y (by omega)
  · intro y y0 y1
    rw [show (0 : Int32).toInt = 0 from by decide] at y0
    rw [hv4 y (by omega), hv3 y (by omega), hv2 y (by omega), hv1 y (by omega), hv0 y (by omega), Int32.zero_add]
    rfl
def Q0 (Z : State) (n0 : Nat) (h0 : Heap) (p1 : Int32) (p2 : Int32) (p3 : Int32) (p4 : Int32) (p5 : Int32) (p6 : Int32) (v : Option Value) (h : Heap) : Prop := v = some (.int 1)
theorem ef_0 (m : MethodId) (p1 : Int32) (p2 : Int32) (p3 : Int32) (p4 : Int32) (p5 : Int32) (p6 : Int32) : entryFrame m #[(.int p1), (.int p2), (.int p3), (.int p4), (.int p5), (.int p6)] maxLocals = mkF m 0 #[.val (.int p1), .val (.int p2), .val (.int p3), .val (.int p4), .val (.int p5), .val (.int p6), .unset, .unset, .unset, .unset, .unset, .unset, .unset, .unset, .unset, .unset, .unset, .unset, .unset, .unset, .unset, .unset, .unset] [] := by first | (simp [entryFrame, mkF, argsToLocals, Value.category, maxLocals]; done) | rfl
set_option maxRecDepth 65536 in
set_option maxHeartbeats 40000000 in
theorem rm_0 (l : Launch) (Z : State) (a0 : Array Value) (hw : ∀ d ∈ tables_1, d.before a0 Z = true) (n0 : Nat) (h0 : Heap) (p1 : Int32) (p2 : Int32) (p3 : Int32) (p4 : Int32) (p5 : Int32) (p6 : Int32) (Z0 : n0 ≤ h0.size)  :
    WCon l Z n0 h0 x code maxLocals ret tables_1 room_1 #[(.int p1), (.int p2), (.int p3), (.int p4), (.int p5), (.int p6)] (Q0 Z n0 h0 p1 p2 p3 p4 p5 p6) := by
  refine WCon.of (by first | exact plainFor_of_name (by decide +kernel) | decide +kernel) Z0 ?_
  intro p e s m below meth c T hx hZ hby hml hown hnm hret S
  refine WGo.cast (ef_0 m p1 p2 p3 p4 p5 p6) ?_
  show WGo _ _ _ _ _ _ _ _ T (mkF m 0 #[.val (.int p1), .val (.int p2), .val (.int p3), .val (.int p4), .val (.int p5), .val (.int p6), .unset, .unset, .unset, .unset, .unset, .unset, .unset, .unset, .unset, .unset, .unset, .unset, .unset, .unset, .unset, .unset, .unset] [])
  refine WGo.st (fun _ q => XS.iconst S.here hx rfl (hb hby at_0) q) ?_
  show WGo _ _ _ _ _ _ _ _ T (mkF m 1 #[.val (.int p1), .val (.int p2), .val (.int p3), .val (.int p4), .val (.int p5), .val (.int p6), .unset, .unset, .unset, .unset, .unset, .unset, .unset, .unset, .unset, .unset, .unset, .unset, .unset, .unset, .unset, .unset, .unset] [(.int (1 : Int32))])
  refine WGo.st (fun _ q => XS.iload S.here hx rfl (hb hby at_1) rfl q) ?_
  show WGo _ _ _ _ _ _ _ _ T (mkF m 3 #[.val (.int p1), .val (.int p2), .val (.int p3), .val (.int p4), .val (.int p5), .val (.int p6), .unset, .unset, .unset, .unset, .unset, .unset, .unset, .unset, .unset, .unset, .unset, .unset, .unset, .unset, .unset, .unset, .unset] [(.int p6), (.int (1 : Int32))])
  refine WGo.st (fun _ q => XS.bipush S.here hx rfl (hb hby at_3) q) ?_
  show WGo _ _ _ _ _ _ _ _ T (mkF m 5 #[.val (.int p1), .val (.int p2), .val (.int p3), .val (.int p4), .val (.int p5), .val (.int p6), .unset, .unset, .unset, .unset, .unset, .unset, .unset, .unset, .unset, .unset, .unset, .unset, .unset, .unset, .unset, .unset, .unset] [(.int (7 : Int32)), (.int p6), (.int (1 : Int32))])
  refine WGo.st (fun _ q => XS.iand S.here hx rfl (hb hby at_5) rfl q) ?_
  show WGo _ _ _ _ _ _ _ _ T (mkF m 6 #[.val (.int p1), .val (.int p2), .val (.int p3), .val (.int p4), .val (.int p5), .val (.int p6), .unset, .unset, .unset, .unset, .unset, .unset, .unset, .unset, .unset, .unset, .unset, .unset, .unset, .unset, .unset, .unset, .unset] [(.int (p6 &&& (7 : Int32))), (.int (1 : Int32))])
  refine WGo.st (fun _ q => XS.iadd S.here hx rfl (hb hby at_6) rfl q) ?_
  show WGo _ _ _ _ _ _ _ _ T (mkF m 7 #[.val (.int p1), .val (.int p2), .val (.int p3), .val (.int p4), .val (.int p5), .val (.int p6), .unset, .unset, .unset, .unset, .unset, .unset, .unset, .unset, .unset, .unset, .unset, .unset, .unset, .unset, .unset, .unset, .unset] [(.int ((1 : Int32) + (p6 &&& (7 : Int32))))])
  refine WGo.st (fun _ q => XS.istore S.here hx rfl (hb hby at_7) rfl (l' := #[.val (.int p1), .val (.int p2), .val (.int p3), .val (.int p4), .val (.int p5), .val (.int p6), .val (.int ((1 : Int32) + (p6 &&& (7 : Int32)))), .unset, .unset, .unset, .unset, .unset, .unset, .unset, .unset, .unset, .unset, .unset, .unset, .unset, .unset, .unset, .unset]) rfl q) ?_
  show WGo _ _ _ _ _ _ _ _ T (mkF m 9 #[.val (.int p1), .val (.int p2), .val (.int p3), .val (.int p4), .val (.int p5), .val (.int p6), .val (.int ((1 : Int32) + (p6 &&& (7 : Int32)))), .unset, .unset, .unset, .unset, .unset, .unset, .unset, .unset, .unset, .unset, .unset, .unset, .unset, .unset, .unset, .unset] [])
  generalize hv7 : ((1 : Int32) + (p6 &&& (7 : Int32))) = v7
  show WGo _ _ _ _ _ _ _ _ T (mkF m 9 #[.val (.int p1), .val (.int p2), .val (.int p3), .val (.int p4), .val (.int p5), .val (.int p6), .val (.int v7), .unset, .unset, .unset, .unset, .unset, .unset, .unset, .unset, .unset, .unset, .unset, .unset, .unset, .unset, .unset, .unset] [])
  have hR : 1 ≤ v7.toInt ∧ v7.toInt ≤ 8 := by have m := c_mask p6 7 3 (by decide) (by decide); have a := c_iadd 1 (p6 &&& 7); have z : (1 : Int32).toInt = 1 := (by decide); have r := rng32 (1 + (p6 &&& 7)); rw [← hv7]; omega
  have hnz : v7 ≠ 0 := fun q => by rw [q] at hR; exact absurd hR.1 (by decide)
  refine WGo.st (fun _ q => XS.iconst S.here hx rfl (hb hby at_9) q) ?_
  show WGo _ _ _ _ _ _ _ _ T (mkF m 10 #[.val (.int p1), .val (.int p2), .val (.int p3), .val (.int p4), .val (.int p5), .val (.int p6), .val (.int v7), .unset, .unset, .unset, .unset, .unset, .unset, .unset, .unset, .unset, .unset, .unset, .unset, .unset, .unset, .unset, .unset] [(.int (4 : Int32))])
  refine w_newarray S (hw _ (List.mem_of_getElem? (i := 0) rfl)) rfl rfl (hb hby at_10) rfl (by decide) (cap := 4) (by decide) (by decide) (by decide) (by decide) (L := [(0 : Int32), (0 : Int32), (0 : Int32), (0 : Int32)]) rfl ?_
  intro T1 h2 aK S3 K4 e_aK g_aK A_aK
  show WGo _ _ _ _ _ _ _ _ T1 (mkF m 12 #[.val (.int p1), .val (.int p2), .val (.int p3), .val (.int p4), .val (.int p5), .val (.int p6), .val (.int v7), .unset, .unset, .unset, .unset, .unset, .unset, .unset, .unset, .unset, .unset, .unset, .unset, .unset, .unset, .unset, .unset] [(.ref aK)])
  refine WGo.st (fun _ q => XS.astore S3.here hx rfl (hb hby at_12) rfl rfl (l' := #[.val (.int p1), .val (.int p2), .val (.int p3), .val (.int p4), .val (.int p5), .val (.int p6), .val (.int v7), .val (.ref aK), .unset, .unset, .unset, .unset, .unset, .unset, .unset, .unset, .unset, .unset, .unset, .unset, .unset, .unset, .unset]) rfl q) ?_
  show WGo _ _ _ _ _ _ _ _ T1 (mkF m 14 #[.val (.int p1), .val (.int p2), .val (.int p3), .val (.int p4), .val (.int p5), .val (.int p6), .val (.int v7), .val (.ref aK), .unset, .unset, .unset, .unset, .unset, .unset, .unset, .unset, .unset, .unset, .unset, .unset, .unset, .unset, .unset] [])
  refine WGo.st (fun _ q => XS.aload S3.here hx rfl (hb hby at_14) rfl rfl q) ?_
  show WGo _ _ _ _ _ _ _ _ T1 (mkF m 16 #[.val (.int p1), .val (.int p2), .val (.int p3), .val (.int p4), .val (.int p5), .val (.int p6), .val (.int v7), .val (.ref aK), .unset, .unset, .unset, .unset, .unset, .unset, .unset, .unset, .unset, .unset, .unset, .unset, .unset, .unset, .unset] [(.ref aK)])
  refine WGo.st (fun _ q => XS.iconst S3.here hx rfl (hb hby at_16) q) ?_
  show WGo _ _ _ _ _ _ _ _ T1 (mkF m 17 #[.val (.int p1), .val (.int p2), .val (.int p3), .val (.int p4), .val (.int p5), .val (.int p6), .val (.int v7), .val (.ref aK), .unset, .unset, .unset, .unset, .unset, .unset, .unset, .unset, .unset, .unset, .unset, .unset, .unset, .unset, .unset] [(.int (0 : Int32)), (.ref aK)])
  refine WGo.st (fun _ q => XS.iloadN S3.here hx rfl (hb hby at_17) rfl q) ?_
  show WGo _ _ _ _ _ _ _ _ T1 (mkF m 18 #[.val (.int p1), .val (.int p2), .val (.int p3), .val (.int p4), .val (.int p5), .val (.int p6), .val (.int v7), .val (.ref aK), .unset, .unset, .unset, .unset, .unset, .unset, .unset, .unset, .unset, .unset, .unset, .unset, .unset, .unset, .unset] [(.int p2), (.int (0 : Int32)), (.ref aK)])
  refine w_ldc S3 hown (hw _ (List.mem_of_getElem? (i := 1) rfl)) rfl (hb hby at_18) ?_
  show WGo _ _ _ _ _ _ _ _ T1 (mkF m 20 #[.val (.int p1), .val (.int p2), .val (.int p3), .val (.int p4), .val (.int p5), .val (.int p6), .val (.int v7), .val (.ref aK), .unset, .unset, .unset, .unset, .unset, .unset, .unset, .unset, .unset, .unset, .unset, .unset, .unset, .unset, .unset] [(.int (2147483647 : Int32)), (.int p2), (.int (0 : Int32)), (.ref aK)])
  refine WGo.st (fun _ q => XS.iand S3.here hx rfl (hb hby at_20) rfl q) ?_
  show WGo _ _ _ _ _ _ _ _ T1 (mkF m 21 #[.val (.int p1), .val (.int p2), .val (.int p3), .val (.int p4), .val (.int p5), .val (.int p6), .val (.int v7), .val (.ref aK), .unset, .unset, .unset, .unset, .unset, .unset, .unset, .unset, .unset, .unset, .unset, .unset, .unset, .unset, .unset] [(.int (p2 &&& (2147483647 : Int32))), (.int (0 : Int32)), (.ref aK)])
  refine WGo.st (fun _ q => XS.iload S3.here hx rfl (hb hby at_21) rfl q) ?_
  show WGo _ _ _ _ _ _ _ _ T1 (mkF m 23 #[.val (.int p1), .val (.int p2), .val (.int p3), .val (.int p4), .val (.int p5), .val (.int p6), .val (.int v7), .val (.ref aK), .unset, .unset, .unset, .unset, .unset, .unset, .unset, .unset, .unset, .unset, .unset, .unset, .unset, .unset, .unset] [(.int v7), (.int (p2 &&& (2147483647 : Int32))), (.int (0 : Int32)), (.ref aK)])
  refine w_irem S3 rfl (hb hby at_23) rfl hnz ?_
  show WGo _ _ _ _ _ _ _ _ T1 (mkF m 24 #[.val (.int p1), .val (.int p2), .val (.int p3), .val (.int p4), .val (.int p5), .val (.int p6), .val (.int v7), .val (.ref aK), .unset, .unset, .unset, .unset, .unset, .unset, .unset, .unset, .unset, .unset, .unset, .unset, .unset, .unset, .unset] [(.int ((p2 &&& (2147483647 : Int32)) % v7)), (.int (0 : Int32)), (.ref aK)])
  obtain ⟨q24, hq24⟩ : ∃ z, z = ((p2 &&& (2147483647 : Int32)) % v7) := ⟨_, rfl⟩
  rw [← hq24]
  have bq24 : 0 ≤ q24.toInt ∧ q24.toInt < v7.toInt := by rw [hq24]; exact rem_rng _ _ _ rfl (by omega)
  show WGo _ _ _ _ _ _ _ _ T1 (mkF m 24 #[.val (.int p1), .val (.int p2), .val (.int p3), .val (.int p4), .val (.int p5), .val (.int p6), .val (.int v7), .val (.ref aK), .unset, .unset, .unset, .unset, .unset, .unset, .unset, .unset, .unset, .unset, .unset, .unset, .unset, .unset, .unset] [(.int q24), (.int (0 : Int32)), (.ref aK)])
  refine w_iastore S3 A_aK g_aK rfl (hb hby at_24) rfl (by decide) (by decide : (0 : Int32).toInt < ((4 : Nat) : Int)) (L' := [q24, (0 : Int32), (0 : Int32), (0 : Int32)]) rfl ?_
  intro T5 h6 S7 K8 A9
  show WGo _ _ _ _ _ _ _ _ T5 (mkF m 25 #[.val (.int p1), .val (.int p2), .val (.int p3), .val (.int p4), .val (.int p5), .val (.int p6), .val (.int v7), .val (.ref aK), .unset, .unset, .unset, .unset, .unset, .unset, .unset, .unset, .unset, .unset, .unset, .unset, .unset, .unset, .unset] [])
  refine WGo.st (fun _ q => XS.aload S7.here hx rfl (hb hby at_25) rfl rfl q) ?_
  show WGo _ _ _ _ _ _ _ _ T5 (mkF m 27 #[.val (.int p1), .val (.int p2), .val (.int p3), .val (.int p4), .val (.int p5), .val (.int p6), .val (.int v7), .val (.ref aK), .unset, .unset, .unset, .unset, .unset, .unset, .unset, .unset, .unset, .unset, .unset, .unset, .unset, .unset, .unset] [(.ref aK)])
  refine WGo.st (fun _ q => XS.iconst S7.here hx rfl (hb hby at_27) q) ?_
  show WGo _ _ _ _ _ _ _ _ T5 (mkF m 28 #[.val (.int p1), .val (.int p2), .val (.int p3), .val (.int p4), .val (.int p5), .val (.int p6), .val (.int v7), .val (.ref aK), .unset, .unset, .unset, .unset, .unset, .unset, .unset, .unset, .unset, .unset, .unset, .unset, .unset, .unset, .unset] [(.int (1 : Int32)), (.ref aK)])
  refine WGo.st (fun _ q => XS.iloadN S7.here hx rfl (hb hby at_28) rfl q) ?_
  show WGo _ _ _ _ _ _ _ _ T5 (mkF m 29 #[.val (.int p1), .val (.int p2), .val (.int p3), .val (.int p4), .val (.int p5), .val (.int p6), .val (.int v7), .val (.ref aK), .unset, .unset, .unset, .unset, .unset, .unset, .unset, .unset, .unset, .unset, .unset, .unset, .unset, .unset, .unset] [(.int p3), (.int (1 : Int32)), (.ref aK)])
  refine w_ldc S7 hown (hw _ (List.mem_of_getElem? (i := 1) rfl)) rfl (hb hby at_29) ?_
  show WGo _ _ _ _ _ _ _ _ T5 (mkF m 31 #[.val (.int p1), .val (.int p2), .val (.int p3), .val (.int p4), .val (.int p5), .val (.int p6), .val (.int v7), .val (.ref aK), .unset, .unset, .unset, .unset, .unset, .unset, .unset, .unset, .unset, .unset, .unset, .unset, .unset, .unset, .unset] [(.int (2147483647 : Int32)), (.int p3), (.int (1 : Int32)), (.ref aK)])
  refine WGo.st (fun _ q => XS.iand S7.here hx rfl (hb hby at_31) rfl q) ?_
  show WGo _ _ _ _ _ _ _ _ T5 (mkF m 32 #[.val (.int p1), .val (.int p2), .val (.int p3), .val (.int p4), .val (.int p5), .val (.int p6), .val (.int v7), .val (.ref aK), .unset, .unset, .unset, .unset, .unset, .unset, .unset, .unset, .unset, .unset, .unset, .unset, .unset, .unset, .unset] [(.int (p3 &&& (2147483647 : Int32))), (.int (1 : Int32)), (.ref aK)])
  refine WGo.st (fun _ q => XS.iload S7.here hx rfl (hb hby at_32) rfl q) ?_
  show WGo _ _ _ _ _ _ _ _ T5 (mkF m 34 #[.val (.int p1), .val (.int p2), .val (.int p3), .val (.int p4), .val (.int p5), .val (.int p6), .val (.int v7), .val (.ref aK), .unset, .unset, .unset, .unset, .unset, .unset, .unset, .unset, .unset, .unset, .unset, .unset, .unset, .unset, .unset] [(.int v7), (.int (p3 &&& (2147483647 : Int32))), (.int (1 : Int32)), (.ref aK)])
  refine w_irem S7 rfl (hb hby at_34) rfl hnz ?_
  show WGo _ _ _ _ _ _ _ _ T5 (mkF m 35 #[.val (.int p1), .val (.int p2), .val (.int p3), .val (.int p4), .val (.int p5), .val (.int p6), .val (.int v7), .val (.ref aK), .unset, .unset, .unset, .unset, .unset, .unset, .unset, .unset, .unset, .unset, .unset, .unset, .unset, .unset, .unset] [(.int ((p3 &&& (2147483647 : Int32)) % v7)), (.int (1 : Int32)), (.ref aK)])
  obtain ⟨q35, hq35⟩ : ∃ z, z = ((p3 &&& (2147483647 : Int32)) % v7) := ⟨_, rfl⟩
  rw [← hq35]
  have bq35 : 0 ≤ q35.toInt ∧ q35.toInt < v7.toInt := by rw [hq35]; exact rem_rng _ _ _ rfl (by omega)
  show WGo _ _ _ _ _ _ _ _ T5 (mkF m 35 #[.val (.int p1), .val (.int p2), .val (.int p3), .val (.int p4), .val (.int p5), .val (.int p6), .val (.int v7), .val (.ref aK), .unset, .unset, .unset, .unset, .unset, .unset, .unset, .unset, .unset, .unset, .unset, .unset, .unset, .unset, .unset] [(.int q35), (.int (1 : Int32)), (.ref aK)])
  refine w_iastore S7 A9 g_aK rfl (hb hby at_35) rfl (by decide) (by decide : (1 : Int32).toInt < ((4 : Nat) : Int)) (L' := [q24, q35, (0 : Int32), (0 : Int32)]) rfl ?_
  intro T10 h11 S12 K13 A14
  show WGo _ _ _ _ _ _ _ _ T10 (mkF m 36 #[.val (.int p1), .val (.int p2), .val (.int p3), .val (.int p4), .val (.int p5), .val (.int p6), .val (.int v7), .val (.ref aK), .unset, .unset, .unset, .unset, .unset, .unset, .unset, .unset, .unset, .unset, .unset, .unset, .unset, .unset, .unset] [])
  refine WGo.st (fun _ q => XS.aload S12.here hx rfl (hb hby at_36) rfl rfl q) ?_
  show WGo _ _ _ _ _ _ _ _ T10 (mkF m 38 #[.val (.int p1), .val (.int p2), .val (.int p3), .val (.int p4), .val (.int p5), .val (.int p6), .val (.int v7), .val (.ref aK), .unset, .unset, .unset, .unset, .unset, .unset, .unset, .unset, .unset, .unset, .unset, .unset, .unset, .unset, .unset] [(.ref aK)])
  refine WGo.st (fun _ q => XS.iconst S12.here hx rfl (hb hby at_38) q) ?_
  show WGo _ _ _ _ _ _ _ _ T10 (mkF m 39 #[.val (.int p1), .val (.int p2), .val (.int p3), .val (.int p4), .val (.int p5), .val (.int p6), .val (.int v7), .val (.ref aK), .unset, .unset, .unset, .unset, .unset, .unset, .unset, .unset, .unset, .unset, .unset, .unset, .unset, .unset, .unset] [(.int (2 : Int32)), (.ref aK)])
  refine WGo.st (fun _ q => XS.iloadN S12.here hx rfl (hb hby at_39) rfl q) ?_
  show WGo _ _ _ _ _ _ _ _ T10 (mkF m 40 #[.val (.int p1), .val (.int p2), .val (.int p3), .val (.int p4), .val (.int p5), .val (.int p6), .val (.int v7), .val (.ref aK), .unset, .unset, .unset, .unset, .unset, .unset, .unset, .unset, .unset, .unset, .unset, .unset, .unset, .unset, .unset] [(.int p4), (.int (2 : Int32)), (.ref aK)])
  refine w_ldc S12 hown (hw _ (List.mem_of_getElem? (i := 1) rfl)) rfl (hb hby at_40) ?_
  show WGo _ _ _ _ _ _ _ _ T10 (mkF m 42 #[.val (.int p1), .val (.int p2), .val (.int p3), .val (.int p4), .val (.int p5), .val (.int p6), .val (.int v7), .val (.ref aK), .unset, .unset, .unset, .unset, .unset, .unset, .unset, .unset, .unset, .unset, .unset, .unset, .unset, .unset, .unset] [(.int (2147483647 : Int32)), (.int p4), (.int (2 : Int32)), (.ref aK)])
  refine WGo.st (fun _ q => XS.iand S12.here hx rfl (hb hby at_42) rfl q) ?_
  show WGo _ _ _ _ _ _ _ _ T10 (mkF m 43 #[.val (.int p1), .val (.int p2), .val (.int p3), .val (.int p4), .val (.int p5), .val (.int p6), .val (.int v7), .val (.ref aK), .unset, .unset, .unset, .unset, .unset, .unset, .unset, .unset, .unset, .unset, .unset, .unset, .unset, .unset, .unset] [(.int (p4 &&& (2147483647 : Int32))), (.int (2 : Int32)), (.ref aK)])
  refine WGo.st (fun _ q => XS.iload S12.here hx rfl (hb hby at_43) rfl q) ?_
  show WGo _ _ _ _ _ _ _ _ T10 (mkF m 45 #[.val (.int p1), .val (.int p2), .val (.int p3), .val (.int p4), .val (.int p5), .val (.int p6), .val (.int v7), .val (.ref aK), .unset, .unset, .unset, .unset, .unset, .unset, .unset, .unset, .unset, .unset, .unset, .unset, .unset, .unset, .unset] [(.int v7), (.int (p4 &&& (2147483647 : Int32))), (.int (2 : Int32)), (.ref aK)])
  refine w_irem S12 rfl (hb hby at_45) rfl hnz ?_
  show WGo _ _ _ _ _ _ _ _ T10 (mkF m 46 #[.val (.int p1), .val (.int p2), .val (.int p3), .val (.int p4), .val (.int p5), .val (.int p6), .val (.int v7), .val (.ref aK), .unset, .unset, .unset, .unset, .unset, .unset, .unset, .unset, .unset, .unset, .unset, .unset, .unset, .unset, .unset] [(.int ((p4 &&& (2147483647 : Int32)) % v7)), (.int (2 : Int32)), (.ref aK)])
  obtain ⟨q46, hq46⟩ : ∃ z, z = ((p4 &&& (2147483647 : Int32)) % v7) := ⟨_, rfl⟩
  rw [← hq46]
  have bq46 : 0 ≤ q46.toInt ∧ q46.toInt < v7.toInt := by rw [hq46]; exact rem_rng _ _ _ rfl (by omega)
  show WGo _ _ _ _ _ _ _ _ T10 (mkF m 46 #[.val (.int p1), .val (.int p2), .val (.int p3), .val (.int p4), .val (.int p5), .val (.int p6), .val (.int v7), .val (.ref aK), .unset, .unset, .unset, .unset, .unset, .unset, .unset, .unset, .unset, .unset, .unset, .unset, .unset, .unset, .unset] [(.int q46), (.int (2 : Int32)), (.ref aK)])
  refine w_iastore S12 A14 g_aK rfl (hb hby at_46) rfl (by decide) (by decide : (2 : Int32).toInt < ((4 : Nat) : Int)) (L' := [q24, q35, q46, (0 : Int32)]) rfl ?_
  intro T15 h16 S17 K18 A19
  show WGo _ _ _ _ _ _ _ _ T15 (mkF m 47 #[.val (.int p1), .val (.int p2), .val (.int p3), .val (.int p4), .val (.int p5), .val (.int p6), .val (.int v7), .val (.ref aK), .unset, .unset, .unset, .unset, .unset, .unset, .unset, .unset, .unset, .unset, .unset, .unset, .unset, .unset, .unset] [])
  refine WGo.st (fun _ q => XS.aload S17.here hx rfl (hb hby at_47) rfl rfl q) ?_
  show WGo _ _ _ _ _ _ _ _ T15 (mkF m 49 #[.val (.int p1), .val (.int p2), .val (.int p3), .val (.int p4), .val (.int p5), .val (.int p6), .val (.int v7), .val (.ref aK), .unset, .unset, .unset, .unset, .unset, .unset, .unset, .unset, .unset, .unset, .unset, .unset, .unset, .unset, .unset] [(.ref aK)])
  refine WGo.st (fun _ q => XS.iconst S17.here hx rfl (hb hby at_49) q) ?_
  show WGo _ _ _ _ _ _ _ _ T15 (mkF m 50 #[.val (.int p1), .val (.int p2), .val (.int p3), .val (.int p4), .val (.int p5), .val (.int p6), .val (.int v7), .val (.ref aK), .unset, .unset, .unset, .unset, .unset, .unset, .unset, .unset, .unset, .unset, .unset, .unset, .unset, .unset, .unset] [(.int (3 : Int32)), (.ref aK)])
  refine WGo.st (fun _ q => XS.iload S17.here hx rfl (hb hby at_50) rfl q) ?_
  show WGo _ _ _ _ _ _ _ _ T15 (mkF m 52 #[.val (.int p1), .val (.int p2), .val (.int p3), .val (.int p4), .val (.int p5), .val (.int p6), .val (.int v7), .val (.ref aK), .unset, .unset, .unset, .unset, .unset, .unset, .unset, .unset, .unset, .unset, .unset, .unset, .unset, .unset, .unset] [(.int p5), (.int (3 : Int32)), (.ref aK)])
  refine w_ldc S17 hown (hw _ (List.mem_of_getElem? (i := 1) rfl)) rfl (hb hby at_52) ?_
  show WGo _ _ _ _ _ _ _ _ T15 (mkF m 54 #[.val (.int p1), .val (.int p2), .val (.int p3), .val (.int p4), .val (.int p5), .val (.int p6), .val (.int v7), .val (.ref aK), .unset, .unset, .unset, .unset, .unset, .unset, .unset, .unset, .unset, .unset, .unset, .unset, .unset, .unset, .unset] [(.int (2147483647 : Int32)), (.int p5), (.int (3 : Int32)), (.ref aK)])
  refine WGo.st (fun _ q => XS.iand S17.here hx rfl (hb hby at_54) rfl q) ?_
  show WGo _ _ _ _ _ _ _ _ T15 (mkF m 55 #[.val (.int p1), .val (.int p2), .val (.int p3), .val (.int p4), .val (.int p5), .val (.int p6), .val (.int v7), .val (.ref aK), .unset, .unset, .unset, .unset, .unset, .unset, .unset, .unset, .unset, .unset, .unset, .unset, .unset, .unset, .unset] [(.int (p5 &&& (2147483647 : Int32))), (.int (3 : Int32)), (.ref aK)])
  refine WGo.st (fun _ q => XS.iload S17.here hx rfl (hb hby at_55) rfl q) ?_
  show WGo _ _ _ _ _ _ _ _ T15 (mkF m 57 #[.val (.int p1), .val (.int p2), .val (.int p3), .val (.int p4), .val (.int p5), .val (.int p6), .val (.int v7), .val (.ref aK), .unset, .unset, .unset, .unset, .unset, .unset, .unset, .unset, .unset, .unset, .unset, .unset, .unset, .unset, .unset] [(.int v7), (.int (p5 &&& (2147483647 : Int32))), (.int (3 : Int32)), (.ref aK)])
  refine w_irem S17 rfl (hb hby at_57) rfl hnz ?_
  show WGo _ _ _ _ _ _ _ _ T15 (mkF m 58 #[.val (.int p1), .val (.int p2), .val (.int p3), .val (.int p4), .val (.int p5), .val (.int p6), .val (.int v7), .val (.ref aK), .unset, .unset, .unset, .unset, .unset, .unset, .unset, .unset, .unset, .unset, .unset, .unset, .unset, .unset, .unset] [(.int ((p5 &&& (2147483647 : Int32)) % v7)), (.int (3 : Int32)), (.ref aK)])
  obtain ⟨q58, hq58⟩ : ∃ z, z = ((p5 &&& (2147483647 : Int32)) % v7) := ⟨_, rfl⟩
  rw [← hq58]
  have bq58 : 0 ≤ q58.toInt ∧ q58.toInt < v7.toInt := by rw [hq58]; exact rem_rng _ _ _ rfl (by omega)
  show WGo _ _ _ _ _ _ _ _ T15 (mkF m 58 #[.val (.int p1), .val (.int p2), .val (.int p3), .val (.int p4), .val (.int p5), .val (.int p6), .val (.int v7), .val (.ref aK), .unset, .unset, .unset, .unset, .unset, .unset, .unset, .unset, .unset, .unset, .unset, .unset, .unset, .unset, .unset] [(.int q58), (.int (3 : Int32)), (.ref aK)])
  refine w_iastore S17 A19 g_aK rfl (hb hby at_58) rfl (by decide) (by decide : (3 : Int32).toInt < ((4 : Nat) : Int)) (L' := [q24, q35, q46, q58]) rfl ?_
  intro T20 h21 S22 K23 A24
  show WGo _ _ _ _ _ _ _ _ T20 (mkF m 59 #[.val (.int p1), .val (.int p2), .val (.int p3), .val (.int p4), .val (.int p5), .val (.int p6), .val (.int v7), .val (.ref aK), .unset, .unset, .unset, .unset, .unset, .unset, .unset, .unset, .unset, .unset, .unset, .unset, .unset, .unset, .unset] [])
  refine WGo.st (fun _ q => XS.iloadN S22.here hx rfl (hb hby at_59) rfl q) ?_
  show WGo _ _ _ _ _ _ _ _ T20 (mkF m 60 #[.val (.int p1), .val (.int p2), .val (.int p3), .val (.int p4), .val (.int p5), .val (.int p6), .val (.int v7), .val (.ref aK), .unset, .unset, .unset, .unset, .unset, .unset, .unset, .unset, .unset, .unset, .unset, .unset, .unset, .unset, .unset] [(.int p1)])
  refine WGo.st (fun _ q => XS.iconst S22.here hx rfl (hb hby at_60) q) ?_
  show WGo _ _ _ _ _ _ _ _ T20 (mkF m 61 #[.val (.int p1), .val (.int p2), .val (.int p3), .val (.int p4), .val (.int p5), .val (.int p6), .val (.int v7), .val (.ref aK), .unset, .unset, .unset, .unset, .unset, .unset, .unset, .unset, .unset, .unset, .unset, .unset, .unset, .unset, .unset] [(.int (3 : Int32)), (.int p1)])
  refine WGo.st (fun _ q => XS.iand S22.here hx rfl (hb hby at_61) rfl q) ?_
  show WGo _ _ _ _ _ _ _ _ T20 (mkF m 62 #[.val (.int p1), .val (.int p2), .val (.int p3), .val (.int p4), .val (.int p5), .val (.int p6), .val (.int v7), .val (.ref aK), .unset, .unset, .unset, .unset, .unset, .unset, .unset, .unset, .unset, .unset, .unset, .unset, .unset, .unset, .unset] [(.int (p1 &&& (3 : Int32)))])
  refine WGo.st (fun _ q => XS.istore S22.here hx rfl (hb hby at_62) rfl (l' := #[.val (.int p1), .val (.int p2), .val (.int p3), .val (.int p4), .val (.int p5), .val (.int p6), .val (.int v7), .val (.ref aK), .val (.int (p1 &&& (3 : Int32))), .unset, .unset, .unset, .unset, .unset, .unset, .unset, .unset, .unset, .unset, .unset, .unset, .unset, .unset]) rfl q) ?_
  show WGo _ _ _ _ _ _ _ _ T20 (mkF m 64 #[.val (.int p1), .val (.int p2), .val (.int p3), .val (.int p4), .val (.int p5), .val (.int p6), .val (.int v7), .val (.ref aK), .val (.int (p1 &&& (3 : Int32))), .unset, .unset, .unset, .unset, .unset, .unset, .unset, .unset, .unset, .unset, .unset, .unset, .unset, .unset] [])
  generalize hv62 : (p1 &&& (3 : Int32)) = v62
  show WGo _ _ _ _ _ _ _ _ T20 (mkF m 64 #[.val (.int p1), .val (.int p2), .val (.int p3), .val (.int p4), .val (.int p5), .val (.int p6), .val (.int v7), .val (.ref aK), .val (.int v62), .unset, .unset, .unset, .unset, .unset, .unset, .unset, .unset, .unset, .unset, .unset, .unset, .unset, .unset] [])
  refine WGo.st (fun _ q => XS.iloadN S22.here hx rfl (hb hby at_64) rfl q) ?_
  show WGo _ _ _ _ _ _ _ _ T20 (mkF m 65 #[.val (.int p1), .val (.int p2), .val (.int p3), .val (.int p4), .val (.int p5), .val (.int p6), .val (.int v7), .val (.ref aK), .val (.int v62), .unset, .unset, .unset, .unset, .unset, .unset, .unset, .unset, .unset, .unset, .unset, .unset, .unset, .unset] [(.int p1)])
  refine WGo.st (fun _ q => XS.iconst S22.here hx rfl (hb hby at_65) q) ?_
  show WGo _ _ _ _ _ _ _ _ T20 (mkF m 66 #[.val (.int p1), .val (.int p2), .val (.int p3), .val (.int p4), .val (.int p5), .val (.int p6), .val (.int v7), .val (.ref aK), .val (.int v62), .unset, .unset, .unset, .unset, .unset, .unset, .unset, .unset, .unset, .unset, .unset, .unset, .unset, .unset] [(.int (2 : Int32)), (.int p1)])
  refine WGo.st (fun _ q => XS.iushr S22.here hx rfl (hb hby at_66) rfl q) ?_
  show WGo _ _ _ _ _ _ _ _ T20 (mkF m 67 #[.val (.int p1), .val (.int p2), .val (.int p3), .val (.int p4), .val (.int p5), .val (.int p6), .val (.int v7), .val (.ref aK), .val (.int v62), .unset, .unset, .unset, .unset, .unset, .unset, .unset, .unset, .unset, .unset, .unset, .unset, .unset, .unset] [(.int ((p1.toUInt32 >>> ((2 : Int32) &&& 31).toUInt32).toInt32))])
  refine WGo.st (fun _ q => XS.iconst S22.here hx rfl (hb hby at_67) q) ?_
  show WGo _ _ _ _ _ _ _ _ T20 (mkF m 68 #[.val (.int p1), .val (.int p2), .val (.int p3), .val (.int p4), .val (.int p5), .val (.int p6), .val (.int v7), .val (.ref aK), .val (.int v62), .unset, .unset, .unset, .unset, .unset, .unset, .unset, .unset, .unset, .unset, .unset, .unset, .unset, .unset] [(.int (3 : Int32)), (.int ((p1.toUInt32 >>> ((2 : Int32) &&& 31).toUInt32).toInt32))])
  refine WGo.st (fun _ q => XS.iand S22.here hx rfl (hb hby at_68) rfl q) ?_
  show WGo _ _ _ _ _ _ _ _ T20 (mkF m 69 #[.val (.int p1), .val (.int p2), .val (.int p3), .val (.int p4), .val (.int p5), .val (.int p6), .val (.int v7), .val (.ref aK), .val (.int v62), .unset, .unset, .unset, .unset, .unset, .unset, .unset, .unset, .unset, .unset, .unset, .unset, .unset, .unset] [(.int (((p1.toUInt32 >>> ((2 : Int32) &&& 31).toUInt32).toInt32) &&& (3 : Int32)))])
  refine WGo.st (fun _ q => XS.istore S22.here hx rfl (hb hby at_69) rfl (l' := #[.val (.int p1), .val (.int p2), .val (.int p3), .val (.int p4), .val (.int p5), .val (.int p6), .val (.int v7), .val (.ref aK), .val (.int v62), .val (.int (((p1.toUInt32 >>> ((2 : Int32) &&& 31).toUInt32).toInt32) &&& (3 : Int32))), .unset, .unset, .unset, .unset, .unset, .unset, .unset, .unset, .unset, .unset, .unset, .unset, .unset]) rfl q) ?_
  show WGo _ _ _ _ _ _ _ _ T20 (mkF m 71 #[.val (.int p1), .val (.int p2), .val (.int p3), .val (.int p4), .val (.int p5), .val (.int p6), .val (.int v7), .val (.ref aK), .val (.int v62), .val (.int (((p1.toUInt32 >>> ((2 : Int32) &&& 31).toUInt32).toInt32) &&& (3 : Int32))), .unset, .unset, .unset, .unset, .unset, .unset, .unset, .unset, .unset, .unset, .unset, .unset, .unset] [])
  generalize hv69 : (((p1.toUInt32 >>> ((2 : Int32) &&& 31).toUInt32).toInt32) &&& (3 : Int32)) = v69
  show WGo _ _ _ _ _ _ _ _ T20 (mkF m 71 #[.val (.int p1), .val (.int p2), .val (.int p3), .val (.int p4), .val (.int p5), .val (.int p6), .val (.int v7), .val (.ref aK), .val (.int v62), .val (.int v69), .unset, .unset, .unset, .unset, .unset, .unset, .unset, .unset, .unset, .unset, .unset, .unset, .unset] [])
  refine WGo.st (fun _ q => XS.iloadN S22.here hx rfl (hb hby at_71) rfl q) ?_
  show WGo _ _ _ _ _ _ _ _ T20 (mkF m 72 #[.val (.int p1), .val (.int p2), .val (.int p3), .val (.int p4), .val (.int p5), .val (.int p6), .val (.int v7), .val (.ref aK), .val (.int v62), .val (.int v69), .unset, .unset, .unset, .unset, .unset, .unset, .unset, .unset, .unset, .unset, .unset, .unset, .unset] [(.int p1)])
  refine WGo.st (fun _ q => XS.iconst S22.here hx rfl (hb hby at_72) q) ?_
  show WGo _ _ _ _ _ _ _ _ T20 (mkF m 73 #[.val (.int p1), .val (.int p2), .val (.int p3), .val (.int p4), .val (.int p5), .val (.int p6), .val (.int v7), .val (.ref aK), .val (.int v62), .val (.int v69), .unset, .unset, .unset, .unset, .unset, .unset, .unset, .unset, .unset, .unset, .unset, .unset, .unset] [(.int (4 : Int32)), (.int p1)])
  refine WGo.st (fun _ q => XS.iushr S22.here hx rfl (hb hby at_73) rfl q) ?_
  show WGo _ _ _ _ _ _ _ _ T20 (mkF m 74 #[.val (.int p1), .val (.int p2), .val (.int p3), .val (.int p4), .val (.int p5), .val (.int p6), .val (.int v7), .val (.ref aK), .val (.int v62), .val (.int v69), .unset, .unset, .unset, .unset, .unset, .unset, .unset, .unset, .unset, .unset, .unset, .unset, .unset] [(.int ((p1.toUInt32 >>> ((4 : Int32) &&& 31).toUInt32).toInt32))])
  refine WGo.st (fun _ q => XS.iconst S22.here hx rfl (hb hby at_74) q) ?_
  show WGo _ _ _ _ _ _ _ _ T20 (mkF m 75 #[.val (.int p1), .val (.int p2), .val (.int p3), .val (.int p4), .val (.int p5), .val (.int p6), .val (.int v7), .val (.ref aK), .val (.int v62), .val (.int v69), .unset, .unset, .unset, .unset, .unset, .unset, .unset, .unset, .unset, .unset, .unset, .unset, .unset] [(.int (3 : Int32)), (.int ((p1.toUInt32 >>> ((4 : Int32) &&& 31).toUInt32).toInt32))])
  refine WGo.st (fun _ q => XS.iand S22.here hx rfl (hb hby at_75) rfl q) ?_
  show WGo _ _ _ _ _ _ _ _ T20 (mkF m 76 #[.val (.int p1), .val (.int p2), .val (.int p3), .val (.int p4), .val (.int p5), .val (.int p6), .val (.int v7), .val (.ref aK), .val (.int v62), .val (.int v69), .unset, .unset, .unset, .unset, .unset, .unset, .unset, .unset, .unset, .unset, .unset, .unset, .unset] [(.int (((p1.toUInt32 >>> ((4 : Int32) &&& 31).toUInt32).toInt32) &&& (3 : Int32)))])
  refine WGo.st (fun _ q => XS.istore S22.here hx rfl (hb hby at_76) rfl (l' := #[.val (.int p1), .val (.int p2), .val (.int p3), .val (.int p4), .val (.int p5), .val (.int p6), .val (.int v7), .val (.ref aK), .val (.int v62), .val (.int v69), .val (.int (((p1.toUInt32 >>> ((4 : Int32) &&& 31).toUInt32).toInt32) &&& (3 : Int32))), .unset, .unset, .unset, .unset, .unset, .unset, .unset, .unset, .unset, .unset, .unset, .unset]) rfl q) ?_
  show WGo _ _ _ _ _ _ _ _ T20 (mkF m 78 #[.val (.int p1), .val (.int p2), .val (.int p3), .val (.int p4), .val (.int p5), .val (.int p6), .val (.int v7), .val (.ref aK), .val (.int v62), .val (.int v69), .val (.int (((p1.toUInt32 >>> ((4 : Int32) &&& 31).toUInt32).toInt32) &&& (3 : Int32))), .unset, .unset, .unset, .unset, .unset, .unset, .unset, .unset, .unset, .unset, .unset, .unset] [])
  generalize hv76 : (((p1.toUInt32 >>> ((4 : Int32) &&& 31).toUInt32).toInt32) &&& (3 : Int32)) = v76
  show WGo _ _ _ _ _ _ _ _ T20 (mkF m 78 #[.val (.int p1), .val (.int p2), .val (.int p3), .val (.int p4), .val (.int p5), .val (.int p6), .val (.int v7), .val (.ref aK), .val (.int v62), .val (.int v69), .val (.int v76), .unset, .unset, .unset, .unset, .unset, .unset, .unset, .unset, .unset, .unset, .unset, .unset] [])
  refine WGo.st (fun _ q => XS.iloadN S22.here hx rfl (hb hby at_78) rfl q) ?_
  show WGo _ _ _ _ _ _ _ _ T20 (mkF m 79 #[.val (.int p1), .val (.int p2), .val (.int p3), .val (.int p4), .val (.int p5), .val (.int p6), .val (.int v7), .val (.ref aK), .val (.int v62), .val (.int v69), .val (.int v76), .unset, .unset, .unset, .unset, .unset, .unset, .unset, .unset, .unset, .unset, .unset, .unset] [(.int p1)])
  refine WGo.st (fun _ q => XS.bipush S22.here hx rfl (hb hby at_79) q) ?_
  show WGo _ _ _ _ _ _ _ _ T20 (mkF m 81 #[.val (.int p1), .val (.int p2), .val (.int p3), .val (.int p4), .val (.int p5), .val (.int p6), .val (.int v7), .val (.ref aK), .val (.int v62), .val (.int v69), .val (.int v76), .unset, .unset, .unset, .unset, .unset, .unset, .unset, .unset, .unset, .unset, .unset, .unset] [(.int (6 : Int32)), (.int p1)])
  refine WGo.st (fun _ q => XS.iushr S22.here hx rfl (hb hby at_81) rfl q) ?_
  show WGo _ _ _ _ _ _ _ _ T20 (mkF m 82 #[.val (.int p1), .val (.int p2), .val (.int p3), .val (.int p4), .val (.int p5), .val (.int p6), .val (.int v7), .val (.ref aK), .val (.int v62), .val (.int v69), .val (.int v76), .unset, .unset, .unset, .unset, .unset, .unset, .unset, .unset, .unset, .unset, .unset, .unset] [(.int ((p1.toUInt32 >>> ((6 : Int32) &&& 31).toUInt32).toInt32))])
  refine WGo.st (fun _ q => XS.iconst S22.here hx rfl (hb hby at_82) q) ?_
  show WGo _ _ _ _ _ _ _ _ T20 (mkF m 83 #[.val (.int p1), .val (.int p2), .val (.int p3), .val (.int p4), .val (.int p5), .val (.int p6), .val (.int v7), .val (.ref aK), .val (.int v62), .val (.int v69), .val (.int v76), .unset, .unset, .unset, .unset, .unset, .unset, .unset, .unset, .unset, .unset, .unset, .unset] [(.int (3 : Int32)), (.int ((p1.toUInt32 >>> ((6 : Int32) &&& 31).toUInt32).toInt32))])
  refine WGo.st (fun _ q => XS.iand S22.here hx rfl (hb hby at_83) rfl q) ?_
  show WGo _ _ _ _ _ _ _ _ T20 (mkF m 84 #[.val (.int p1), .val (.int p2), .val (.int p3), .val (.int p4), .val (.int p5), .val (.int p6), .val (.int v7), .val (.ref aK), .val (.int v62), .val (.int v69), .val (.int v76), .unset, .unset, .unset, .unset, .unset, .unset, .unset, .unset, .unset, .unset, .unset, .unset] [(.int (((p1.toUInt32 >>> ((6 : Int32) &&& 31).toUInt32).toInt32) &&& (3 : Int32)))])
  refine WGo.st (fun _ q => XS.istore S22.here hx rfl (hb hby at_84) rfl (l' := #[.val (.int p1), .val (.int p2), .val (.int p3), .val (.int p4), .val (.int p5), .val (.int p6), .val (.int v7), .val (.ref aK), .val (.int v62), .val (.int v69), .val (.int v76), .val (.int (((p1.toUInt32 >>> ((6 : Int32) &&& 31).toUInt32).toInt32) &&& (3 : Int32))), .unset, .unset, .unset, .unset, .unset, .unset, .unset, .unset, .unset, .unset, .unset]) rfl q) ?_
  show WGo _ _ _ _ _ _ _ _ T20 (mkF m 86 #[.val (.int p1), .val (.int p2), .val (.int p3), .val (.int p4), .val (.int p5), .val (.int p6), .val (.int v7), .val (.ref aK), .val (.int v62), .val (.int v69), .val (.int v76), .val (.int (((p1.toUInt32 >>> ((6 : Int32) &&& 31).toUInt32).toInt32) &&& (3 : Int32))), .unset, .unset, .unset, .unset, .unset, .unset, .unset, .unset, .unset, .unset, .unset] [])
  generalize hv84 : (((p1.toUInt32 >>> ((6 : Int32) &&& 31).toUInt32).toInt32) &&& (3 : Int32)) = v84
  show WGo _ _ _ _ _ _ _ _ T20 (mkF m 86 #[.val (.int p1), .val (.int p2), .val (.int p3), .val (.int p4), .val (.int p5), .val (.int p6), .val (.int v7), .val (.ref aK), .val (.int v62), .val (.int v69), .val (.int v76), .val (.int v84), .unset, .unset, .unset, .unset, .unset, .unset, .unset, .unset, .unset, .unset, .unset] [])
  have bi0 : 0 ≤ v62.toInt ∧ v62.toInt < 4 := by rw [← hv62]; have m := c_mask (p1) 3 2 (by decide) (by decide); omega
  have bi1 : 0 ≤ v69.toInt ∧ v69.toInt < 4 := by rw [← hv69]; have m := c_mask ((p1.toUInt32 >>> ((2 : Int32) &&& 31).toUInt32).toInt32) 3 2 (by decide) (by decide); omega
  have bi2 : 0 ≤ v76.toInt ∧ v76.toInt < 4 := by rw [← hv76]; have m := c_mask ((p1.toUInt32 >>> ((4 : Int32) &&& 31).toUInt32).toInt32) 3 2 (by decide) (by decide); omega
  have bi3 : 0 ≤ v84.toInt ∧ v84.toInt < 4 := by rw [← hv84]; have m := c_mask ((p1.toUInt32 >>> ((6 : Int32) &&& 31).toUInt32).toInt32) 3 2 (by decide) (by decide); omega
  refine WGo.st (fun _ q => XS.iconst S22.here hx rfl (hb hby at_86) q) ?_
  show WGo _ _ _ _ _ _ _ _ T20 (mkF m 87 #[.val (.int p1), .val (.int p2), .val (.int p3), .val (.int p4), .val (.int p5), .val (.int p6), .val (.int v7), .val (.ref aK), .val (.int v62), .val (.int v69), .val (.int v76), .val (.int v84), .unset, .unset, .unset, .unset, .unset, .unset, .unset, .unset, .unset, .unset, .unset] [(.int (4 : Int32))])
  refine w_newarray S22 (hw _ (List.mem_of_getElem? (i := 0) rfl)) rfl rfl (hb hby at_87) rfl (by decide) (cap := 4) (by decide) (by decide) (by decide) (by decide) (L := [(0 : Int32), (0 : Int32), (0 : Int32), (0 : Int32)]) rfl ?_
  intro T25 h26 aI S27 K28 e_aI g_aI A_aI
  have n_aK_aI : aK ≠ aI := by rw [e_aI]; exact Nat.ne_of_lt A24.lt
  have f29 := AI.keep A24 K28 nin0
  show WGo _ _ _ _ _ _ _ _ T25 (mkF m 89 #[.val (.int p1), .val (.int p2), .val (.int p3), .val (.int p4), .val (.int p5), .val (.int p6), .val (.int v7), .val (.ref aK), .val (.int v62), .val (.int v69), .val (.int v76), .val (.int v84), .unset, .unset, .unset, .unset, .unset, .unset, .unset, .unset, .unset, .unset, .unset] [(.ref aI)])
  refine WGo.st (fun _ q => XS.astore S27.here hx rfl (hb hby at_89) rfl rfl (l' := #[.val (.int p1), .val (.int p2), .val (.int p3), .val (.int p4), .val (.int p5), .val (.int p6), .val (.int v7), .val (.ref aK), .val (.int v62), .val (.int v69), .val (.int v76), .val (.int v84), .val (.ref aI), .unset, .unset, .unset, .unset, .unset, .unset, .unset, .unset, .unset, .unset]) rfl q) ?_
  show WGo _ _ _ _ _ _ _ _ T25 (mkF m 91 #[.val (.int p1), .val (.int p2), .val (.int p3), .val (.int p4), .val (.int p5), .val (.int p6), .val (.int v7), .val (.ref aK), .val (.int v62), .val (.int v69), .val (.int v76), .val (.int v84), .val (.ref aI), .unset, .unset, .unset, .unset, .unset, .unset, .unset, .unset, .unset, .unset] [])
  refine WGo.st (fun _ q => XS.aload S27.here hx rfl (hb hby at_91) rfl rfl q) ?_
  show WGo _ _ _ _ _ _ _ _ T25 (mkF m 93 #[.val (.int p1), .val (.int p2), .val (.int p3), .val (.int p4), .val (.int p5), .val (.int p6), .val (.int v7), .val (.ref aK), .val (.int v62), .val (.int v69), .val (.int v76), .val (.int v84), .val (.ref aI), .unset, .unset, .unset, .unset, .unset, .unset, .unset, .unset, .unset, .unset] [(.ref aI)])
  refine WGo.st (fun _ q => XS.iconst S27.here hx rfl (hb hby at_93) q) ?_
  show WGo _ _ _ _ _ _ _ _ T25 (mkF m 94 #[.val (.int p1), .val (.int p2), .val (.int p3), .val (.int p4), .val (.int p5), .val (.int p6), .val (.int v7), .val (.ref aK), .val (.int v62), .val (.int v69), .val (.int v76), .val (.int v84), .val (.ref aI), .unset, .unset, .unset, .unset, .unset, .unset, .unset, .unset, .unset, .unset] [(.int (0 : Int32)), (.ref aI)])
  refine WGo.st (fun _ q => XS.iload S27.here hx rfl (hb hby at_94) rfl q) ?_
  show WGo _ _ _ _ _ _ _ _ T25 (mkF m 96 #[.val (.int p1), .val (.int p2), .val (.int p3), .val (.int p4), .val (.int p5), .val (.int p6), .val (.int v7), .val (.ref aK), .val (.int v62), .val (.int v69), .val (.int v76), .val (.int v84), .val (.ref aI), .unset, .unset, .unset, .unset, .unset, .unset, .unset, .unset, .unset, .unset] [(.int v62), (.int (0 : Int32)), (.ref aI)])
  refine w_iastore S27 A_aI g_aI rfl (hb hby at_96) rfl (by decide) (by decide : (0 : Int32).toInt < ((4 : Nat) : Int)) (L' := [v62, (0 : Int32), (0 : Int32), (0 : Int32)]) rfl ?_
  intro T30 h31 S32 K33 A34
  have f35 := AI.keep f29 K33 (ninS n_aK_aI nin0)
  show WGo _ _ _ _ _ _ _ _ T30 (mkF m 97 #[.val (.int p1), .val (.int p2), .val (.int p3), .val (.int p4), .val (.int p5), .val (.int p6), .val (.int v7), .val (.ref aK), .val (.int v62), .val (.int v69), .val (.int v76), .val (.int v84), .val (.ref aI), .unset, .unset, .unset, .unset, .unset, .unset, .unset, .unset, .unset, .unset] [])
  refine WGo.st (fun _ q => XS.aload S32.here hx rfl (hb hby at_97) rfl rfl q) ?_
  show WGo _ _ _ _ _ _ _ _ T30 (mkF m 99 #[.val (.int p1), .val (.int p2), .val (.int p3), .val (.int p4), .val (.int p5), .val (.int p6), .val (.int v7), .val (.ref aK), .val (.int v62), .val (.int v69), .val (.int v76), .val (.int v84), .val (.ref aI), .unset, .unset, .unset, .unset, .unset, .unset, .unset, .unset, .unset, .unset] [(.ref aI)])
  refine WGo.st (fun _ q => XS.iconst S32.here hx rfl (hb hby at_99) q) ?_
  show WGo _ _ _ _ _ _ _ _ T30 (mkF m 100 #[.val (.int p1), .val (.int p2), .val (.int p3), .val (.int p4), .val (.int p5), .val (.int p6), .val (.int v7), .val (.ref aK), .val (.int v62), .val (.int v69), .val (.int v76), .val (.int v84), .val (.ref aI), .unset, .unset, .unset, .unset, .unset, .unset, .unset, .unset, .unset, .unset] [(.int (1 : Int32)), (.ref aI)])
  refine WGo.st (fun _ q => XS.iload S32.here hx rfl (hb hby at_100) rfl q) ?_
  show WGo _ _ _ _ _ _ _ _ T30 (mkF m 102 #[.val (.int p1), .val (.int p2), .val (.int p3), .val (.int p4), .val (.int p5), .val (.int p6), .val (.int v7), .val (.ref aK), .val (.int v62), .val (.int v69), .val (.int v76), .val (.int v84), .val (.ref aI), .unset, .unset, .unset, .unset, .unset, .unset, .unset, .unset, .unset, .unset] [(.int v69), (.int (1 : Int32)), (.ref aI)])
  refine w_iastore S32 A34 g_aI rfl (hb hby at_102) rfl (by decide) (by decide : (1 : Int32).toInt < ((4 : Nat) : Int)) (L' := [v62, v69, (0 : Int32), (0 : Int32)]) rfl ?_
  intro T36 h37 S38 K39 A40
  have f41 := AI.keep f35 K39 (ninS n_aK_aI nin0)
  show WGo _ _ _ _ _ _ _ _ T36 (mkF m 103 #[.val (.int p1), .val (.int p2), .val (.int p3), .val (.int p4), .val (.int p5), .val (.int p6), .val (.int v7), .val (.ref aK), .val (.int v62), .val (.int v69), .val (.int v76), .val (.int v84), .val (.ref aI), .unset, .unset, .unset, .unset, .unset, .unset, .unset, .unset, .unset, .unset] [])
  refine WGo.st (fun _ q => XS.aload S38.here hx rfl (hb hby at_103) rfl rfl q) ?_
  show WGo _ _ _ _ _ _ _ _ T36 (mkF m 105 #[.val (.int p1), .val (.int p2), .val (.int p3), .val (.int p4), .val (.int p5), .val (.int p6), .val (.int v7), .val (.ref aK), .val (.int v62), .val (.int v69), .val (.int v76), .val (.int v84), .val (.ref aI), .unset, .unset, .unset, .unset, .unset, .unset, .unset, .unset, .unset, .unset] [(.ref aI)])
  refine WGo.st (fun _ q => XS.iconst S38.here hx rfl (hb hby at_105) q) ?_
  show WGo _ _ _ _ _ _ _ _ T36 (mkF m 106 #[.val (.int p1), .val (.int p2), .val (.int p3), .val (.int p4), .val (.int p5), .val (.int p6), .val (.int v7), .val (.ref aK), .val (.int v62), .val (.int v69), .val (.int v76), .val (.int v84), .val (.ref aI), .unset, .unset, .unset, .unset, .unset, .unset, .unset, .unset, .unset, .unset] [(.int (2 : Int32)), (.ref aI)])
  refine WGo.st (fun _ q => XS.iload S38.here hx rfl (hb hby at_106) rfl q) ?_
  show WGo _ _ _ _ _ _ _ _ T36 (mkF m 108 #[.val (.int p1), .val (.int p2), .val (.int p3), .val (.int p4), .val (.int p5), .val (.int p6), .val (.int v7), .val (.ref aK), .val (.int v62), .val (.int v69), .val (.int v76), .val (.int v84), .val (.ref aI), .unset, .unset, .unset, .unset, .unset, .unset, .unset, .unset, .unset, .unset] [(.int v76), (.int (2 : Int32)), (.ref aI)])
  refine w_iastore S38 A40 g_aI rfl (hb hby at_108) rfl (by decide) (by decide : (2 : Int32).toInt < ((4 : Nat) : Int)) (L' := [v62, v69, v76, (0 : Int32)]) rfl ?_
  intro T42 h43 S44 K45 A46
  have f47 := AI.keep f41 K45 (ninS n_aK_aI nin0)
  show WGo _ _ _ _ _ _ _ _ T42 (mkF m 109 #[.val (.int p1), .val (.int p2), .val (.int p3), .val (.int p4), .val (.int p5), .val (.int p6), .val (.int v7), .val (.ref aK), .val (.int v62), .val (.int v69), .val (.int v76), .val (.int v84), .val (.ref aI), .unset, .unset, .unset, .unset, .unset, .unset, .unset, .unset, .unset, .unset] [])
  refine WGo.st (fun _ q => XS.aload S44.here hx rfl (hb hby at_109) rfl rfl q) ?_
  show WGo _ _ _ _ _ _ _ _ T42 (mkF m 111 #[.val (.int p1), .val (.int p2), .val (.int p3), .val (.int p4), .val (.int p5), .val (.int p6), .val (.int v7), .val (.ref aK), .val (.int v62), .val (.int v69), .val (.int v76), .val (.int v84), .val (.ref aI), .unset, .unset, .unset, .unset, .unset, .unset, .unset, .unset, .unset, .unset] [(.ref aI)])
  refine WGo.st (fun _ q => XS.iconst S44.here hx rfl (hb hby at_111) q) ?_
  show WGo _ _ _ _ _ _ _ _ T42 (mkF m 112 #[.val (.int p1), .val (.int p2), .val (.int p3), .val (.int p4), .val (.int p5), .val (.int p6), .val (.int v7), .val (.ref aK), .val (.int v62), .val (.int v69), .val (.int v76), .val (.int v84), .val (.ref aI), .unset, .unset, .unset, .unset, .unset, .unset, .unset, .unset, .unset, .unset] [(.int (3 : Int32)), (.ref aI)])
  refine WGo.st (fun _ q => XS.iload S44.here hx rfl (hb hby at_112) rfl q) ?_
  show WGo _ _ _ _ _ _ _ _ T42 (mkF m 114 #[.val (.int p1), .val (.int p2), .val (.int p3), .val (.int p4), .val (.int p5), .val (.int p6), .val (.int v7), .val (.ref aK), .val (.int v62), .val (.int v69), .val (.int v76), .val (.int v84), .val (.ref aI), .unset, .unset, .unset, .unset, .unset, .unset, .unset, .unset, .unset, .unset] [(.int v84), (.int (3 : Int32)), (.ref aI)])
  refine w_iastore S44 A46 g_aI rfl (hb hby at_114) rfl (by decide) (by decide : (3 : Int32).toInt < ((4 : Nat) : Int)) (L' := [v62, v69, v76, v84]) rfl ?_
  intro T48 h49 S50 K51 A52
  have f53 := AI.keep f47 K51 (ninS n_aK_aI nin0)
  show WGo _ _ _ _ _ _ _ _ T48 (mkF m 115 #[.val (.int p1), .val (.int p2), .val (.int p3), .val (.int p4), .val (.int p5), .val (.int p6), .val (.int v7), .val (.ref aK), .val (.int v62), .val (.int v69), .val (.int v76), .val (.int v84), .val (.ref aI), .unset, .unset, .unset, .unset, .unset, .unset, .unset, .unset, .unset, .unset] [])
  refine WGo.st (fun _ q => XS.aload S50.here hx rfl (hb hby at_115) rfl rfl q) ?_
  show WGo _ _ _ _ _ _ _ _ T48 (mkF m 117 #[.val (.int p1), .val (.int p2), .val (.int p3), .val (.int p4), .val (.int p5), .val (.int p6), .val (.int v7), .val (.ref aK), .val (.int v62), .val (.int v69), .val (.int v76), .val (.int v84), .val (.ref aI), .unset, .unset, .unset, .unset, .unset, .unset, .unset, .unset, .unset, .unset] [(.ref aK)])
  refine WGo.st (fun _ q => XS.iload S50.here hx rfl (hb hby at_117) rfl q) ?_
  show WGo _ _ _ _ _ _ _ _ T48 (mkF m 119 #[.val (.int p1), .val (.int p2), .val (.int p3), .val (.int p4), .val (.int p5), .val (.int p6), .val (.int v7), .val (.ref aK), .val (.int v62), .val (.int v69), .val (.int v76), .val (.int v84), .val (.ref aI), .unset, .unset, .unset, .unset, .unset, .unset, .unset, .unset, .unset, .unset] [(.int v62), (.ref aK)])
  refine w_iaload S50 f53 rfl (hb hby at_119) rfl bi0.1 bi0.2 rfl ?_
  show WGo _ _ _ _ _ _ _ _ T48 (mkF m 120 #[.val (.int p1), .val (.int p2), .val (.int p3), .val (.int p4), .val (.int p5), .val (.int p6), .val (.int v7), .val (.ref aK), .val (.int v62), .val (.int v69), .val (.int v76), .val (.int v84), .val (.ref aI), .unset, .unset, .unset, .unset, .unset, .unset, .unset, .unset, .unset, .unset] [(.int (gi [q24, q35, q46, q58] v62))])
  refine WGo.st (fun _ q => XS.istore S50.here hx rfl (hb hby at_120) rfl (l' := #[.val (.int p1), .val (.int p2), .val (.int p3), .val (.int p4), .val (.int p5), .val (.int p6), .val (.int v7), .val (.ref aK), .val (.int v62), .val (.int v69), .val (.int v76), .val (.int v84), .val (.ref aI), .val (.int (gi [q24, q35, q46, q58] v62)), .unset, .unset, .unset, .unset, .unset, .unset, .unset, .unset, .unset]) rfl q) ?_
  show WGo _ _ _ _ _ _ _ _ T48 (mkF m 122 #[.val (.int p1), .val (.int p2), .val (.int p3), .val (.int p4), .val (.int p5), .val (.int p6), .val (.int v7), .val (.ref aK), .val (.int v62), .val (.int v69), .val (.int v76), .val (.int v84), .val (.ref aI), .val (.int (gi [q24, q35, q46, q58] v62)), .unset, .unset, .unset, .unset, .unset, .unset, .unset, .unset, .unset] [])
  generalize hv120 : (gi [q24, q35, q46, q58] v62) = v120
  show WGo _ _ _ _ _ _ _ _ T48 (mkF m 122 #[.val (.int p1), .val (.int p2), .val (.int p3), .val (.int p4), .val (.int p5), .val (.int p6), .val (.int v7), .val (.ref aK), .val (.int v62), .val (.int v69), .val (.int v76), .val (.int v84), .val (.ref aI), .val (.int v120), .unset, .unset, .unset, .unset, .unset, .unset, .unset, .unset, .unset] [])
  refine WGo.st (fun _ q => XS.aload S50.here hx rfl (hb hby at_122) rfl rfl q) ?_
  show WGo _ _ _ _ _ _ _ _ T48 (mkF m 124 #[.val (.int p1), .val (.int p2), .val (.int p3), .val (.int p4), .val (.int p5), .val (.int p6), .val (.int v7), .val (.ref aK), .val (.int v62), .val (.int v69), .val (.int v76), .val (.int v84), .val (.ref aI), .val (.int v120), .unset, .unset, .unset, .unset, .unset, .unset, .unset, .unset, .unset] [(.ref aK)])
  refine WGo.st (fun _ q => XS.iload S50.here hx rfl (hb hby at_124) rfl q) ?_
  show WGo _ _ _ _ _ _ _ _ T48 (mkF m 126 #[.val (.int p1), .val (.int p2), .val (.int p3), .val (.int p4), .val (.int p5), .val (.int p6), .val (.int v7), .val (.ref aK), .val (.int v62), .val (.int v69), .val (.int v76), .val (.int v84), .val (.ref aI), .val (.int v120), .unset, .unset, .unset, .unset, .unset, .unset, .unset, .unset, .unset] [(.int v69), (.ref aK)])
  refine w_iaload S50 f53 rfl (hb hby at_126) rfl bi1.1 bi1.2 rfl ?_
  show WGo _ _ _ _ _ _ _ _ T48 (mkF m 127 #[.val (.int p1), .val (.int p2), .val (.int p3), .val (.int p4), .val (.int p5), .val (.int p6), .val (.int v7), .val (.ref aK), .val (.int v62), .val (.int v69), .val (.int v76), .val (.int v84), .val (.ref aI), .val (.int v120), .unset, .unset, .unset, .unset, .unset, .unset, .unset, .unset, .unset] [(.int (gi [q24, q35, q46, q58] v69))])
  refine WGo.st (fun _ q => XS.istore S50.here hx rfl (hb hby at_127) rfl (l' := #[.val (.int p1), .val (.int p2), .val (.int p3), .val (.int p4), .val (.int p5), .val (.int p6), .val (.int v7), .val (.ref aK), .val (.int v62), .val (.int v69), .val (.int v76), .val (.int v84), .val (.ref aI), .val (.int v120), .val (.int (gi [q24, q35, q46, q58] v69)), .unset, .unset, .unset, .unset, .unset, .unset, .unset, .unset]) rfl q) ?_
  show WGo _ _ _ _ _ _ _ _ T48 (mkF m 129 #[.val (.int p1), .val (.int p2), .val (.int p3), .val (.int p4), .val (.int p5), .val (.int p6), .val (.int v7), .val (.ref aK), .val (.int v62), .val (.int v69), .val (.int v76), .val (.int v84), .val (.ref aI), .val (.int v120), .val (.int (gi [q24, q35, q46, q58] v69)), .unset, .unset, .unset, .unset, .unset, .unset, .unset, .unset] [])
  generalize hv127 : (gi [q24, q35, q46, q58] v69) = v127
  show WGo _ _ _ _ _ _ _ _ T48 (mkF m 129 #[.val (.int p1), .val (.int p2), .val (.int p3), .val (.int p4), .val (.int p5), .val (.int p6), .val (.int v7), .val (.ref aK), .val (.int v62), .val (.int v69), .val (.int v76), .val (.int v84), .val (.ref aI), .val (.int v120), .val (.int v127), .unset, .unset, .unset, .unset, .unset, .unset, .unset, .unset] [])
  refine WGo.st (fun _ q => XS.aload S50.here hx rfl (hb hby at_129) rfl rfl q) ?_
  show WGo _ _ _ _ _ _ _ _ T48 (mkF m 131 #[.val (.int p1), .val (.int p2), .val (.int p3), .val (.int p4), .val (.int p5), .val (.int p6), .val (.int v7), .val (.ref aK), .val (.int v62), .val (.int v69), .val (.int v76), .val (.int v84), .val (.ref aI), .val (.int v120), .val (.int v127), .unset, .unset, .unset, .unset, .unset, .unset, .unset, .unset] [(.ref aK)])
  refine WGo.st (fun _ q => XS.iload S50.here hx rfl (hb hby at_131) rfl q) ?_
  show WGo _ _ _ _ _ _ _ _ T48 (mkF m 133 #[.val (.int p1), .val (.int p2), .val (.int p3), .val (.int p4), .val (.int p5), .val (.int p6), .val (.int v7), .val (.ref aK), .val (.int v62), .val (.int v69), .val (.int v76), .val (.int v84), .val (.ref aI), .val (.int v120), .val (.int v127), .unset, .unset, .unset, .unset, .unset, .unset, .unset, .unset] [(.int v76), (.ref aK)])
  refine w_iaload S50 f53 rfl (hb hby at_133) rfl bi2.1 bi2.2 rfl ?_
  show WGo _ _ _ _ _ _ _ _ T48 (mkF m 134 #[.val (.int p1), .val (.int p2), .val (.int p3), .val (.int p4), .val (.int p5), .val (.int p6), .val (.int v7), .val (.ref aK), .val (.int v62), .val (.int v69), .val (.int v76), .val (.int v84), .val (.ref aI), .val (.int v120), .val (.int v127), .unset, .unset, .unset, .unset, .unset, .unset, .unset, .unset] [(.int (gi [q24, q35, q46, q58] v76))])
  refine WGo.st (fun _ q => XS.istore S50.here hx rfl (hb hby at_134) rfl (l' := #[.val (.int p1), .val (.int p2), .val (.int p3), .val (.int p4), .val (.int p5), .val (.int p6), .val (.int v7), .val (.ref aK), .val (.int v62), .val (.int v69), .val (.int v76), .val (.int v84), .val (.ref aI), .val (.int v120), .val (.int v127), .val (.int (gi [q24, q35, q46, q58] v76)), .unset, .unset, .unset, .unset, .unset, .unset, .unset]) rfl q) ?_
  show WGo _ _ _ _ _ _ _ _ T48 (mkF m 136 #[.val (.int p1), .val (.int p2), .val (.int p3), .val (.int p4), .val (.int p5), .val (.int p6), .val (.int v7), .val (.ref aK), .val (.int v62), .val (.int v69), .val (.int v76), .val (.int v84), .val (.ref aI), .val (.int v120), .val (.int v127), .val (.int (gi [q24, q35, q46, q58] v76)), .unset, .unset, .unset, .unset, .unset, .unset, .unset] [])
  generalize hv134 : (gi [q24, q35, q46, q58] v76) = v134
  show WGo _ _ _ _ _ _ _ _ T48 (mkF m 136 #[.val (.int p1), .val (.int p2), .val (.int p3), .val (.int p4), .val (.int p5), .val (.int p6), .val (.int v7), .val (.ref aK), .val (.int v62), .val (.int v69), .val (.int v76), .val (.int v84), .val (.ref aI), .val (.int v120), .val (.int v127), .val (.int v134), .unset, .unset, .unset, .unset, .unset, .unset, .unset] [])
  refine WGo.st (fun _ q => XS.aload S50.here hx rfl (hb hby at_136) rfl rfl q) ?_
  show WGo _ _ _ _ _ _ _ _ T48 (mkF m 138 #[.val (.int p1), .val (.int p2), .val (.int p3), .val (.int p4), .val (.int p5), .val (.int p6), .val (.int v7), .val (.ref aK), .val (.int v62), .val (.int v69), .val (.int v76), .val (.int v84), .val (.ref aI), .val (.int v120), .val (.int v127), .val (.int v134), .unset, .unset, .unset, .unset, .unset, .unset, .unset] [(.ref aK)])
  refine WGo.st (fun _ q => XS.iload S50.here hx rfl (hb hby at_138) rfl q) ?_
  show WGo _ _ _ _ _ _ _ _ T48 (mkF m 140 #[.val (.int p1), .val (.int p2), .val (.int p3), .val (.int p4), .val (.int p5), .val (.int p6), .val (.int v7), .val (.ref aK), .val (.int v62), .val (.int v69), .val (.int v76), .val (.int v84), .val (.ref aI), .val (.int v120), .val (.int v127), .val (.int v134), .unset, .unset, .unset, .unset, .unset, .unset, .unset] [(.int v84), (.ref aK)])
  refine w_iaload S50 f53 rfl (hb hby at_140) rfl bi3.1 bi3.2 rfl ?_
  show WGo _ _ _ _ _ _ _ _ T48 (mkF m 141 #[.val (.int p1), .val (.int p2), .val (.int p3), .val (.int p4), .val (.int p5), .val (.int p6), .val (.int v7), .val (.ref aK), .val (.int v62), .val (.int v69), .val (.int v76), .val (.int v84), .val (.ref aI), .val (.int v120), .val (.int v127), .val (.int v134), .unset, .unset, .unset, .unset, .unset, .unset, .unset] [(.int (gi [q24, q35, q46, q58] v84))])
  refine WGo.st (fun _ q => XS.istore S50.here hx rfl (hb hby at_141) rfl (l' := #[.val (.int p1), .val (.int p2), .val (.int p3), .val (.int p4), .val (.int p5), .val (.int p6), .val (.int v7), .val (.ref aK), .val (.int v62), .val (.int v69), .val (.int v76), .val (.int v84), .val (.ref aI), .val (.int v120), .val (.int v127), .val (.int v134), .val (.int (gi [q24, q35, q46, q58] v84)), .unset, .unset, .unset, .unset, .unset, .unset]) rfl q) ?_
  show WGo _ _ _ _ _ _ _ _ T48 (mkF m 143 #[.val (.int p1), .val (.int p2), .val (.int p3), .val (.int p4), .val (.int p5), .val (.int p6), .val (.int v7), .val (.ref aK), .val (.int v62), .val (.int v69), .val (.int v76), .val (.int v84), .val (.ref aI), .val (.int v120), .val (.int v127), .val (.int v134), .val (.int (gi [q24, q35, q46, q58] v84)), .unset, .unset, .unset, .unset, .unset, .unset] [])
  generalize hv141 : (gi [q24, q35, q46, q58] v84) = v141
  show WGo _ _ _ _ _ _ _ _ T48 (mkF m 143 #[.val (.int p1), .val (.int p2), .val (.int p3), .val (.int p4), .val (.int p5), .val (.int p6), .val (.int v7), .val (.ref aK), .val (.int v62), .val (.int v69), .val (.int v76), .val (.int v84), .val (.ref aI), .val (.int v120), .val (.int v127), .val (.int v134), .val (.int v141), .unset, .unset, .unset, .unset, .unset, .unset] [])
  have bk0 : 0 ≤ v120.toInt ∧ v120.toInt < v7.toInt := by rw [← hv120]; exact gi4_rng bi0.1 bi0.2 bq24 bq35 bq46 bq58
  have bk1 : 0 ≤ v127.toInt ∧ v127.toInt < v7.toInt := by rw [← hv127]; exact gi4_rng bi1.1 bi1.2 bq24 bq35 bq46 bq58
  have bk2 : 0 ≤ v134.toInt ∧ v134.toInt < v7.toInt := by rw [← hv134]; exact gi4_rng bi2.1 bi2.2 bq24 bq35 bq46 bq58
  have bk3 : 0 ≤ v141.toInt ∧ v141.toInt < v7.toInt := by rw [← hv141]; exact gi4_rng bi3.1 bi3.2 bq24 bq35 bq46 bq58
  refine WGo.st (fun _ q => XS.iload S50.here hx rfl (hb hby at_143) rfl q) ?_
  show WGo _ _ _ _ _ _ _ _ T48 (mkF m 145 #[.val (.int p1), .val (.int p2), .val (.int p3), .val (.int p4), .val (.int p5), .val (.int p6), .val (.int v7), .val (.ref aK), .val (.int v62), .val (.int v69), .val (.int v76), .val (.int v84), .val (.ref aI), .val (.int v120), .val (.int v127), .val (.int v134), .val (.int v141), .unset, .unset, .unset, .unset, .unset, .unset] [(.int v127)])
  refine WGo.st (fun _ q => XS.iconst S50.here hx rfl (hb hby at_145) q) ?_
  show WGo _ _ _ _ _ _ _ _ T48 (mkF m 146 #[.val (.int p1), .val (.int p2), .val (.int p3), .val (.int p4), .val (.int p5), .val (.int p6), .val (.int v7), .val (.ref aK), .val (.int v62), .val (.int v69), .val (.int v76), .val (.int v84), .val (.ref aI), .val (.int v120), .val (.int v127), .val (.int v134), .val (.int v141), .unset, .unset, .unset, .unset, .unset, .unset] [(.int (1 : Int32)), (.int v127)])
  refine WGo.st (fun _ q => XS.iload S50.here hx rfl (hb hby at_146) rfl q) ?_
  show WGo _ _ _ _ _ _ _ _ T48 (mkF m 148 #[.val (.int p1), .val (.int p2), .val (.int p3), .val (.int p4), .val (.int p5), .val (.int p6), .val (.int v7), .val (.ref aK), .val (.int v62), .val (.int v69), .val (.int v76), .val (.int v84), .val (.ref aI), .val (.int v120), .val (.int v127), .val (.int v134), .val (.int v141), .unset, .unset, .unset, .unset, .unset, .unset] [(.int v120), (.int (1 : Int32)), (.int v127)])
  refine WGo.st (fun _ q => XS.iconst S50.here hx rfl (hb hby at_148) q) ?_
  show WGo _ _ _ _ _ _ _ _ T48 (mkF m 149 #[.val (.int p1), .val (.int p2), .val (.int p3), .val (.int p4), .val (.int p5), .val (.int p6), .val (.int v7), .val (.ref aK), .val (.int v62), .val (.int v69), .val (.int v76), .val (.int v84), .val (.ref aI), .val (.int v120), .val (.int v127), .val (.int v134), .val (.int v141), .unset, .unset, .unset, .unset, .unset, .unset] [(.int (0 : Int32)), (.int v120), (.int (1 : Int32)), (.int v127)])
  refine w_static S50 (y := (⟨"com/example/ookayama/ookayama/CountingSortByKeyPinLaw", "before", "(IIII)I"⟩ : MethodName)) hown (hw _ (List.mem_of_getElem? (i := 2) rfl)) (hw _ (List.mem_of_getElem? (i := 3) rfl)) (hw _ (List.mem_of_getElem? (i := 4) rfl)) (hw _ (List.mem_of_getElem? (i := 5) rfl)) (by decide) (rm_Bf l Z a0 hw n0 h49 v127 (1 : Int32) v120 (0 : Int32) S50.ge) (W := 0) (by decide) (by decide) (by decide) (by decide) rfl (by rw [hml]; rfl) (argsL := [(.int v127), (.int (1 : Int32)), (.int v120), (.int (0 : Int32))]) (rest := []) (ps := [.int, .int, .int, .int]) (rt := (some .int)) (by decide) rfl rfl rfl (by show 2 * 0 + _ ≤ _; exact Nat.le_of_eq rfl) (hb hby at_149) ?_
  intro T54 h56 w57 S55 q58
  obtain ⟨q58a, q58b⟩ := q58
  subst q58a
  replace q58b := Eq.symm q58b
  subst q58b
  show WGo _ _ _ _ _ _ _ _ T54 (mkF m 152 #[.val (.int p1), .val (.int p2), .val (.int p3), .val (.int p4), .val (.int p5), .val (.int p6), .val (.int v7), .val (.ref aK), .val (.int v62), .val (.int v69), .val (.int v76), .val (.int v84), .val (.ref aI), .val (.int v120), .val (.int v127), .val (.int v134), .val (.int v141), .unset, .unset, .unset, .unset, .unset, .unset] [(.int (befF v127 (1 : Int32) v120 (0 : Int32)))])
  refine WGo.st (fun _ q => XS.iload S55.here hx rfl (hb hby at_152) rfl q) ?_
  show WGo _ _ _ _ _ _ _ _ T54 (mkF m 154 #[.val (.int p1), .val (.int p2), .val (.int p3), .val (.int p4), .val (.int p5), .val (.int p6), .val (.int v7), .val (.ref aK), .val (.int v62), .val (.int v69), .val (.int v76), .val (.int v84), .val (.ref aI), .val (.int v120), .val (.int v127), .val (.int v134), .val (.int v141), .unset, .unset, .unset, .unset, .unset, .unset] [(.int v134), (.int (befF v127 (1 : Int32) v120 (0 : Int32)))])
  refine WGo.st (fun _ q => XS.iconst S55.here hx rfl (hb hby at_154) q) ?_
  show WGo _ _ _ _ _ _ _ _ T54 (mkF m 155 #[.val (.int p1), .val (.int p2), .val (.int p3), .val (.int p4), .val (.int p5), .val (.int p6), .val (.int v7), .val (.ref aK), .val (.int v62), .val (.int v69), .val (.int v76), .val (.int v84), .val (.ref aI), .val (.int v120), .val (.int v127), .val (.int v134), .val (.int v141), .unset, .unset, .unset, .unset, .unset, .unset] [(.int (2 : Int32)), (.int v134), (.int (befF v127 (1 : Int32) v120 (0 : Int32)))])
  refine WGo.st (fun _ q => XS.iload S55.here hx rfl (hb hby at_155) rfl q) ?_
  show WGo _ _ _ _ _ _ _ _ T54 (mkF m 157 #[.val (.int p1), .val (.int p2), .val (.int p3), .val (.int p4), .val (.int p5), .val (.int p6), .val (.int v7), .val (.ref aK), .val (.int v62), .val (.int v69), .val (.int v76), .val (.int v84), .val (.ref aI), .val (.int v120), .val (.int v127), .val (.int v134), .val (.int v141), .unset, .unset, .unset, .unset, .unset, .unset] [(.int v120), (.int (2 : Int32)), (.int v134), (.int (befF v127 (1 : Int32) v120 (0 : Int32)))])
  refine WGo.st (fun _ q => XS.iconst S55.here hx rfl (hb hby at_157) q) ?_
  show WGo _ _ _ _ _ _ _ _ T54 (mkF m 158 #[.val (.int p1), .val (.int p2), .val (.int p3), .val (.int p4), .val (.int p5), .val (.int p6), .val (.int v7), .val (.ref aK), .val (.int v62), .val (.int v69), .val (.int v76), .val (.int v84), .val (.ref aI), .val (.int v120), .val (.int v127), .val (.int v134), .val (.int v141), .unset, .unset, .unset, .unset, .unset, .unset] [(.int (0 : Int32)), (.int v120), (.int (2 : Int32)), (.int v134), (.int (befF v127 (1 : Int32) v120 (0 : Int32)))])
  refine w_static S55 (y := (⟨"com/example/ookayama/ookayama/CountingSortByKeyPinLaw", "before", "(IIII)I"⟩ : MethodName)) hown (hw _ (List.mem_of_getElem? (i := 2) rfl)) (hw _ (List.mem_of_getElem? (i := 3) rfl)) (hw _ (List.mem_of_getElem? (i := 4) rfl)) (hw _ (List.mem_of_getElem? (i := 5) rfl)) (by decide) (rm_Bf l Z a0 hw n0 h49 v134 (2 : Int32) v120 (0 : Int32) S55.ge) (W := 1) (by decide) (by decide) (by decide) (by decide) rfl (by rw [hml]; rfl) (argsL := [(.int v134), (.int (2 : Int32)), (.int v120), (.int (0 : Int32))]) (rest := [(.int (befF v127 (1 : Int32) v120 (0 : Int32)))]) (ps := [.int, .int, .int, .int]) (rt := (some .int)) (by decide) rfl rfl rfl (by show 2 * 0 + _ ≤ _; exact Nat.le_of_eq rfl) (hb hby at_158) ?_
  intro T59 h61 w62 S60 q63
  obtain ⟨q63a, q63b⟩ := q63
  subst q63a
  replace q63b := Eq.symm q63b
  subst q63b
  show WGo _ _ _ _ _ _ _ _ T59 (mkF m 161 #[.val (.int p1), .val (.int p2), .val (.int p3), .val (.int p4), .val (.int p5), .val (.int p6), .val (.int v7), .val (.ref aK), .val (.int v62), .val (.int v69), .val (.int v76), .val (.int v84), .val (.ref aI), .val (.int v120), .val (.int v127), .val (.int v134), .val (.int v141), .unset, .unset, .unset, .unset, .unset, .unset] [(.int (befF v134 (2 : Int32) v120 (0 : Int32))), (.int (befF v127 (1 : Int32) v120 (0 : Int32)))])
  refine WGo.st (fun _ q => XS.iadd S60.here hx rfl (hb hby at_161) rfl q) ?_
  show WGo _ _ _ _ _ _ _ _ T59 (mkF m 162 #[.val (.int p1), .val (.int p2), .val (.int p3), .val (.int p4), .val (.int p5), .val (.int p6), .val (.int v7), .val (.ref aK), .val (.int v62), .val (.int v69), .val (.int v76), .val (.int v84), .val (.ref aI), .val (.int v120), .val (.int v127), .val (.int v134), .val (.int v141), .unset, .unset, .unset, .unset, .unset, .unset] [(.int ((befF v127 (1 : Int32) v120 (0 : Int32)) + (befF v134 (2 : Int32) v120 (0 : Int32))))])
  refine WGo.st (fun _ q => XS.iload S60.here hx rfl (hb hby at_162) rfl q) ?_
  show WGo _ _ _ _ _ _ _ _ T59 (mkF m 164 #[.val (.int p1), .val (.int p2), .val (.int p3), .val (.int p4), .val (.int p5), .val (.int p6), .val (.int v7), .val (.ref aK), .val (.int v62), .val (.int v69), .val (.int v76), .val (.int v84), .val (.ref aI), .val (.int v120), .val (.int v127), .val (.int v134), .val (.int v141), .unset, .unset, .unset, .unset, .unset, .unset] [(.int v141), (.int ((befF v127 (1 : Int32) v120 (0 : Int32)) + (befF v134 (2 : Int32) v120 (0 : Int32))))])
  refine WGo.st (fun _ q => XS.iconst S60.here hx rfl (hb hby at_164) q) ?_
  show WGo _ _ _ _ _ _ _ _ T59 (mkF m 165 #[.val (.int p1), .val (.int p2), .val (.int p3), .val (.int p4), .val (.int p5), .val (.int p6), .val (.int v7), .val (.ref aK), .val (.int v62), .val (.int v69), .val (.int v76), .val (.int v84), .val (.ref aI), .val (.int v120), .val (.int v127), .val (.int v134), .val (.int v141), .unset, .unset, .unset, .unset, .unset, .unset] [(.int (3 : Int32)), (.int v141), (.int ((befF v127 (1 : Int32) v120 (0 : Int32)) + (befF v134 (2 : Int32) v120 (0 : Int32))))])
  refine WGo.st (fun _ q => XS.iload S60.here hx rfl (hb hby at_165) rfl q) ?_
  show WGo _ _ _ _ _ _ _ _ T59 (mkF m 167 #[.val (.int p1), .val (.int p2), .val (.int p3), .val (.int p4), .val (.int p5), .val (.int p6), .val (.int v7), .val (.ref aK), .val (.int v62), .val (.int v69), .val (.int v76), .val (.int v84), .val (.ref aI), .val (.int v120), .val (.int v127), .val (.int v134), .val (.int v141), .unset, .unset, .unset, .unset, .unset, .unset] [(.int v120), (.int (3 : Int32)), (.int v141), (.int ((befF v127 (1 : Int32) v120 (0 : Int32)) + (befF v134 (2 : Int32) v120 (0 : Int32))))])
  refine WGo.st (fun _ q => XS.iconst S60.here hx rfl (hb hby at_167) q) ?_
  show WGo _ _ _ _ _ _ _ _ T59 (mkF m 168 #[.val (.int p1), .val (.int p2), .val (.int p3), .val (.int p4), .val (.int p5), .val (.int p6), .val (.int v7), .val (.ref aK), .val (.int v62), .val (.int v69), .val (.int v76), .val (.int v84), .val (.ref aI), .val (.int v120), .val (.int v127), .val (.int v134), .val (.int v141), .unset, .unset, .unset, .unset, .unset, .unset] [(.int (0 : Int32)), (.int v120), (.int (3 : Int32)), (.int v141), (.int ((befF v127 (1 : Int32) v120 (0 : Int32)) + (befF v134 (2 : Int32) v120 (0 : Int32))))])
  refine w_static S60 (y := (⟨"com/example/ookayama/ookayama/CountingSortByKeyPinLaw", "before", "(IIII)I"⟩ : MethodName)) hown (hw _ (List.mem_of_getElem? (i := 2) rfl)) (hw _ (List.mem_of_getElem? (i := 3) rfl)) (hw _ (List.mem_of_getElem? (i := 4) rfl)) (hw _ (List.mem_of_getElem? (i := 5) rfl)) (by decide) (rm_Bf l Z a0 hw n0 h49 v141 (3 : Int32) v120 (0 : Int32) S60.ge) (W := 1) (by decide) (by decide) (by decide) (by decide) rfl (by rw [hml]; rfl) (argsL := [(.int v141), (.int (3 : Int32)), (.int v120), (.int (0 : Int32))]) (rest := [(.int ((befF v127 (1 : Int32) v120 (0 : Int32)) + (befF v134 (2 : Int32) v120 (0 : Int32))))]) (ps := [.int, .int, .int, .int]) (rt := (some .int)) (by decide) rfl rfl rfl (by show 2 * 0 + _ ≤ _; exact Nat.le_of_eq rfl) (hb hby at_168) ?_
  intro T64 h66 w67 S65 q68
  obtain ⟨q68a, q68b⟩ := q68
  subst q68a
  replace q68b := Eq.symm q68b
  subst q68b
  show WGo _ _ _ _ _ _ _ _ T64 (mkF m 171 #[.val (.int p1), .val (.int p2), .val (.int p3), .val (.int p4), .val (.int p5), .val (.int p6), .val (.int v7), .val (.ref aK), .val (.int v62), .val (.int v69), .val (.int v76), .val (.int v84), .val (.ref aI), .val (.int v120), .val (.int v127), .val (.int v134), .val (.int v141), .unset, .unset, .unset, .unset, .unset, .unset] [(.int (befF v141 (3 : Int32) v120 (0 : Int32))), (.int ((befF v127 (1 : Int32) v120 (0 : Int32)) + (befF v134 (2 : Int32) v120 (0 : Int32))))])
  refine WGo.st (fun _ q => XS.iadd S65.here hx rfl (hb hby at_171) rfl q) ?_
  show WGo _ _ _ _ _ _ _ _ T64 (mkF m 172 #[.val (.int p1), .val (.int p2), .val (.int p3), .val (.int p4), .val (.int p5), .val (.int p6), .val (.int v7), .val (.ref aK), .val (.int v62), .val (.int v69), .val (.int v76), .val (.int v84), .val (.ref aI), .val (.int v120), .val (.int v127), .val (.int v134), .val (.int v141), .unset, .unset, .unset, .unset, .unset, .unset] [(.int (((befF v127 (1 : Int32) v120 (0 : Int32)) + (befF v134 (2 : Int32) v120 (0 : Int32))) + (befF v141 (3 : Int32) v120 (0 : Int32))))])
  refine WGo.st (fun _ q => XS.istore S65.here hx rfl (hb hby at_172) rfl (l' := #[.val (.int p1), .val (.int p2), .val (.int p3), .val (.int p4), .val (.int p5), .val (.int p6), .val (.int v7), .val (.ref aK), .val (.int v62), .val (.int v69), .val (.int v76), .val (.int v84), .val (.ref aI), .val (.int v120), .val (.int v127), .val (.int v134), .val (.int v141), .val (.int (((befF v127 (1 : Int32) v120 (0 : Int32)) + (befF v134 (2 : Int32) v120 (0 : Int32))) + (befF v141 (3 : Int32) v120 (0 : Int32)))), .unset, .unset, .unset, .unset, .unset]) rfl q) ?_
  show WGo _ _ _ _ _ _ _ _ T64 (mkF m 174 #[.val (.int p1), .val (.int p2), .val (.int p3), .val (.int p4), .val (.int p5), .val (.int p6), .val (.int v7), .val (.ref aK), .val (.int v62), .val (.int v69), .val (.int v76), .val (.int v84), .val (.ref aI), .val (.int v120), .val (.int v127), .val (.int v134), .val (.int v141), .val (.int (((befF v127 (1 : Int32) v120 (0 : Int32)) + (befF v134 (2 : Int32) v120 (0 : Int32))) + (befF v141 (3 : Int32) v120 (0 : Int32)))), .unset, .unset, .unset, .unset, .unset] [])
  refine WGo.st (fun _ q => XS.iload S65.here hx rfl (hb hby at_174) rfl q) ?_
  show WGo _ _ _ _ _ _ _ _ T64 (mkF m 176 #[.val (.int p1), .val (.int p2), .val (.int p3), .val (.int p4), .val (.int p5), .val (.int p6), .val (.int v7), .val (.ref aK), .val (.int v62), .val (.int v69), .val (.int v76), .val (.int v84), .val (.ref aI), .val (.int v120), .val (.int v127), .val (.int v134), .val (.int v141), .val (.int (((befF v127 (1 : Int32) v120 (0 : Int32)) + (befF v134 (2 : Int32) v120 (0 : Int32))) + (befF v141 (3 : Int32) v120 (0 : Int32)))), .unset, .unset, .unset, .unset, .unset] [(.int v120)])
  refine WGo.st (fun _ q => XS.iconst S65.here hx rfl (hb hby at_176) q) ?_
  show WGo _ _ _ _ _ _ _ _ T64 (mkF m 177 #[.val (.int p1), .val (.int p2), .val (.int p3), .val (.int p4), .val (.int p5), .val (.int p6), .val (.int v7), .val (.ref aK), .val (.int v62), .val (.int v69), .val (.int v76), .val (.int v84), .val (.ref aI), .val (.int v120), .val (.int v127), .val (.int v134), .val (.int v141), .val (.int (((befF v127 (1 : Int32) v120 (0 : Int32)) + (befF v134 (2 : Int32) v120 (0 : Int32))) + (befF v141 (3 : Int32) v120 (0 : Int32)))), .unset, .unset, .unset, .unset, .unset] [(.int (0 : Int32)), (.int v120)])
  refine WGo.st (fun _ q => XS.iload S65.here hx rfl (hb hby at_177) rfl q) ?_
  show WGo _ _ _ _ _ _ _ _ T64 (mkF m 179 #[.val (.int p1), .val (.int p2), .val (.int p3), .val (.int p4), .val (.int p5), .val (.int p6), .val (.int v7), .val (.ref aK), .val (.int v62), .val (.int v69), .val (.int v76), .val (.int v84), .val (.ref aI), .val (.int v120), .val (.int v127), .val (.int v134), .val (.int v141), .val (.int (((befF v127 (1 : Int32) v120 (0 : Int32)) + (befF v134 (2 : Int32) v120 (0 : Int32))) + (befF v141 (3 : Int32) v120 (0 : Int32)))), .unset, .unset, .unset, .unset, .unset] [(.int v127), (.int (0 : Int32)), (.int v120)])
  refine WGo.st (fun _ q => XS.iconst S65.here hx rfl (hb hby at_179) q) ?_
  show WGo _ _ _ _ _ _ _ _ T64 (mkF m 180 #[.val (.int p1), .val (.int p2), .val (.int p3), .val (.int p4), .val (.int p5), .val (.int p6), .val (.int v7), .val (.ref aK), .val (.int v62), .val (.int v69), .val (.int v76), .val (.int v84), .val (.ref aI), .val (.int v120), .val (.int v127), .val (.int v134), .val (.int v141), .val (.int (((befF v127 (1 : Int32) v120 (0 : Int32)) + (befF v134 (2 : Int32) v120 (0 : Int32))) + (befF v141 (3 : Int32) v120 (0 : Int32)))), .unset, .unset, .unset, .unset, .unset] [(.int (1 : Int32)), (.int v127), (.int (0 : Int32)), (.int v120)])
  refine w_static S65 (y := (⟨"com/example/ookayama/ookayama/CountingSortByKeyPinLaw", "before", "(IIII)I"⟩ : MethodName)) hown (hw _ (List.mem_of_getElem? (i := 2) rfl)) (hw _ (List.mem_of_getElem? (i := 3) rfl)) (hw _ (List.mem_of_getElem? (i := 4) rfl)) (hw _ (List.mem_of_getElem? (i := 5) rfl)) (by decide) (rm_Bf l Z a0 hw n0 h49 v120 (0 : Int32) v127 (1 : Int32) S65.ge) (W := 0) (by decide) (by decide) (by decide) (by decide) rfl (by rw [hml]; rfl) (argsL := [(.int v120), (.int (0 : Int32)), (.int v127), (.int (1 : Int32))]) (rest := []) (ps := [.int, .int, .int, .int]) (rt := (some .int)) (by decide) rfl rfl rfl (by show 2 * 0 + _ ≤ _; exact Nat.le_of_eq rfl) (hb hby at_180) ?_
  intro T69 h71 w72 S70 q73
  obtain ⟨q73a, q73b⟩ := q73
  subst q73a
  replace q73b := Eq.symm q73b
  subst q73b
  show WGo _ _ _ _ _ _ _ _ T69 (mkF m 183 #[.val (.int p1), .val (.int p2), .val (.int p3), .val (.int p4), .val (.int p5), .val (.int p6), .val (.int v7), .val (.ref aK), .val (.int v62), .val (.int v69), .val (.int v76), .val (.int v84), .val (.ref aI), .val (.int v120), .val (.int v127), .val (.int v134), .val (.int v141), .val (.int (((befF v127 (1 : Int32) v120 (0 : Int32)) + (befF v134 (2 : Int32) v120 (0 : Int32))) + (befF v141 (3 : Int32) v120 (0 : Int32)))), .unset, .unset, .unset, .unset, .unset] [(.int (befF v120 (0 : Int32) v127 (1 : Int32)))])
  refine WGo.st (fun _ q => XS.iload S70.here hx rfl (hb hby at_183) rfl q) ?_
  show WGo _ _ _ _ _ _ _ _ T69 (mkF m 185 #[.val (.int p1), .val (.int p2), .val (.int p3), .val (.int p4), .val (.int p5), .val (.int p6), .val (.int v7), .val (.ref aK), .val (.int v62), .val (.int v69), .val (.int v76), .val (.int v84), .val (.ref aI), .val (.int v120), .val (.int v127), .val (.int v134), .val (.int v141), .val (.int (((befF v127 (1 : Int32) v120 (0 : Int32)) + (befF v134 (2 : Int32) v120 (0 : Int32))) + (befF v141 (3 : Int32) v120 (0 : Int32)))), .unset, .unset, .unset, .unset, .unset] [(.int v134), (.int (befF v120 (0 : Int32) v127 (1 : Int32)))])
  refine WGo.st (fun _ q => XS.iconst S70.here hx rfl (hb hby at_185) q) ?_
  show WGo _ _ _ _ _ _ _ _ T69 (mkF m 186 #[.val (.int p1), .val (.int p2), .val (.int p3), .val (.int p4), .val (.int p5), .val (.int p6), .val (.int v7), .val (.ref aK), .val (.int v62), .val (.int v69), .val (.int v76), .val (.int v84), .val (.ref aI), .val (.int v120), .val (.int v127), .val (.int v134), .val (.int v141), .val (.int (((befF v127 (1 : Int32) v120 (0 : Int32)) + (befF v134 (2 : Int32) v120 (0 : Int32))) + (befF v141 (3 : Int32) v120 (0 : Int32)))), .unset, .unset, .unset, .unset, .unset] [(.int (2 : Int32)), (.int v134), (.int (befF v120 (0 : Int32) v127 (1 : Int32)))])
  refine WGo.st (fun _ q => XS.iload S70.here hx rfl (hb hby at_186) rfl q) ?_
  show WGo _ _ _ _ _ _ _ _ T69 (mkF m 188 #[.val (.int p1), .val (.int p2), .val (.int p3), .val (.int p4), .val (.int p5), .val (.int p6), .val (.int v7), .val (.ref aK), .val (.int v62), .val (.int v69), .val (.int v76), .val (.int v84), .val (.ref aI), .val (.int v120), .val (.int v127), .val (.int v134), .val (.int v141), .val (.int (((befF v127 (1 : Int32) v120 (0 : Int32)) + (befF v134 (2 : Int32) v120 (0 : Int32))) + (befF v141 (3 : Int32) v120 (0 : Int32)))), .unset, .unset, .unset, .unset, .unset] [(.int v127), (.int (2 : Int32)), (.int v134), (.int (befF v120 (0 : Int32) v127 (1 : Int32)))])
  refine WGo.st (fun _ q => XS.iconst S70.here hx rfl (hb hby at_188) q) ?_
  show WGo _ _ _ _ _ _ _ _ T69 (mkF m 189 #[.val (.int p1), .val (.int p2), .val (.int p3), .val (.int p4), .val (.int p5), .val (.int p6), .val (.int v7), .val (.ref aK), .val (.int v62), .val (.int v69), .val (.int v76), .val (.int v84), .val (.ref aI), .val (.int v120), .val (.int v127), .val (.int v134), .val (.int v141), .val (.int (((befF v127 (1 : Int32) v120 (0 : Int32)) + (befF v134 (2 : Int32) v120 (0 : Int32))) + (befF v141 (3 : Int32) v120 (0 : Int32)))), .unset, .unset, .unset, .unset, .unset] [(.int (1 : Int32)), (.int v127), (.int (2 : Int32)), (.int v134), (.int (befF v120 (0 : Int32) v127 (1 : Int32)))])
  refine w_static S70 (y := (⟨"com/example/ookayama/ookayama/CountingSortByKeyPinLaw", "before", "(IIII)I"⟩ : MethodName)) hown (hw _ (List.mem_of_getElem? (i := 2) rfl)) (hw _ (List.mem_of_getElem? (i := 3) rfl)) (hw _ (List.mem_of_getElem? (i := 4) rfl)) (hw _ (List.mem_of_getElem? (i := 5) rfl)) (by decide) (rm_Bf l Z a0 hw n0 h49 v134 (2 : Int32) v127 (1 : Int32) S70.ge) (W := 1) (by decide) (by decide) (by decide) (by decide) rfl (by rw [hml]; rfl) (argsL := [(.int v134), (.int (2 : Int32)), (.int v127), (.int (1 : Int32))]) (rest := [(.int (befF v120 (0 : Int32) v127 (1 : Int32)))]) (ps := [.int, .int, .int, .int]) (rt := (some .int)) (by decide) rfl rfl rfl (by show 2 * 0 + _ ≤ _; exact Nat.le_of_eq rfl) (hb hby at_189) ?_
  intro T74 h76 w77 S75 q78
  obtain ⟨q78a, q78b⟩ := q78
  subst q78a
  replace q78b := Eq.symm q78b
  subst q78b
  show WGo _ _ _ _ _ _ _ _ T74 (mkF m 192 #[.val (.int p1), .val (.int p2), .val (.int p3), .val (.int p4), .val (.int p5), .val (.int p6), .val (.int v7), .val (.ref aK), .val (.int v62), .val (.int v69), .val (.int v76), .val (.int v84), .val (.ref aI), .val (.int v120), .val (.int v127), .val (.int v134), .val (.int v141), .val (.int (((befF v127 (1 : Int32) v120 (0 : Int32)) + (befF v134 (2 : Int32) v120 (0 : Int32))) + (befF v141 (3 : Int32) v120 (0 : Int32)))), .unset, .unset, .unset, .unset, .unset] [(.int (befF v134 (2 : Int32) v127 (1 : Int32))), (.int (befF v120 (0 : Int32) v127 (1 : Int32)))])
  refine WGo.st (fun _ q => XS.iadd S75.here hx rfl (hb hby at_192) rfl q) ?_
  show WGo _ _ _ _ _ _ _ _ T74 (mkF m 193 #[.val (.int p1), .val (.int p2), .val (.int p3), .val (.int p4), .val (.int p5), .val (.int p6), .val (.int v7), .val (.ref aK), .val (.int v62), .val (.int v69), .val (.int v76), .val (.int v84), .val (.ref aI), .val (.int v120), .val (.int v127), .val (.int v134), .val (.int v141), .val (.int (((befF v127 (1 : Int32) v120 (0 : Int32)) + (befF v134 (2 : Int32) v120 (0 : Int32))) + (befF v141 (3 : Int32) v120 (0 : Int32)))), .unset, .unset, .unset, .unset, .unset] [(.int ((befF v120 (0 : Int32) v127 (1 : Int32)) + (befF v134 (2 : Int32) v127 (1 : Int32))))])
  refine WGo.st (fun _ q => XS.iload S75.here hx rfl (hb hby at_193) rfl q) ?_
  show WGo _ _ _ _ _ _ _ _ T74 (mkF m 195 #[.val (.int p1), .val (.int p2), .val (.int p3), .val (.int p4), .val (.int p5), .val (.int p6), .val (.int v7), .val (.ref aK), .val (.int v62), .val (.int v69), .val (.int v76), .val (.int v84), .val (.ref aI), .val (.int v120), .val (.int v127), .val (.int v134), .val (.int v141), .val (.int (((befF v127 (1 : Int32) v120 (0 : Int32)) + (befF v134 (2 : Int32) v120 (0 : Int32))) + (befF v141 (3 : Int32) v120 (0 : Int32)))), .unset, .unset, .unset, .unset, .unset] [(.int v141), (.int ((befF v120 (0 : Int32) v127 (1 : Int32)) + (befF v134 (2 : Int32) v127 (1 : Int32))))])
  refine WGo.st (fun _ q => XS.iconst S75.here hx rfl (hb hby at_195) q) ?_
  show WGo _ _ _ _ _ _ _ _ T74 (mkF m 196 #[.val (.int p1), .val (.int p2), .val (.int p3), .val (.int p4), .val (.int p5), .val (.int p6), .val (.int v7), .val (.ref aK), .val (.int v62), .val (.int v69), .val (.int v76), .val (.int v84), .val (.ref aI), .val (.int v120), .val (.int v127), .val (.int v134), .val (.int v141), .val (.int (((befF v127 (1 : Int32) v120 (0 : Int32)) + (befF v134 (2 : Int32) v120 (0 : Int32))) + (befF v141 (3 : Int32) v120 (0 : Int32)))), .unset, .unset, .unset, .unset, .unset] [(.int (3 : Int32)), (.int v141), (.int ((befF v120 (0 : Int32) v127 (1 : Int32)) + (befF v134 (2 : Int32) v127 (1 : Int32))))])
  refine WGo.st (fun _ q => XS.iload S75.here hx rfl (hb hby at_196) rfl q) ?_
  show WGo _ _ _ _ _ _ _ _ T74 (mkF m 198 #[.val (.int p1), .val (.int p2), .val (.int p3), .val (.int p4), .val (.int p5), .val (.int p6), .val (.int v7), .val (.ref aK), .val (.int v62), .val (.int v69), .val (.int v76), .val (.int v84), .val (.ref aI), .val (.int v120), .val (.int v127), .val (.int v134), .val (.int v141), .val (.int (((befF v127 (1 : Int32) v120 (0 : Int32)) + (befF v134 (2 : Int32) v120 (0 : Int32))) + (befF v141 (3 : Int32) v120 (0 : Int32)))), .unset, .unset, .unset, .unset, .unset] [(.int v127), (.int (3 : Int32)), (.int v141), (.int ((befF v120 (0 : Int32) v127 (1 : Int32)) + (befF v134 (2 : Int32) v127 (1 : Int32))))])
  refine WGo.st (fun _ q => XS.iconst S75.here hx rfl (hb hby at_198) q) ?_
  show WGo _ _ _ _ _ _ _ _ T74 (mkF m 199 #[.val (.int p1), .val (.int p2), .val (.int p3), .val (.int p4), .val (.int p5), .val (.int p6), .val (.int v7), .val (.ref aK), .val (.int v62), .val (.int v69), .val (.int v76), .val (.int v84), .val (.ref aI), .val (.int v120), .val (.int v127), .val (.int v134), .val (.int v141), .val (.int (((befF v127 (1 : Int32) v120 (0 : Int32)) + (befF v134 (2 : Int32) v120 (0 : Int32))) + (befF v141 (3 : Int32) v120 (0 : Int32)))), .unset, .unset, .unset, .unset, .unset] [(.int (1 : Int32)), (.int v127), (.int (3 : Int32)), (.int v141), (.int ((befF v120 (0 : Int32) v127 (1 : Int32)) + (befF v134 (2 : Int32) v127 (1 : Int32))))])
  refine w_static S75 (y := (⟨"com/example/ookayama/ookayama/CountingSortByKeyPinLaw", "before", "(IIII)I"⟩ : MethodName)) hown (hw _ (List.mem_of_getElem? (i := 2) rfl)) (hw _ (List.mem_of_getElem? (i := 3) rfl)) (hw _ (List.mem_of_getElem? (i := 4) rfl)) (hw _ (List.mem_of_getElem? (i := 5) rfl)) (by decide) (rm_Bf l Z a0 hw n0 h49 v141 (3 : Int32) v127 (1 : Int32) S75.ge) (W := 1) (by decide) (by decide) (by decide) (by decide) rfl (by rw [hml]; rfl) (argsL := [(.int v141), (.int (3 : Int32)), (.int v127), (.int (1 : Int32))]) (rest := [(.int ((befF v120 (0 : Int32) v127 (1 : Int32)) + (befF v134 (2 : Int32) v127 (1 : Int32))))]) (ps := [.int, .int, .int, .int]) (rt := (some .int)) (by decide) rfl rfl rfl (by show 2 * 0 + _ ≤ _; exact Nat.le_of_eq rfl) (hb hby at_199) ?_
  intro T79 h81 w82 S80 q83
  obtain ⟨q83a, q83b⟩ := q83
  subst q83a
  replace q83b := Eq.symm q83b
  subst q83b
  show WGo _ _ _ _ _ _ _ _ T79 (mkF m 202 #[.val (.int p1), .val (.int p2), .val (.int p3), .val (.int p4), .val (.int p5), .val (.int p6), .val (.int v7), .val (.ref aK), .val (.int v62), .val (.int v69), .val (.int v76), .val (.int v84), .val (.ref aI), .val (.int v120), .val (.int v127), .val (.int v134), .val (.int v141), .val (.int (((befF v127 (1 : Int32) v120 (0 : Int32)) + (befF v134 (2 : Int32) v120 (0 : Int32))) + (befF v141 (3 : Int32) v120 (0 : Int32)))), .unset, .unset, .unset, .unset, .unset] [(.int (befF v141 (3 : Int32) v127 (1 : Int32))), (.int ((befF v120 (0 : Int32) v127 (1 : Int32)) + (befF v134 (2 : Int32) v127 (1 : Int32))))])
  refine WGo.st (fun _ q => XS.iadd S80.here hx rfl (hb hby at_202) rfl q) ?_
  show WGo _ _ _ _ _ _ _ _ T79 (mkF m 203 #[.val (.int p1), .val (.int p2), .val (.int p3), .val (.int p4), .val (.int p5), .val (.int p6), .val (.int v7), .val (.ref aK), .val (.int v62), .val (.int v69), .val (.int v76), .val (.int v84), .val (.ref aI), .val (.int v120), .val (.int v127), .val (.int v134), .val (.int v141), .val (.int (((befF v127 (1 : Int32) v120 (0 : Int32)) + (befF v134 (2 : Int32) v120 (0 : Int32))) + (befF v141 (3 : Int32) v120 (0 : Int32)))), .unset, .unset, .unset, .unset, .unset] [(.int (((befF v120 (0 : Int32) v127 (1 : Int32)) + (befF v134 (2 : Int32) v127 (1 : Int32))) + (befF v141 (3 : Int32) v127 (1 : Int32))))])
  refine WGo.st (fun _ q => XS.istore S80.here hx rfl (hb hby at_203) rfl (l' := #[.val (.int p1), .val (.int p2), .val (.int p3), .val (.int p4), .val (.int p5), .val (.int p6), .val (.int v7), .val (.ref aK), .val (.int v62), .val (.int v69), .val (.int v76), .val (.int v84), .val (.ref aI), .val (.int v120), .val (.int v127), .val (.int v134), .val (.int v141), .val (.int (((befF v127 (1 : Int32) v120 (0 : Int32)) + (befF v134 (2 : Int32) v120 (0 : Int32))) + (befF v141 (3 : Int32) v120 (0 : Int32)))), .val (.int (((befF v120 (0 : Int32) v127 (1 : Int32)) + (befF v134 (2 : Int32) v127 (1 : Int32))) + (befF v141 (3 : Int32) v127 (1 : Int32)))), .unset, .unset, .unset, .unset]) rfl q) ?_
  show WGo _ _ _ _ _ _ _ _ T79 (mkF m 205 #[.val (.int p1), .val (.int p2), .val (.int p3), .val (.int p4), .val (.int p5), .val (.int p6), .val (.int v7), .val (.ref aK), .val (.int v62), .val (.int v69), .val (.int v76), .val (.int v84), .val (.ref aI), .val (.int v120), .val (.int v127), .val (.int v134), .val (.int v141), .val (.int (((befF v127 (1 : Int32) v120 (0 : Int32)) + (befF v134 (2 : Int32) v120 (0 : Int32))) + (befF v141 (3 : Int32) v120 (0 : Int32)))), .val (.int (((befF v120 (0 : Int32) v127 (1 : Int32)) + (befF v134 (2 : Int32) v127 (1 : Int32))) + (befF v141 (3 : Int32) v127 (1 : Int32)))), .unset, .unset, .unset, .unset] [])
  refine WGo.st (fun _ q => XS.iload S80.here hx rfl (hb hby at_205) rfl q) ?_
  show WGo _ _ _ _ _ _ _ _ T79 (mkF m 207 #[.val (.int p1), .val (.int p2), .val (.int p3), .val (.int p4), .val (.int p5), .val (.int p6), .val (.int v7), .val (.ref aK), .val (.int v62), .val (.int v69), .val (.int v76), .val (.int v84), .val (.ref aI), .val (.int v120), .val (.int v127), .val (.int v134), .val (.int v141), .val (.int (((befF v127 (1 : Int32) v120 (0 : Int32)) + (befF v134 (2 : Int32) v120 (0 : Int32))) + (befF v141 (3 : Int32) v120 (0 : Int32)))), .val (.int (((befF v120 (0 : Int32) v127 (1 : Int32)) + (befF v134 (2 : Int32) v127 (1 : Int32))) + (befF v141 (3 : Int32) v127 (1 : Int32)))), .unset, .unset, .unset, .unset] [(.int v120)])
  refine WGo.st (fun _ q => XS.iconst S80.here hx rfl (hb hby at_207) q) ?_
  show WGo _ _ _ _ _ _ _ _ T79 (mkF m 208 #[.val (.int p1), .val (.int p2), .val (.int p3), .val (.int p4), .val (.int p5), .val (.int p6), .val (.int v7), .val (.ref aK), .val (.int v62), .val (.int v69), .val (.int v76), .val (.int v84), .val (.ref aI), .val (.int v120), .val (.int v127), .val (.int v134), .val (.int v141), .val (.int (((befF v127 (1 : Int32) v120 (0 : Int32)) + (befF v134 (2 : Int32) v120 (0 : Int32))) + (befF v141 (3 : Int32) v120 (0 : Int32)))), .val (.int (((befF v120 (0 : Int32) v127 (1 : Int32)) + (befF v134 (2 : Int32) v127 (1 : Int32))) + (befF v141 (3 : Int32) v127 (1 : Int32)))), .unset, .unset, .unset, .unset] [(.int (0 : Int32)), (.int v120)])
  refine WGo.st (fun _ q => XS.iload S80.here hx rfl (hb hby at_208) rfl q) ?_
  show WGo _ _ _ _ _ _ _ _ T79 (mkF m 210 #[.val (.int p1), .val (.int p2), .val (.int p3), .val (.int p4), .val (.int p5), .val (.int p6), .val (.int v7), .val (.ref aK), .val (.int v62), .val (.int v69), .val (.int v76), .val (.int v84), .val (.ref aI), .val (.int v120), .val (.int v127), .val (.int v134), .val (.int v141), .val (.int (((befF v127 (1 : Int32) v120 (0 : Int32)) + (befF v134 (2 : Int32) v120 (0 : Int32))) + (befF v141 (3 : Int32) v120 (0 : Int32)))), .val (.int (((befF v120 (0 : Int32) v127 (1 : Int32)) + (befF v134 (2 : Int32) v127 (1 : Int32))) + (befF v141 (3 : Int32) v127 (1 : Int32)))), .unset, .unset, .unset, .unset] [(.int v134), (.int (0 : Int32)), (.int v120)])
  refine WGo.st (fun _ q => XS.iconst S80.here hx rfl (hb hby at_210) q) ?_
  show WGo _ _ _ _ _ _ _ _ T79 (mkF m 211 #[.val (.int p1), .val (.int p2), .val (.int p3), .val (.int p4), .val (.int p5), .val (.int p6), .val (.int v7), .val (.ref aK), .val (.int v62), .val (.int v69), .val (.int v76), .val (.int v84), .val (.ref aI), .val (.int v120), .val (.int v127), .val (.int v134), .val (.int v141), .val (.int (((befF v127 (1 : Int32) v120 (0 : Int32)) + (befF v134 (2 : Int32) v120 (0 : Int32))) + (befF v141 (3 : Int32) v120 (0 : Int32)))), .val (.int (((befF v120 (0 : Int32) v127 (1 : Int32)) + (befF v134 (2 : Int32) v127 (1 : Int32))) + (befF v141 (3 : Int32) v127 (1 : Int32)))), .unset, .unset, .unset, .unset] [(.int (2 : Int32)), (.int v134), (.int (0 : Int32)), (.int v120)])
  refine w_static S80 (y := (⟨"com/example/ookayama/ookayama/CountingSortByKeyPinLaw", "before", "(IIII)I"⟩ : MethodName)) hown (hw _ (List.mem_of_getElem? (i := 2) rfl)) (hw _ (List.mem_of_getElem? (i := 3) rfl)) (hw _ (List.mem_of_getElem? (i := 4) rfl)) (hw _ (List.mem_of_getElem? (i := 5) rfl)) (by decide) (rm_Bf l Z a0 hw n0 h49 v120 (0 : Int32) v134 (2 : Int32) S80.ge) (W := 0) (by decide) (by decide) (by decide) (by decide) rfl (by rw [hml]; rfl) (argsL := [(.int v120), (.int (0 : Int32)), (.int v134), (.int (2 : Int32))]) (rest := []) (ps := [.int, .int, .int, .int]) (rt := (some .int)) (by decide) rfl rfl rfl (by show 2 * 0 + _ ≤ _; exact Nat.le_of_eq rfl) (hb hby at_211) ?_
  intro T84 h86 w87 S85 q88
  obtain ⟨q88a, q88b⟩ := q88
  subst q88a
  replace q88b := Eq.symm q88b
  subst q88b
  show WGo _ _ _ _ _ _ _ _ T84 (mkF m 214 #[.val (.int p1), .val (.int p2), .val (.int p3), .val (.int p4), .val (.int p5), .val (.int p6), .val (.int v7), .val (.ref aK), .val (.int v62), .val (.int v69), .val (.int v76), .val (.int v84), .val (.ref aI), .val (.int v120), .val (.int v127), .val (.int v134), .val (.int v141), .val (.int (((befF v127 (1 : Int32) v120 (0 : Int32)) + (befF v134 (2 : Int32) v120 (0 : Int32))) + (befF v141 (3 : Int32) v120 (0 : Int32)))), .val (.int (((befF v120 (0 : Int32) v127 (1 : Int32)) + (befF v134 (2 : Int32) v127 (1 : Int32))) + (befF v141 (3 : Int32) v127 (1 : Int32)))), .unset, .unset, .unset, .unset] [(.int (befF v120 (0 : Int32) v134 (2 : Int32)))])
  refine WGo.st (fun _ q => XS.iload S85.here hx rfl (hb hby at_214) rfl q) ?_
  show WGo _ _ _ _ _ _ _ _ T84 (mkF m 216 #[.val (.int p1), .val (.int p2), .val (.int p3), .val (.int p4), .val (.int p5), .val (.int p6), .val (.int v7), .val (.ref aK), .val (.int v62), .val (.int v69), .val (.int v76), .val (.int v84), .val (.ref aI), .val (.int v120), .val (.int v127), .val (.int v134), .val (.int v141), .val (.int (((befF v127 (1 : Int32) v120 (0 : Int32)) + (befF v134 (2 : Int32) v120 (0 : Int32))) + (befF v141 (3 : Int32) v120 (0 : Int32)))), .val (.int (((befF v120 (0 : Int32) v127 (1 : Int32)) + (befF v134 (2 : Int32) v127 (1 : Int32))) + (befF v141 (3 : Int32) v127 (1 : Int32)))), .unset, .unset, .unset, .unset] [(.int v127), (.int (befF v120 (0 : Int32) v134 (2 : Int32)))])
  refine WGo.st (fun _ q => XS.iconst S85.here hx rfl (hb hby at_216) q) ?_
  show WGo _ _ _ _ _ _ _ _ T84 (mkF m 217 #[.val (.int p1), .val (.int p2), .val (.int p3), .val (.int p4), .val (.int p5), .val (.int p6), .val (.int v7), .val (.ref aK), .val (.int v62), .val (.int v69), .val (.int v76), .val (.int v84), .val (.ref aI), .val (.int v120), .val (.int v127), .val (.int v134), .val (.int v141), .val (.int (((befF v127 (1 : Int32) v120 (0 : Int32)) + (befF v134 (2 : Int32) v120 (0 : Int32))) + (befF v141 (3 : Int32) v120 (0 : Int32)))), .val (.int (((befF v120 (0 : Int32) v127 (1 : Int32)) + (befF v134 (2 : Int32) v127 (1 : Int32))) + (befF v141 (3 : Int32) v127 (1 : Int32)))), .unset, .unset, .unset, .unset] [(.int (1 : Int32)), (.int v127), (.int (befF v120 (0 : Int32) v134 (2 : Int32)))])
  refine WGo.st (fun _ q => XS.iload S85.here hx rfl (hb hby at_217) rfl q) ?_
  show WGo _ _ _ _ _ _ _ _ T84 (mkF m 219 #[.val (.int p1), .val (.int p2), .val (.int p3), .val (.int p4), .val (.int p5), .val (.int p6), .val (.int v7), .val (.ref aK), .val (.int v62), .val (.int v69), .val (.int v76), .val (.int v84), .val (.ref aI), .val (.int v120), .val (.int v127), .val (.int v134), .val (.int v141), .val (.int (((befF v127 (1 : Int32) v120 (0 : Int32)) + (befF v134 (2 : Int32) v120 (0 : Int32))) + (befF v141 (3 : Int32) v120 (0 : Int32)))), .val (.int (((befF v120 (0 : Int32) v127 (1 : Int32)) + (befF v134 (2 : Int32) v127 (1 : Int32))) + (befF v141 (3 : Int32) v127 (1 : Int32)))), .unset, .unset, .unset, .unset] [(.int v134), (.int (1 : Int32)), (.int v127), (.int (befF v120 (0 : Int32) v134 (2 : Int32)))])
  refine WGo.st (fun _ q => XS.iconst S85.here hx rfl (hb hby at_219) q) ?_
  show WGo _ _ _ _ _ _ _ _ T84 (mkF m 220 #[.val (.int p1), .val (.int p2), .val (.int p3), .val (.int p4), .val (.int p5), .val (.int p6), .val (.int v7), .val (.ref aK), .val (.int v62), .val (.int v69), .val (.int v76), .val (.int v84), .val (.ref aI), .val (.int v120), .val (.int v127), .val (.int v134), .val (.int v141), .val (.int (((befF v127 (1 : Int32) v120 (0 : Int32)) + (befF v134 (2 : Int32) v120 (0 : Int32))) + (befF v141 (3 : Int32) v120 (0 : Int32)))), .val (.int (((befF v120 (0 : Int32) v127 (1 : Int32)) + (befF v134 (2 : Int32) v127 (1 : Int32))) + (befF v141 (3 : Int32) v127 (1 : Int32)))), .unset, .unset, .unset, .unset] [(.int (2 : Int32)), (.int v134), (.int (1 : Int32)), (.int v127), (.int (befF v120 (0 : Int32) v134 (2 : Int32)))])
  refine w_static S85 (y := (⟨"com/example/ookayama/ookayama/CountingSortByKeyPinLaw", "before", "(IIII)I"⟩ : MethodName)) hown (hw _ (List.mem_of_getElem? (i := 2) rfl)) (hw _ (List.mem_of_getElem? (i := 3) rfl)) (hw _ (List.mem_of_getElem? (i := 4) rfl)) (hw _ (List.mem_of_getElem? (i := 5) rfl)) (by decide) (rm_Bf l Z a0 hw n0 h49 v127 (1 : Int32) v134 (2 : Int32) S85.ge) (W := 1) (by decide) (by decide) (by decide) (by decide) rfl (by rw [hml]; rfl) (argsL := [(.int v127), (.int (1 : Int32)), (.int v134), (.int (2 : Int32))]) (rest := [(.int (befF v120 (0 : Int32) v134 (2 : Int32)))]) (ps := [.int, .int, .int, .int]) (rt := (some .int)) (by decide) rfl rfl rfl (by show 2 * 0 + _ ≤ _; exact Nat.le_of_eq rfl) (hb hby at_220) ?_
  intro T89 h91 w92 S90 q93
  obtain ⟨q93a, q93b⟩ := q93
  subst q93a
  replace q93b := Eq.symm q93b
  subst q93b
  show WGo _ _ _ _ _ _ _ _ T89 (mkF m 223 #[.val (.int p1), .val (.int p2), .val (.int p3), .val (.int p4), .val (.int p5), .val (.int p6), .val (.int v7), .val (.ref aK), .val (.int v62), .val (.int v69), .val (.int v76), .val (.int v84), .val (.ref aI), .val (.int v120), .val (.int v127), .val (.int v134), .val (.int v141), .val (.int (((befF v127 (1 : Int32) v120 (0 : Int32)) + (befF v134 (2 : Int32) v120 (0 : Int32))) + (befF v141 (3 : Int32) v120 (0 : Int32)))), .val (.int (((befF v120 (0 : Int32) v127 (1 : Int32)) + (befF v134 (2 : Int32) v127 (1 : Int32))) + (befF v141 (3 : Int32) v127 (1 : Int32)))), .unset, .unset, .unset, .unset] [(.int (befF v127 (1 : Int32) v134 (2 : Int32))), (.int (befF v120 (0 : Int32) v134 (2 : Int32)))])
  refine WGo.st (fun _ q => XS.iadd S90.here hx rfl (hb hby at_223) rfl q) ?_
  show WGo _ _ _ _ _ _ _ _ T89 (mkF m 224 #[.val (.int p1), .val (.int p2), .val (.int p3), .val (.int p4), .val (.int p5), .val (.int p6), .val (.int v7), .val (.ref aK), .val (.int v62), .val (.int v69), .val (.int v76), .val (.int v84), .val (.ref aI), .val (.int v120), .val (.int v127), .val (.int v134), .val (.int v141), .val (.int (((befF v127 (1 : Int32) v120 (0 : Int32)) + (befF v134 (2 : Int32) v120 (0 : Int32))) + (befF v141 (3 : Int32) v120 (0 : Int32)))), .val (.int (((befF v120 (0 : Int32) v127 (1 : Int32)) + (befF v134 (2 : Int32) v127 (1 : Int32))) + (befF v141 (3 : Int32) v127 (1 : Int32)))), .unset, .unset, .unset, .unset] [(.int ((befF v120 (0 : Int32) v134 (2 : Int32)) + (befF v127 (1 : Int32) v134 (2 : Int32))))])
  refine WGo.st (fun _ q => XS.iload S90.here hx rfl (hb hby at_224) rfl q) ?_
  show WGo _ _ _ _ _ _ _ _ T89 (mkF m 226 #[.val (.int p1), .val (.int p2), .val (.int p3), .val (.int p4), .val (.int p5), .val (.int p6), .val (.int v7), .val (.ref aK), .val (.int v62), .val (.int v69), .val (.int v76), .val (.int v84), .val (.ref aI), .val (.int v120), .val (.int v127), .val (.int v134), .val (.int v141), .val (.int (((befF v127 (1 : Int32) v120 (0 : Int32)) + (befF v134 (2 : Int32) v120 (0 : Int32))) + (befF v141 (3 : Int32) v120 (0 : Int32)))), .val (.int (((befF v120 (0 : Int32) v127 (1 : Int32)) + (befF v134 (2 : Int32) v127 (1 : Int32))) + (befF v141 (3 : Int32) v127 (1 : Int32)))), .unset, .unset, .unset, .unset] [(.int v141), (.int ((befF v120 (0 : Int32) v134 (2 : Int32)) + (befF v127 (1 : Int32) v134 (2 : Int32))))])
  refine WGo.st (fun _ q => XS.iconst S90.here hx rfl (hb hby at_226) q) ?_
  show WGo _ _ _ _ _ _ _ _ T89 (mkF m 227 #[.val (.int p1), .val (.int p2), .val (.int p3), .val (.int p4), .val (.int p5), .val (.int p6), .val (.int v7), .val (.ref aK), .val (.int v62), .val (.int v69), .val (.int v76), .val (.int v84), .val (.ref aI), .val (.int v120), .val (.int v127), .val (.int v134), .val (.int v141), .val (.int (((befF v127 (1 : Int32) v120 (0 : Int32)) + (befF v134 (2 : Int32) v120 (0 : Int32))) + (befF v141 (3 : Int32) v120 (0 : Int32)))), .val (.int (((befF v120 (0 : Int32) v127 (1 : Int32)) + (befF v134 (2 : Int32) v127 (1 : Int32))) + (befF v141 (3 : Int32) v127 (1 : Int32)))), .unset, .unset, .unset, .unset] [(.int (3 : Int32)), (.int v141), (.int ((befF v120 (0 : Int32) v134 (2 : Int32)) + (befF v127 (1 : Int32) v134 (2 : Int32))))])
  refine WGo.st (fun _ q => XS.iload S90.here hx rfl (hb hby at_227) rfl q) ?_
  show WGo _ _ _ _ _ _ _ _ T89 (mkF m 229 #[.val (.int p1), .val (.int p2), .val (.int p3), .val (.int p4), .val (.int p5), .val (.int p6), .val (.int v7), .val (.ref aK), .val (.int v62), .val (.int v69), .val (.int v76), .val (.int v84), .val (.ref aI), .val (.int v120), .val (.int v127), .val (.int v134), .val (.int v141), .val (.int (((befF v127 (1 : Int32) v120 (0 : Int32)) + (befF v134 (2 : Int32) v120 (0 : Int32))) + (befF v141 (3 : Int32) v120 (0 : Int32)))), .val (.int (((befF v120 (0 : Int32) v127 (1 : Int32)) + (befF v134 (2 : Int32) v127 (1 : Int32))) + (befF v141 (3 : Int32) v127 (1 : Int32)))), .unset, .unset, .unset, .unset] [(.int v134), (.int (3 : Int32)), (.int v141), (.int ((befF v120 (0 : Int32) v134 (2 : Int32)) + (befF v127 (1 : Int32) v134 (2 : Int32))))])
  refine WGo.st (fun _ q => XS.iconst S90.here hx rfl (hb hby at_229) q) ?_
  show WGo _ _ _ _ _ _ _ _ T89 (mkF m 230 #[.val (.int p1), .val (.int p2), .val (.int p3), .val (.int p4), .val (.int p5), .val (.int p6), .val (.int v7), .val (.ref aK), .val (.int v62), .val (.int v69), .val (.int v76), .val (.int v84), .val (.ref aI), .val (.int v120), .val (.int v127), .val (.int v134), .val (.int v141), .val (.int (((befF v127 (1 : Int32) v120 (0 : Int32)) + (befF v134 (2 : Int32) v120 (0 : Int32))) + (befF v141 (3 : Int32) v120 (0 : Int32)))), .val (.int (((befF v120 (0 : Int32) v127 (1 : Int32)) + (befF v134 (2 : Int32) v127 (1 : Int32))) + (befF v141 (3 : Int32) v127 (1 : Int32)))), .unset, .unset, .unset, .unset] [(.int (2 : Int32)), (.int v134), (.int (3 : Int32)), (.int v141), (.int ((befF v120 (0 : Int32) v134 (2 : Int32)) + (befF v127 (1 : Int32) v134 (2 : Int32))))])
  refine w_static S90 (y := (⟨"com/example/ookayama/ookayama/CountingSortByKeyPinLaw", "before", "(IIII)I"⟩ : MethodName)) hown (hw _ (List.mem_of_getElem? (i := 2) rfl)) (hw _ (List.mem_of_getElem? (i := 3) rfl)) (hw _ (List.mem_of_getElem? (i := 4) rfl)) (hw _ (List.mem_of_getElem? (i := 5) rfl)) (by decide) (rm_Bf l Z a0 hw n0 h49 v141 (3 : Int32) v134 (2 : Int32) S90.ge) (W := 1) (by decide) (by decide) (by decide) (by decide) rfl (by rw [hml]; rfl) (argsL := [(.int v141), (.int (3 : Int32)), (.int v134), (.int (2 : Int32))]) (rest := [(.int ((befF v120 (0 : Int32) v134 (2 : Int32)) + (befF v127 (1 : Int32) v134 (2 : Int32))))]) (ps := [.int, .int, .int, .int]) (rt := (some .int)) (by decide) rfl rfl rfl (by show 2 * 0 + _ ≤ _; exact Nat.le_of_eq rfl) (hb hby at_230) ?_
  intro T94 h96 w97 S95 q98
  obtain ⟨q98a, q98b⟩ := q98
  subst q98a
  replace q98b := Eq.symm q98b
  subst q98b
  show WGo _ _ _ _ _ _ _ _ T94 (mkF m 233 #[.val (.int p1), .val (.int p2), .val (.int p3), .val (.int p4), .val (.int p5), .val (.int p6), .val (.int v7), .val (.ref aK), .val (.int v62), .val (.int v69), .val (.int v76), .val (.int v84), .val (.ref aI), .val (.int v120), .val (.int v127), .val (.int v134), .val (.int v141), .val (.int (((befF v127 (1 : Int32) v120 (0 : Int32)) + (befF v134 (2 : Int32) v120 (0 : Int32))) + (befF v141 (3 : Int32) v120 (0 : Int32)))), .val (.int (((befF v120 (0 : Int32) v127 (1 : Int32)) + (befF v134 (2 : Int32) v127 (1 : Int32))) + (befF v141 (3 : Int32) v127 (1 : Int32)))), .unset, .unset, .unset, .unset] [(.int (befF v141 (3 : Int32) v134 (2 : Int32))), (.int ((befF v120 (0 : Int32) v134 (2 : Int32)) + (befF v127 (1 : Int32) v134 (2 : Int32))))])
  refine WGo.st (fun _ q => XS.iadd S95.here hx rfl (hb hby at_233) rfl q) ?_
  show WGo _ _ _ _ _ _ _ _ T94 (mkF m 234 #[.val (.int p1), .val (.int p2), .val (.int p3), .val (.int p4), .val (.int p5), .val (.int p6), .val (.int v7), .val (.ref aK), .val (.int v62), .val (.int v69), .val (.int v76), .val (.int v84), .val (.ref aI), .val (.int v120), .val (.int v127), .val (.int v134), .val (.int v141), .val (.int (((befF v127 (1 : Int32) v120 (0 : Int32)) + (befF v134 (2 : Int32) v120 (0 : Int32))) + (befF v141 (3 : Int32) v120 (0 : Int32)))), .val (.int (((befF v120 (0 : Int32) v127 (1 : Int32)) + (befF v134 (2 : Int32) v127 (1 : Int32))) + (befF v141 (3 : Int32) v127 (1 : Int32)))), .unset, .unset, .unset, .unset] [(.int (((befF v120 (0 : Int32) v134 (2 : Int32)) + (befF v127 (1 : Int32) v134 (2 : Int32))) + (befF v141 (3 : Int32) v134 (2 : Int32))))])
  refine WGo.st (fun _ q => XS.istore S95.here hx rfl (hb hby at_234) rfl (l' := #[.val (.int p1), .val (.int p2), .val (.int p3), .val (.int p4), .val (.int p5), .val (.int p6), .val (.int v7), .val (.ref aK), .val (.int v62), .val (.int v69), .val (.int v76), .val (.int v84), .val (.ref aI), .val (.int v120), .val (.int v127), .val (.int v134), .val (.int v141), .val (.int (((befF v127 (1 : Int32) v120 (0 : Int32)) + (befF v134 (2 : Int32) v120 (0 : Int32))) + (befF v141 (3 : Int32) v120 (0 : Int32)))), .val (.int (((befF v120 (0 : Int32) v127 (1 : Int32)) + (befF v134 (2 : Int32) v127 (1 : Int32))) + (befF v141 (3 : Int32) v127 (1 : Int32)))), .val (.int (((befF v120 (0 : Int32) v134 (2 : Int32)) + (befF v127 (1 : Int32) v134 (2 : Int32))) + (befF v141 (3 : Int32) v134 (2 : Int32)))), .unset, .unset, .unset]) rfl q) ?_
  show WGo _ _ _ _ _ _ _ _ T94 (mkF m 236 #[.val (.int p1), .val (.int p2), .val (.int p3), .val (.int p4), .val (.int p5), .val (.int p6), .val (.int v7), .val (.ref aK), .val (.int v62), .val (.int v69), .val (.int v76), .val (.int v84), .val (.ref aI), .val (.int v120), .val (.int v127), .val (.int v134), .val (.int v141), .val (.int (((befF v127 (1 : Int32) v120 (0 : Int32)) + (befF v134 (2 : Int32) v120 (0 : Int32))) + (befF v141 (3 : Int32) v120 (0 : Int32)))), .val (.int (((befF v120 (0 : Int32) v127 (1 : Int32)) + (befF v134 (2 : Int32) v127 (1 : Int32))) + (befF v141 (3 : Int32) v127 (1 : Int32)))), .val (.int (((befF v120 (0 : Int32) v134 (2 : Int32)) + (befF v127 (1 : Int32) v134 (2 : Int32))) + (befF v141 (3 : Int32) v134 (2 : Int32)))), .unset, .unset, .unset] [])
  refine WGo.st (fun _ q => XS.iload S95.here hx rfl (hb hby at_236) rfl q) ?_
  show WGo _ _ _ _ _ _ _ _ T94 (mkF m 238 #[.val (.int p1), .val (.int p2), .val (.int p3), .val (.int p4), .val (.int p5), .val (.int p6), .val (.int v7), .val (.ref aK), .val (.int v62), .val (.int v69), .val (.int v76), .val (.int v84), .val (.ref aI), .val (.int v120), .val (.int v127), .val (.int v134), .val (.int v141), .val (.int (((befF v127 (1 : Int32) v120 (0 : Int32)) + (befF v134 (2 : Int32) v120 (0 : Int32))) + (befF v141 (3 : Int32) v120 (0 : Int32)))), .val (.int (((befF v120 (0 : Int32) v127 (1 : Int32)) + (befF v134 (2 : Int32) v127 (1 : Int32))) + (befF v141 (3 : Int32) v127 (1 : Int32)))), .val (.int (((befF v120 (0 : Int32) v134 (2 : Int32)) + (befF v127 (1 : Int32) v134 (2 : Int32))) + (befF v141 (3 : Int32) v134 (2 : Int32)))), .unset, .unset, .unset] [(.int v120)])
  refine WGo.st (fun _ q => XS.iconst S95.here hx rfl (hb hby at_238) q) ?_
  show WGo _ _ _ _ _ _ _ _ T94 (mkF m 239 #[.val (.int p1), .val (.int p2), .val (.int p3), .val (.int p4), .val (.int p5), .val (.int p6), .val (.int v7), .val (.ref aK), .val (.int v62), .val (.int v69), .val (.int v76), .val (.int v84), .val (.ref aI), .val (.int v120), .val (.int v127), .val (.int v134), .val (.int v141), .val (.int (((befF v127 (1 : Int32) v120 (0 : Int32)) + (befF v134 (2 : Int32) v120 (0 : Int32))) + (befF v141 (3 : Int32) v120 (0 : Int32)))), .val (.int (((befF v120 (0 : Int32) v127 (1 : Int32)) + (befF v134 (2 : Int32) v127 (1 : Int32))) + (befF v141 (3 : Int32) v127 (1 : Int32)))), .val (.int (((befF v120 (0 : Int32) v134 (2 : Int32)) + (befF v127 (1 : Int32) v134 (2 : Int32))) + (befF v141 (3 : Int32) v134 (2 : Int32)))), .unset, .unset, .unset] [(.int (0 : Int32)), (.int v120)])
  refine WGo.st (fun _ q => XS.iload S95.here hx rfl (hb hby at_239) rfl q) ?_
  show WGo _ _ _ _ _ _ _ _ T94 (mkF m 241 #[.val (.int p1), .val (.int p2), .val (.int p3), .val (.int p4), .val (.int p5), .val (.int p6), .val (.int v7), .val (.ref aK), .val (.int v62), .val (.int v69), .val (.int v76), .val (.int v84), .val (.ref aI), .val (.int v120), .val (.int v127), .val (.int v134), .val (.int v141), .val (.int (((befF v127 (1 : Int32) v120 (0 : Int32)) + (befF v134 (2 : Int32) v120 (0 : Int32))) + (befF v141 (3 : Int32) v120 (0 : Int32)))), .val (.int (((befF v120 (0 : Int32) v127 (1 : Int32)) + (befF v134 (2 : Int32) v127 (1 : Int32))) + (befF v141 (3 : Int32) v127 (1 : Int32)))), .val (.int (((befF v120 (0 : Int32) v134 (2 : Int32)) + (befF v127 (1 : Int32) v134 (2 : Int32))) + (befF v141 (3 : Int32) v134 (2 : Int32)))), .unset, .unset, .unset] [(.int v141), (.int (0 : Int32)), (.int v120)])
  refine WGo.st (fun _ q => XS.iconst S95.here hx rfl (hb hby at_241) q) ?_
  show WGo _ _ _ _ _ _ _ _ T94 (mkF m 242 #[.val (.int p1), .val (.int p2), .val (.int p3), .val (.int p4), .val (.int p5), .val (.int p6), .val (.int v7), .val (.ref aK), .val (.int v62), .val (.int v69), .val (.int v76), .val (.int v84), .val (.ref aI), .val (.int v120), .val (.int v127), .val (.int v134), .val (.int v141), .val (.int (((befF v127 (1 : Int32) v120 (0 : Int32)) + (befF v134 (2 : Int32) v120 (0 : Int32))) + (befF v141 (3 : Int32) v120 (0 : Int32)))), .val (.int (((befF v120 (0 : Int32) v127 (1 : Int32)) + (befF v134 (2 : Int32) v127 (1 : Int32))) + (befF v141 (3 : Int32) v127 (1 : Int32)))), .val (.int (((befF v120 (0 : Int32) v134 (2 : Int32)) + (befF v127 (1 : Int32) v134 (2 : Int32))) + (befF v141 (3 : Int32) v134 (2 : Int32)))), .unset, .unset, .unset] [(.int (3 : Int32)), (.int v141), (.int (0 : Int32)), (.int v120)])
  refine w_static S95 (y := (⟨"com/example/ookayama/ookayama/CountingSortByKeyPinLaw", "before", "(IIII)I"⟩ : MethodName)) hown (hw _ (List.mem_of_getElem? (i := 2) rfl)) (hw _ (List.mem_of_getElem? (i := 3) rfl)) (hw _ (List.mem_of_getElem? (i := 4) rfl)) (hw _ (List.mem_of_getElem? (i := 5) rfl)) (by decide) (rm_Bf l Z a0 hw n0 h49 v120 (0 : Int32) v141 (3 : Int32) S95.ge) (W := 0) (by decide) (by decide) (by decide) (by decide) rfl (by rw [hml]; rfl) (argsL := [(.int v120), (.int (0 : Int32)), (.int v141), (.int (3 : Int32))]) (rest := []) (ps := [.int, .int, .int, .int]) (rt := (some .int)) (by decide) rfl rfl rfl (by show 2 * 0 + _ ≤ _; exact Nat.le_of_eq rfl) (hb hby at_242) ?_
  intro T99 h101 w102 S100 q103
  obtain ⟨q103a, q103b⟩ := q103
  subst q103a
  replace q103b := Eq.symm q103b
  subst q103b
  show WGo _ _ _ _ _ _ _ _ T99 (mkF m 245 #[.val (.int p1), .val (.int p2), .val (.int p3), .val (.int p4), .val (.int p5), .val (.int p6), .val (.int v7), .val (.ref aK), .val (.int v62), .val (.int v69), .val (.int v76), .val (.int v84), .val (.ref aI), .val (.int v120), .val (.int v127), .val (.int v134), .val (.int v141), .val (.int (((befF v127 (1 : Int32) v120 (0 : Int32)) + (befF v134 (2 : Int32) v120 (0 : Int32))) + (befF v141 (3 : Int32) v120 (0 : Int32)))), .val (.int (((befF v120 (0 : Int32) v127 (1 : Int32)) + (befF v134 (2 : Int32) v127 (1 : Int32))) + (befF v141 (3 : Int32) v127 (1 : Int32)))), .val (.int (((befF v120 (0 : Int32) v134 (2 : Int32)) + (befF v127 (1 : Int32) v134 (2 : Int32))) + (befF v141 (3 : Int32) v134 (2 : Int32)))), .unset, .unset, .unset] [(.int (befF v120 (0 : Int32) v141 (3 : Int32)))])
  refine WGo.st (fun _ q => XS.iload S100.here hx rfl (hb hby at_245) rfl q) ?_
  show WGo _ _ _ _ _ _ _ _ T99 (mkF m 247 #[.val (.int p1), .val (.int p2), .val (.int p3), .val (.int p4), .val (.int p5), .val (.int p6), .val (.int v7), .val (.ref aK), .val (.int v62), .val (.int v69), .val (.int v76), .val (.int v84), .val (.ref aI), .val (.int v120), .val (.int v127), .val (.int v134), .val (.int v141), .val (.int (((befF v127 (1 : Int32) v120 (0 : Int32)) + (befF v134 (2 : Int32) v120 (0 : Int32))) + (befF v141 (3 : Int32) v120 (0 : Int32)))), .val (.int (((befF v120 (0 : Int32) v127 (1 : Int32)) + (befF v134 (2 : Int32) v127 (1 : Int32))) + (befF v141 (3 : Int32) v127 (1 : Int32)))), .val (.int (((befF v120 (0 : Int32) v134 (2 : Int32)) + (befF v127 (1 : Int32) v134 (2 : Int32))) + (befF v141 (3 : Int32) v134 (2 : Int32)))), .unset, .unset, .unset] [(.int v127), (.int (befF v120 (0 : Int32) v141 (3 : Int32)))])
  refine WGo.st (fun _ q => XS.iconst S100.here hx rfl (hb hby at_247) q) ?_
  show WGo _ _ _ _ _ _ _ _ T99 (mkF m 248 #[.val (.int p1), .val (.int p2), .val (.int p3), .val (.int p4), .val (.int p5), .val (.int p6), .val (.int v7), .val (.ref aK), .val (.int v62), .val (.int v69), .val (.int v76), .val (.int v84), .val (.ref aI), .val (.int v120), .val (.int v127), .val (.int v134), .val (.int v141), .val (.int (((befF v127 (1 : Int32) v120 (0 : Int32)) + (befF v134 (2 : Int32) v120 (0 : Int32))) + (befF v141 (3 : Int32) v120 (0 : Int32)))), .val (.int (((befF v120 (0 : Int32) v127 (1 : Int32)) + (befF v134 (2 : Int32) v127 (1 : Int32))) + (befF v141 (3 : Int32) v127 (1 : Int32)))), .val (.int (((befF v120 (0 : Int32) v134 (2 : Int32)) + (befF v127 (1 : Int32) v134 (2 : Int32))) + (befF v141 (3 : Int32) v134 (2 : Int32)))), .unset, .unset, .unset] [(.int (1 : Int32)), (.int v127), (.int (befF v120 (0 : Int32) v141 (3 : Int32)))])
  refine WGo.st (fun _ q => XS.iload S100.here hx rfl (hb hby at_248) rfl q) ?_
  show WGo _ _ _ _ _ _ _ _ T99 (mkF m 250 #[.val (.int p1), .val (.int p2), .val (.int p3), .val (.int p4), .val (.int p5), .val (.int p6), .val (.int v7), .val (.ref aK), .val (.int v62), .val (.int v69), .val (.int v76), .val (.int v84), .val (.ref aI), .val (.int v120), .val (.int v127), .val (.int v134), .val (.int v141), .val (.int (((befF v127 (1 : Int32) v120 (0 : Int32)) + (befF v134 (2 : Int32) v120 (0 : Int32))) + (befF v141 (3 : Int32) v120 (0 : Int32)))), .val (.int (((befF v120 (0 : Int32) v127 (1 : Int32)) + (befF v134 (2 : Int32) v127 (1 : Int32))) + (befF v141 (3 : Int32) v127 (1 : Int32)))), .val (.int (((befF v120 (0 : Int32) v134 (2 : Int32)) + (befF v127 (1 : Int32) v134 (2 : Int32))) + (befF v141 (3 : Int32) v134 (2 : Int32)))), .unset, .unset, .unset] [(.int v141), (.int (1 : Int32)), (.int v127), (.int (befF v120 (0 : Int32) v141 (3 : Int32)))])
  refine WGo.st (fun _ q => XS.iconst S100.here hx rfl (hb hby at_250) q) ?_
  show WGo _ _ _ _ _ _ _ _ T99 (mkF m 251 #[.val (.int p1), .val (.int p2), .val (.int p3), .val (.int p4), .val (.int p5), .val (.int p6), .val (.int v7), .val (.ref aK), .val (.int v62), .val (.int v69), .val (.int v76), .val (.int v84), .val (.ref aI), .val (.int v120), .val (.int v127), .val (.int v134), .val (.int v141), .val (.int (((befF v127 (1 : Int32) v120 (0 : Int32)) + (befF v134 (2 : Int32) v120 (0 : Int32))) + (befF v141 (3 : Int32) v120 (0 : Int32)))), .val (.int (((befF v120 (0 : Int32) v127 (1 : Int32)) + (befF v134 (2 : Int32) v127 (1 : Int32))) + (befF v141 (3 : Int32) v127 (1 : Int32)))), .val (.int (((befF v120 (0 : Int32) v134 (2 : Int32)) + (befF v127 (1 : Int32) v134 (2 : Int32))) + (befF v141 (3 : Int32) v134 (2 : Int32)))), .unset, .unset, .unset] [(.int (3 : Int32)), (.int v141), (.int (1 : Int32)), (.int v127), (.int (befF v120 (0 : Int32) v141 (3 : Int32)))])
  refine w_static S100 (y := (⟨"com/example/ookayama/ookayama/CountingSortByKeyPinLaw", "before", "(IIII)I"⟩ : MethodName)) hown (hw _ (List.mem_of_getElem? (i := 2) rfl)) (hw _ (List.mem_of_getElem? (i := 3) rfl)) (hw _ (List.mem_of_getElem? (i := 4) rfl)) (hw _ (List.mem_of_getElem? (i := 5) rfl)) (by decide) (rm_Bf l Z a0 hw n0 h49 v127 (1 : Int32) v141 (3 : Int32) S100.ge) (W := 1) (by decide) (by decide) (by decide) (by decide) rfl (by rw [hml]; rfl) (argsL := [(.int v127), (.int (1 : Int32)), (.int v141), (.int (3 : Int32))]) (rest := [(.int (befF v120 (0 : Int32) v141 (3 : Int32)))]) (ps := [.int, .int, .int, .int]) (rt := (some .int)) (by decide) rfl rfl rfl (by show 2 * 0 + _ ≤ _; exact Nat.le_of_eq rfl) (hb hby at_251) ?_
  intro T104 h106 w107 S105 q108
  obtain ⟨q108a, q108b⟩ := q108
  subst q108a
  replace q108b := Eq.symm q108b
  subst q108b
  show WGo _ _ _ _ _ _ _ _ T104 (mkF m 254 #[.val (.int p1), .val (.int p2), .val (.int p3), .val (.int p4), .val (.int p5), .val (.int p6), .val (.int v7), .val (.ref aK), .val (.int v62), .val (.int v69), .val (.int v76), .val (.int v84), .val (.ref aI), .val (.int v120), .val (.int v127), .val (.int v134), .val (.int v141), .val (.int (((befF v127 (1 : Int32) v120 (0 : Int32)) + (befF v134 (2 : Int32) v120 (0 : Int32))) + (befF v141 (3 : Int32) v120 (0 : Int32)))), .val (.int (((befF v120 (0 : Int32) v127 (1 : Int32)) + (befF v134 (2 : Int32) v127 (1 : Int32))) + (befF v141 (3 : Int32) v127 (1 : Int32)))), .val (.int (((befF v120 (0 : Int32) v134 (2 : Int32)) + (befF v127 (1 : Int32) v134 (2 : Int32))) + (befF v141 (3 : Int32) v134 (2 : Int32)))), .unset, .unset, .unset] [(.int (befF v127 (1 : Int32) v141 (3 : Int32))), (.int (befF v120 (0 : Int32) v141 (3 : Int32)))])
  refine WGo.st (fun _ q => XS.iadd S105.here hx rfl (hb hby at_254) rfl q) ?_
  show WGo _ _ _ _ _ _ _ _ T104 (mkF m 255 #[.val (.int p1), .val (.int p2), .val (.int p3), .val (.int p4), .val (.int p5), .val (.int p6), .val (.int v7), .val (.ref aK), .val (.int v62), .val (.int v69), .val (.int v76), .val (.int v84), .val (.ref aI), .val (.int v120), .val (.int v127), .val (.int v134), .val (.int v141), .val (.int (((befF v127 (1 : Int32) v120 (0 : Int32)) + (befF v134 (2 : Int32) v120 (0 : Int32))) + (befF v141 (3 : Int32) v120 (0 : Int32)))), .val (.int (((befF v120 (0 : Int32) v127 (1 : Int32)) + (befF v134 (2 : Int32) v127 (1 : Int32))) + (befF v141 (3 : Int32) v127 (1 : Int32)))), .val (.int (((befF v120 (0 : Int32) v134 (2 : Int32)) + (befF v127 (1 : Int32) v134 (2 : Int32))) + (befF v141 (3 : Int32) v134 (2 : Int32)))), .unset, .unset, .unset] [(.int ((befF v120 (0 : Int32) v141 (3 : Int32)) + (befF v127 (1 : Int32) v141 (3 : Int32))))])
  refine WGo.st (fun _ q => XS.iload S105.here hx rfl (hb hby at_255) rfl q) ?_
  show WGo _ _ _ _ _ _ _ _ T104 (mkF m 257 #[.val (.int p1), .val (.int p2), .val (.int p3), .val (.int p4), .val (.int p5), .val (.int p6), .val (.int v7), .val (.ref aK), .val (.int v62), .val (.int v69), .val (.int v76), .val (.int v84), .val (.ref aI), .val (.int v120), .val (.int v127), .val (.int v134), .val (.int v141), .val (.int (((befF v127 (1 : Int32) v120 (0 : Int32)) + (befF v134 (2 : Int32) v120 (0 : Int32))) + (befF v141 (3 : Int32) v120 (0 : Int32)))), .val (.int (((befF v120 (0 : Int32) v127 (1 : Int32)) + (befF v134 (2 : Int32) v127 (1 : Int32))) + (befF v141 (3 : Int32) v127 (1 : Int32)))), .val (.int (((befF v120 (0 : Int32) v134 (2 : Int32)) + (befF v127 (1 : Int32) v134 (2 : Int32))) + (befF v141 (3 : Int32) v134 (2 : Int32)))), .unset, .unset, .unset] [(.int v134), (.int ((befF v120 (0 : Int32) v141 (3 : Int32)) + (befF v127 (1 : Int32) v141 (3 : Int32))))])
  refine WGo.st (fun _ q => XS.iconst S105.here hx rfl (hb hby at_257) q) ?_
  show WGo _ _ _ _ _ _ _ _ T104 (mkF m 258 #[.val (.int p1), .val (.int p2), .val (.int p3), .val (.int p4), .val (.int p5), .val (.int p6), .val (.int v7), .val (.ref aK), .val (.int v62), .val (.int v69), .val (.int v76), .val (.int v84), .val (.ref aI), .val (.int v120), .val (.int v127), .val (.int v134), .val (.int v141), .val (.int (((befF v127 (1 : Int32) v120 (0 : Int32)) + (befF v134 (2 : Int32) v120 (0 : Int32))) + (befF v141 (3 : Int32) v120 (0 : Int32)))), .val (.int (((befF v120 (0 : Int32) v127 (1 : Int32)) + (befF v134 (2 : Int32) v127 (1 : Int32))) + (befF v141 (3 : Int32) v127 (1 : Int32)))), .val (.int (((befF v120 (0 : Int32) v134 (2 : Int32)) + (befF v127 (1 : Int32) v134 (2 : Int32))) + (befF v141 (3 : Int32) v134 (2 : Int32)))), .unset, .unset, .unset] [(.int (2 : Int32)), (.int v134), (.int ((befF v120 (0 : Int32) v141 (3 : Int32)) + (befF v127 (1 : Int32) v141 (3 : Int32))))])
  refine WGo.st (fun _ q => XS.iload S105.here hx rfl (hb hby at_258) rfl q) ?_
  show WGo _ _ _ _ _ _ _ _ T104 (mkF m 260 #[.val (.int p1), .val (.int p2), .val (.int p3), .val (.int p4), .val (.int p5), .val (.int p6), .val (.int v7), .val (.ref aK), .val (.int v62), .val (.int v69), .val (.int v76), .val (.int v84), .val (.ref aI), .val (.int v120), .val (.int v127), .val (.int v134), .val (.int v141), .val (.int (((befF v127 (1 : Int32) v120 (0 : Int32)) + (befF v134 (2 : Int32) v120 (0 : Int32))) + (befF v141 (3 : Int32) v120 (0 : Int32)))), .val (.int (((befF v120 (0 : Int32) v127 (1 : Int32)) + (befF v134 (2 : Int32) v127 (1 : Int32))) + (befF v141 (3 : Int32) v127 (1 : Int32)))), .val (.int (((befF v120 (0 : Int32) v134 (2 : Int32)) + (befF v127 (1 : Int32) v134 (2 : Int32))) + (befF v141 (3 : Int32) v134 (2 : Int32)))), .unset, .unset, .unset] [(.int v141), (.int (2 : Int32)), (.int v134), (.int ((befF v120 (0 : Int32) v141 (3 : Int32)) + (befF v127 (1 : Int32) v141 (3 : Int32))))])
  refine WGo.st (fun _ q => XS.iconst S105.here hx rfl (hb hby at_260) q) ?_
  show WGo _ _ _ _ _ _ _ _ T104 (mkF m 261 #[.val (.int p1), .val (.int p2), .val (.int p3), .val (.int p4), .val (.int p5), .val (.int p6), .val (.int v7), .val (.ref aK), .val (.int v62), .val (.int v69), .val (.int v76), .val (.int v84), .val (.ref aI), .val (.int v120), .val (.int v127), .val (.int v134), .val (.int v141), .val (.int (((befF v127 (1 : Int32) v120 (0 : Int32)) + (befF v134 (2 : Int32) v120 (0 : Int32))) + (befF v141 (3 : Int32) v120 (0 : Int32)))), .val (.int (((befF v120 (0 : Int32) v127 (1 : Int32)) + (befF v134 (2 : Int32) v127 (1 : Int32))) + (befF v141 (3 : Int32) v127 (1 : Int32)))), .val (.int (((befF v120 (0 : Int32) v134 (2 : Int32)) + (befF v127 (1 : Int32) v134 (2 : Int32))) + (befF v141 (3 : Int32) v134 (2 : Int32)))), .unset, .unset, .unset] [(.int (3 : Int32)), (.int v141), (.int (2 : Int32)), (.int v134), (.int ((befF v120 (0 : Int32) v141 (3 : Int32)) + (befF v127 (1 : Int32) v141 (3 : Int32))))])
  refine w_static S105 (y := (⟨"com/example/ookayama/ookayama/CountingSortByKeyPinLaw", "before", "(IIII)I"⟩ : MethodName)) hown (hw _ (List.mem_of_getElem? (i := 2) rfl)) (hw _ (List.mem_of_getElem? (i := 3) rfl)) (hw _ (List.mem_of_getElem? (i := 4) rfl)) (hw _ (List.mem_of_getElem? (i := 5) rfl)) (by decide) (rm_Bf l Z a0 hw n0 h49 v134 (2 : Int32) v141 (3 : Int32) S105.ge) (W := 1) (by decide) (by decide) (by decide) (by decide) rfl (by rw [hml]; rfl) (argsL := [(.int v134), (.int (2 : Int32)), (.int v141), (.int (3 : Int32))]) (rest := [(.int ((befF v120 (0 : Int32) v141 (3 : Int32)) + (befF v127 (1 : Int32) v141 (3 : Int32))))]) (ps := [.int, .int, .int, .int]) (rt := (some .int)) (by decide) rfl rfl rfl (by show 2 * 0 + _ ≤ _; exact Nat.le_of_eq rfl) (hb hby at_261) ?_
  intro T109 h111 w112 S110 q113
  obtain ⟨q113a, q113b⟩ := q113
  subst q113a
  replace q113b := Eq.symm q113b
  subst q113b
  show WGo _ _ _ _ _ _ _ _ T109 (mkF m 264 #[.val (.int p1), .val (.int p2), .val (.int p3), .val (.int p4), .val (.int p5), .val (.int p6), .val (.int v7), .val (.ref aK), .val (.int v62), .val (.int v69), .val (.int v76), .val (.int v84), .val (.ref aI), .val (.int v120), .val (.int v127), .val (.int v134), .val (.int v141), .val (.int (((befF v127 (1 : Int32) v120 (0 : Int32)) + (befF v134 (2 : Int32) v120 (0 : Int32))) + (befF v141 (3 : Int32) v120 (0 : Int32)))), .val (.int (((befF v120 (0 : Int32) v127 (1 : Int32)) + (befF v134 (2 : Int32) v127 (1 : Int32))) + (befF v141 (3 : Int32) v127 (1 : Int32)))), .val (.int (((befF v120 (0 : Int32) v134 (2 : Int32)) + (befF v127 (1 : Int32) v134 (2 : Int32))) + (befF v141 (3 : Int32) v134 (2 : Int32)))), .unset, .unset, .unset] [(.int (befF v134 (2 : Int32) v141 (3 : Int32))), (.int ((befF v120 (0 : Int32) v141 (3 : Int32)) + (befF v127 (1 : Int32) v141 (3 : Int32))))])
  refine WGo.st (fun _ q => XS.iadd S110.here hx rfl (hb hby at_264) rfl q) ?_
  show WGo _ _ _ _ _ _ _ _ T109 (mkF m 265 #[.val (.int p1), .val (.int p2), .val (.int p3), .val (.int p4), .val (.int p5), .val (.int p6), .val (.int v7), .val (.ref aK), .val (.int v62), .val (.int v69), .val (.int v76), .val (.int v84), .val (.ref aI), .val (.int v120), .val (.int v127), .val (.int v134), .val (.int v141), .val (.int (((befF v127 (1 : Int32) v120 (0 : Int32)) + (befF v134 (2 : Int32) v120 (0 : Int32))) + (befF v141 (3 : Int32) v120 (0 : Int32)))), .val (.int (((befF v120 (0 : Int32) v127 (1 : Int32)) + (befF v134 (2 : Int32) v127 (1 : Int32))) + (befF v141 (3 : Int32) v127 (1 : Int32)))), .val (.int (((befF v120 (0 : Int32) v134 (2 : Int32)) + (befF v127 (1 : Int32) v134 (2 : Int32))) + (befF v141 (3 : Int32) v134 (2 : Int32)))), .unset, .unset, .unset] [(.int (((befF v120 (0 : Int32) v141 (3 : Int32)) + (befF v127 (1 : Int32) v141 (3 : Int32))) + (befF v134 (2 : Int32) v141 (3 : Int32))))])
  refine WGo.st (fun _ q => XS.istore S110.here hx rfl (hb hby at_265) rfl (l' := #[.val (.int p1), .val (.int p2), .val (.int p3), .val (.int p4), .val (.int p5), .val (.int p6), .val (.int v7), .val (.ref aK), .val (.int v62), .val (.int v69), .val (.int v76), .val (.int v84), .val (.ref aI), .val (.int v120), .val (.int v127), .val (.int v134), .val (.int v141), .val (.int (((befF v127 (1 : Int32) v120 (0 : Int32)) + (befF v134 (2 : Int32) v120 (0 : Int32))) + (befF v141 (3 : Int32) v120 (0 : Int32)))), .val (.int (((befF v120 (0 : Int32) v127 (1 : Int32)) + (befF v134 (2 : Int32) v127 (1 : Int32))) + (befF v141 (3 : Int32) v127 (1 : Int32)))), .val (.int (((befF v120 (0 : Int32) v134 (2 : Int32)) + (befF v127 (1 : Int32) v134 (2 : Int32))) + (befF v141 (3 : Int32) v134 (2 : Int32)))), .val (.int (((befF v120 (0 : Int32) v141 (3 : Int32)) + (befF v127 (1 : Int32) v141 (3 : Int32))) + (befF v134 (2 : Int32) v141 (3 : Int32)))), .unset, .unset]) rfl q) ?_
  show WGo _ _ _ _ _ _ _ _ T109 (mkF m 267 #[.val (.int p1), .val (.int p2), .val (.int p3), .val (.int p4), .val (.int p5), .val (.int p6), .val (.int v7), .val (.ref aK), .val (.int v62), .val (.int v69), .val (.int v76), .val (.int v84), .val (.ref aI), .val (.int v120), .val (.int v127), .val (.int v134), .val (.int v141), .val (.int (((befF v127 (1 : Int32) v120 (0 : Int32)) + (befF v134 (2 : Int32) v120 (0 : Int32))) + (befF v141 (3 : Int32) v120 (0 : Int32)))), .val (.int (((befF v120 (0 : Int32) v127 (1 : Int32)) + (befF v134 (2 : Int32) v127 (1 : Int32))) + (befF v141 (3 : Int32) v127 (1 : Int32)))), .val (.int (((befF v120 (0 : Int32) v134 (2 : Int32)) + (befF v127 (1 : Int32) v134 (2 : Int32))) + (befF v141 (3 : Int32) v134 (2 : Int32)))), .val (.int (((befF v120 (0 : Int32) v141 (3 : Int32)) + (befF v127 (1 : Int32) v141 (3 : Int32))) + (befF v134 (2 : Int32) v141 (3 : Int32)))), .unset, .unset] [])
  show WGo _ _ _ _ _ _ _ _ T109 (mkF m 267 #[.val (.int p1), .val (.int p2), .val (.int p3), .val (.int p4), .val (.int p5), .val (.int p6), .val (.int v7), .val (.ref aK), .val (.int v62), .val (.int v69), .val (.int v76), .val (.int v84), .val (.ref aI), .val (.int v120), .val (.int v127), .val (.int v134), .val (.int v141), .val (.int (r0F v120 v127 v134 v141)), .val (.int (r1F v120 v127 v134 v141)), .val (.int (r2F v120 v127 v134 v141)), .val (.int (r3F v120 v127 v134 v141)), .unset, .unset] [])
  refine WGo.st (fun _ q => XS.iconst S110.here hx rfl (hb hby at_267) q) ?_
  show WGo _ _ _ _ _ _ _ _ T109 (mkF m 268 #[.val (.int p1), .val (.int p2), .val (.int p3), .val (.int p4), .val (.int p5), .val (.int p6), .val (.int v7), .val (.ref aK), .val (.int v62), .val (.int v69), .val (.int v76), .val (.int v84), .val (.ref aI), .val (.int v120), .val (.int v127), .val (.int v134), .val (.int v141), .val (.int (r0F v120 v127 v134 v141)), .val (.int (r1F v120 v127 v134 v141)), .val (.int (r2F v120 v127 v134 v141)), .val (.int (r3F v120 v127 v134 v141)), .unset, .unset] [(.int (4 : Int32))])
  refine w_newarray S110 (hw _ (List.mem_of_getElem? (i := 0) rfl)) rfl rfl (hb hby at_268) rfl (by decide) (cap := 4) (by decide) (by decide) (by decide) (by decide) (L := [(0 : Int32), (0 : Int32), (0 : Int32), (0 : Int32)]) rfl ?_
  intro T114 h115 aX S116 K117 e_aX g_aX A_aX
  have n_aK_aX : aK ≠ aX := by rw [e_aX]; exact Nat.ne_of_lt f53.lt
  have n_aI_aX : aI ≠ aX := by rw [e_aX]; exact Nat.ne_of_lt A52.lt
  have f118 := AI.keep f53 K117 nin0
  have f119 := AI.keep A52 K117 nin0
  show WGo _ _ _ _ _ _ _ _ T114 (mkF m 270 #[.val (.int p1), .val (.int p2), .val (.int p3), .val (.int p4), .val (.int p5), .val (.int p6), .val (.int v7), .val (.ref aK), .val (.int v62), .val (.int v69), .val (.int v76), .val (.int v84), .val (.ref aI), .val (.int v120), .val (.int v127), .val (.int v134), .val (.int v141), .val (.int (r0F v120 v127 v134 v141)), .val (.int (r1F v120 v127 v134 v141)), .val (.int (r2F v120 v127 v134 v141)), .val (.int (r3F v120 v127 v134 v141)), .unset, .unset] [(.ref aX)])
  refine WGo.st (fun _ q => XS.astore S116.here hx rfl (hb hby at_270) rfl rfl (l' := #[.val (.int p1), .val (.int p2), .val (.int p3), .val (.int p4), .val (.int p5), .val (.int p6), .val (.int v7), .val (.ref aK), .val (.int v62), .val (.int v69), .val (.int v76), .val (.int v84), .val (.ref aI), .val (.int v120), .val (.int v127), .val (.int v134), .val (.int v141), .val (.int (r0F v120 v127 v134 v141)), .val (.int (r1F v120 v127 v134 v141)), .val (.int (r2F v120 v127 v134 v141)), .val (.int (r3F v120 v127 v134 v141)), .val (.ref aX), .unset]) rfl q) ?_
  show WGo _ _ _ _ _ _ _ _ T114 (mkF m 272 #[.val (.int p1), .val (.int p2), .val (.int p3), .val (.int p4), .val (.int p5), .val (.int p6), .val (.int v7), .val (.ref aK), .val (.int v62), .val (.int v69), .val (.int v76), .val (.int v84), .val (.ref aI), .val (.int v120), .val (.int v127), .val (.int v134), .val (.int v141), .val (.int (r0F v120 v127 v134 v141)), .val (.int (r1F v120 v127 v134 v141)), .val (.int (r2F v120 v127 v134 v141)), .val (.int (r3F v120 v127 v134 v141)), .val (.ref aX), .unset] [])
  refine WGo.st (fun _ q => XS.aload S116.here hx rfl (hb hby at_272) rfl rfl q) ?_
  show WGo _ _ _ _ _ _ _ _ T114 (mkF m 274 #[.val (.int p1), .val (.int p2), .val (.int p3), .val (.int p4), .val (.int p5), .val (.int p6), .val (.int v7), .val (.ref aK), .val (.int v62), .val (.int v69), .val (.int v76), .val (.int v84), .val (.ref aI), .val (.int v120), .val (.int v127), .val (.int v134), .val (.int v141), .val (.int (r0F v120 v127 v134 v141)), .val (.int (r1F v120 v127 v134 v141)), .val (.int (r2F v120 v127 v134 v141)), .val (.int (r3F v120 v127 v134 v141)), .val (.ref aX), .unset] [(.ref aX)])
  refine WGo.st (fun _ q => XS.iload S116.here hx rfl (hb hby at_274) rfl q) ?_
  show WGo _ _ _ _ _ _ _ _ T114 (mkF m 276 #[.val (.int p1), .val (.int p2), .val (.int p3), .val (.int p4), .val (.int p5), .val (.int p6), .val (.int v7), .val (.ref aK), .val (.int v62), .val (.int v69), .val (.int v76), .val (.int v84), .val (.ref aI), .val (.int v120), .val (.int v127), .val (.int v134), .val (.int v141), .val (.int (r0F v120 v127 v134 v141)), .val (.int (r1F v120 v127 v134 v141)), .val (.int (r2F v120 v127 v134 v141)), .val (.int (r3F v120 v127 v134 v141)), .val (.ref aX), .unset] [(.int (r0F v120 v127 v134 v141)), (.ref aX)])
  refine WGo.st (fun _ q => XS.iload S116.here hx rfl (hb hby at_276) rfl q) ?_
  show WGo _ _ _ _ _ _ _ _ T114 (mkF m 278 #[.val (.int p1), .val (.int p2), .val (.int p3), .val (.int p4), .val (.int p5), .val (.int p6), .val (.int v7), .val (.ref aK), .val (.int v62), .val (.int v69), .val (.int v76), .val (.int v84), .val (.ref aI), .val (.int v120), .val (.int v127), .val (.int v134), .val (.int v141), .val (.int (r0F v120 v127 v134 v141)), .val (.int (r1F v120 v127 v134 v141)), .val (.int (r2F v120 v127 v134 v141)), .val (.int (r3F v120 v127 v134 v141)), .val (.ref aX), .unset] [(.int v62), (.int (r0F v120 v127 v134 v141)), (.ref aX)])
  refine w_iastore S116 A_aX g_aX rfl (hb hby at_278) rfl (r0_rng v120 v127 v134 v141).1 (by exact (r0_rng v120 v127 v134 v141).2) (L' := (si [(0 : Int32), (0 : Int32), (0 : Int32), (0 : Int32)] (r0F v120 v127 v134 v141) v62)) rfl ?_
  intro T120 h121 S122 K123 A124
  have f125 := AI.keep f118 K123 (ninS n_aK_aX nin0)
  have f126 := AI.keep f119 K123 (ninS n_aI_aX nin0)
  show WGo _ _ _ _ _ _ _ _ T120 (mkF m 279 #[.val (.int p1), .val (.int p2), .val (.int p3), .val (.int p4), .val (.int p5), .val (.int p6), .val (.int v7), .val (.ref aK), .val (.int v62), .val (.int v69), .val (.int v76), .val (.int v84), .val (.ref aI), .val (.int v120), .val (.int v127), .val (.int v134), .val (.int v141), .val (.int (r0F v120 v127 v134 v141)), .val (.int (r1F v120 v127 v134 v141)), .val (.int (r2F v120 v127 v134 v141)), .val (.int (r3F v120 v127 v134 v141)), .val (.ref aX), .unset] [])
  refine WGo.st (fun _ q => XS.aload S122.here hx rfl (hb hby at_279) rfl rfl q) ?_
  show WGo _ _ _ _ _ _ _ _ T120 (mkF m 281 #[.val (.int p1), .val (.int p2), .val (.int p3), .val (.int p4), .val (.int p5), .val (.int p6), .val (.int v7), .val (.ref aK), .val (.int v62), .val (.int v69), .val (.int v76), .val (.int v84), .val (.ref aI), .val (.int v120), .val (.int v127), .val (.int v134), .val (.int v141), .val (.int (r0F v120 v127 v134 v141)), .val (.int (r1F v120 v127 v134 v141)), .val (.int (r2F v120 v127 v134 v141)), .val (.int (r3F v120 v127 v134 v141)), .val (.ref aX), .unset] [(.ref aX)])
  refine WGo.st (fun _ q => XS.iload S122.here hx rfl (hb hby at_281) rfl q) ?_
  show WGo _ _ _ _ _ _ _ _ T120 (mkF m 283 #[.val (.int p1), .val (.int p2), .val (.int p3), .val (.int p4), .val (.int p5), .val (.int p6), .val (.int v7), .val (.ref aK), .val (.int v62), .val (.int v69), .val (.int v76), .val (.int v84), .val (.ref aI), .val (.int v120), .val (.int v127), .val (.int v134), .val (.int v141), .val (.int (r0F v120 v127 v134 v141)), .val (.int (r1F v120 v127 v134 v141)), .val (.int (r2F v120 v127 v134 v141)), .val (.int (r3F v120 v127 v134 v141)), .val (.ref aX), .unset] [(.int (r1F v120 v127 v134 v141)), (.ref aX)])
  refine WGo.st (fun _ q => XS.iload S122.here hx rfl (hb hby at_283) rfl q) ?_
  show WGo _ _ _ _ _ _ _ _ T120 (mkF m 285 #[.val (.int p1), .val (.int p2), .val (.int p3), .val (.int p4), .val (.int p5), .val (.int p6), .val (.int v7), .val (.ref aK), .val (.int v62), .val (.int v69), .val (.int v76), .val (.int v84), .val (.ref aI), .val (.int v120), .val (.int v127), .val (.int v134), .val (.int v141), .val (.int (r0F v120 v127 v134 v141)), .val (.int (r1F v120 v127 v134 v141)), .val (.int (r2F v120 v127 v134 v141)), .val (.int (r3F v120 v127 v134 v141)), .val (.ref aX), .unset] [(.int v69), (.int (r1F v120 v127 v134 v141)), (.ref aX)])
  refine w_iastore S122 A124 g_aX rfl (hb hby at_285) rfl (r1_rng v120 v127 v134 v141).1 (by rw [si_len]; exact (r1_rng v120 v127 v134 v141).2) (L' := (si (si [(0 : Int32), (0 : Int32), (0 : Int32), (0 : Int32)] (r0F v120 v127 v134 v141) v62) (r1F v120 v127 v134 v141) v69)) rfl ?_
  intro T127 h128 S129 K130 A131
  have f132 := AI.keep f125 K130 (ninS n_aK_aX nin0)
  have f133 := AI.keep f126 K130 (ninS n_aI_aX nin0)
  show WGo _ _ _ _ _ _ _ _ T127 (mkF m 286 #[.val (.int p1), .val (.int p2), .val (.int p3), .val (.int p4), .val (.int p5), .val (.int p6), .val (.int v7), .val (.ref aK), .val (.int v62), .val (.int v69), .val (.int v76), .val (.int v84), .val (.ref aI), .val (.int v120), .val (.int v127), .val (.int v134), .val (.int v141), .val (.int (r0F v120 v127 v134 v141)), .val (.int (r1F v120 v127 v134 v141)), .val (.int (r2F v120 v127 v134 v141)), .val (.int (r3F v120 v127 v134 v141)), .val (.ref aX), .unset] [])
  refine WGo.st (fun _ q => XS.aload S129.here hx rfl (hb hby at_286) rfl rfl q) ?_
  show WGo _ _ _ _ _ _ _ _ T127 (mkF m 288 #[.val (.int p1), .val (.int p2), .val (.int p3), .val (.int p4), .val (.int p5), .val (.int p6), .val (.int v7), .val (.ref aK), .val (.int v62), .val (.int v69), .val (.int v76), .val (.int v84), .val (.ref aI), .val (.int v120), .val (.int v127), .val (.int v134), .val (.int v141), .val (.int (r0F v120 v127 v134 v141)), .val (.int (r1F v120 v127 v134 v141)), .val (.int (r2F v120 v127 v134 v141)), .val (.int (r3F v120 v127 v134 v141)), .val (.ref aX), .unset] [(.ref aX)])
  refine WGo.st (fun _ q => XS.iload S129.here hx rfl (hb hby at_288) rfl q) ?_
  show WGo _ _ _ _ _ _ _ _ T127 (mkF m 290 #[.val (.int p1), .val (.int p2), .val (.int p3), .val (.int p4), .val (.int p5), .val (.int p6), .val (.int v7), .val (.ref aK), .val (.int v62), .val (.int v69), .val (.int v76), .val (.int v84), .val (.ref aI), .val (.int v120), .val (.int v127), .val (.int v134), .val (.int v141), .val (.int (r0F v120 v127 v134 v141)), .val (.int (r1F v120 v127 v134 v141)), .val (.int (r2F v120 v127 v134 v141)), .val (.int (r3F v120 v127 v134 v141)), .val (.ref aX), .unset] [(.int (r2F v120 v127 v134 v141)), (.ref aX)])
  refine WGo.st (fun _ q => XS.iload S129.here hx rfl (hb hby at_290) rfl q) ?_
  show WGo _ _ _ _ _ _ _ _ T127 (mkF m 292 #[.val (.int p1), .val (.int p2), .val (.int p3), .val (.int p4), .val (.int p5), .val (.int p6), .val (.int v7), .val (.ref aK), .val (.int v62), .val (.int v69), .val (.int v76), .val (.int v84), .val (.ref aI), .val (.int v120), .val (.int v127), .val (.int v134), .val (.int v141), .val (.int (r0F v120 v127 v134 v141)), .val (.int (r1F v120 v127 v134 v141)), .val (.int (r2F v120 v127 v134 v141)), .val (.int (r3F v120 v127 v134 v141)), .val (.ref aX), .unset] [(.int v76), (.int (r2F v120 v127 v134 v141)), (.ref aX)])
  refine w_iastore S129 A131 g_aX rfl (hb hby at_292) rfl (r2_rng v120 v127 v134 v141).1 (by rw [si_len, si_len]; exact (r2_rng v120 v127 v134 v141).2) (L' := (si (si (si [(0 : Int32), (0 : Int32), (0 : Int32), (0 : Int32)] (r0F v120 v127 v134 v141) v62) (r1F v120 v127 v134 v141) v69) (r2F v120 v127 v134 v141) v76)) rfl ?_
  intro T134 h135 S136 K137 A138
  have f139 := AI.keep f132 K137 (ninS n_aK_aX nin0)
  have f140 := AI.keep f133 K137 (ninS n_aI_aX nin0)
  show WGo _ _ _ _ _ _ _ _ T134 (mkF m 293 #[.val (.int p1), .val (.int p2), .val (.int p3), .val (.int p4), .val (.int p5), .val (.int p6), .val (.int v7), .val (.ref aK), .val (.int v62), .val (.int v69), .val (.int v76), .val (.int v84), .val (.ref aI), .val (.int v120), .val (.int v127), .val (.int v134), .val (.int v141), .val (.int (r0F v120 v127 v134 v141)), .val (.int (r1F v120 v127 v134 v141)), .val (.int (r2F v120 v127 v134 v141)), .val (.int (r3F v120 v127 v134 v141)), .val (.ref aX), .unset] [])
  refine WGo.st (fun _ q => XS.aload S136.here hx rfl (hb hby at_293) rfl rfl q) ?_
  show WGo _ _ _ _ _ _ _ _ T134 (mkF m 295 #[.val (.int p1), .val (.int p2), .val (.int p3), .val (.int p4), .val (.int p5), .val (.int p6), .val (.int v7), .val (.ref aK), .val (.int v62), .val (.int v69), .val (.int v76), .val (.int v84), .val (.ref aI), .val (.int v120), .val (.int v127), .val (.int v134), .val (.int v141), .val (.int (r0F v120 v127 v134 v141)), .val (.int (r1F v120 v127 v134 v141)), .val (.int (r2F v120 v127 v134 v141)), .val (.int (r3F v120 v127 v134 v141)), .val (.ref aX), .unset] [(.ref aX)])
  refine WGo.st (fun _ q => XS.iload S136.here hx rfl (hb hby at_295) rfl q) ?_
  show WGo _ _ _ _ _ _ _ _ T134 (mkF m 297 #[.val (.int p1), .val (.int p2), .val (.int p3), .val (.int p4), .val (.int p5), .val (.int p6), .val (.int v7), .val (.ref aK), .val (.int v62), .val (.int v69), .val (.int v76), .val (.int v84), .val (.ref aI), .val (.int v120), .val (.int v127), .val (.int v134), .val (.int v141), .val (.int (r0F v120 v127 v134 v141)), .val (.int (r1F v120 v127 v134 v141)), .val (.int (r2F v120 v127 v134 v141)), .val (.int (r3F v120 v127 v134 v141)), .val (.ref aX), .unset] [(.int (r3F v120 v127 v134 v141)), (.ref aX)])
  refine WGo.st (fun _ q => XS.iload S136.here hx rfl (hb hby at_297) rfl q) ?_
  show WGo _ _ _ _ _ _ _ _ T134 (mkF m 299 #[.val (.int p1), .val (.int p2), .val (.int p3), .val (.int p4), .val (.int p5), .val (.int p6), .val (.int v7), .val (.ref aK), .val (.int v62), .val (.int v69), .val (.int v76), .val (.int v84), .val (.ref aI), .val (.int v120), .val (.int v127), .val (.int v134), .val (.int v141), .val (.int (r0F v120 v127 v134 v141)), .val (.int (r1F v120 v127 v134 v141)), .val (.int (r2F v120 v127 v134 v141)), .val (.int (r3F v120 v127 v134 v141)), .val (.ref aX), .unset] [(.int v84), (.int (r3F v120 v127 v134 v141)), (.ref aX)])
  refine w_iastore S136 A138 g_aX rfl (hb hby at_299) rfl (r3_rng v120 v127 v134 v141).1 (by rw [si_len, si_len, si_len]; exact (r3_rng v120 v127 v134 v141).2) (L' := (si (si (si (si [(0 : Int32), (0 : Int32), (0 : Int32), (0 : Int32)] (r0F v120 v127 v134 v141) v62) (r1F v120 v127 v134 v141) v69) (r2F v120 v127 v134 v141) v76) (r3F v120 v127 v134 v141) v84)) rfl ?_
  intro T141 h142 S143 K144 A145
  have f146 := AI.keep f139 K144 (ninS n_aK_aX nin0)
  have f147 := AI.keep f140 K144 (ninS n_aI_aX nin0)
  show WGo _ _ _ _ _ _ _ _ T141 (mkF m 300 #[.val (.int p1), .val (.int p2), .val (.int p3), .val (.int p4), .val (.int p5), .val (.int p6), .val (.int v7), .val (.ref aK), .val (.int v62), .val (.int v69), .val (.int v76), .val (.int v84), .val (.ref aI), .val (.int v120), .val (.int v127), .val (.int v134), .val (.int v141), .val (.int (r0F v120 v127 v134 v141)), .val (.int (r1F v120 v127 v134 v141)), .val (.int (r2F v120 v127 v134 v141)), .val (.int (r3F v120 v127 v134 v141)), .val (.ref aX), .unset] [])
  refine WGo.st (fun _ q => XS.aload S143.here hx rfl (hb hby at_300) rfl rfl q) ?_
  show WGo _ _ _ _ _ _ _ _ T141 (mkF m 302 #[.val (.int p1), .val (.int p2), .val (.int p3), .val (.int p4), .val (.int p5), .val (.int p6), .val (.int v7), .val (.ref aK), .val (.int v62), .val (.int v69), .val (.int v76), .val (.int v84), .val (.ref aI), .val (.int v120), .val (.int v127), .val (.int v134), .val (.int v141), .val (.int (r0F v120 v127 v134 v141)), .val (.int (r1F v120 v127 v134 v141)), .val (.int (r2F v120 v127 v134 v141)), .val (.int (r3F v120 v127 v134 v141)), .val (.ref aX), .unset] [(.ref aI)])
  refine WGo.st (fun _ q => XS.aload S143.here hx rfl (hb hby at_302) rfl rfl q) ?_
  show WGo _ _ _ _ _ _ _ _ T141 (mkF m 304 #[.val (.int p1), .val (.int p2), .val (.int p3), .val (.int p4), .val (.int p5), .val (.int p6), .val (.int v7), .val (.ref aK), .val (.int v62), .val (.int v69), .val (.int v76), .val (.int v84), .val (.ref aI), .val (.int v120), .val (.int v127), .val (.int v134), .val (.int v141), .val (.int (r0F v120 v127 v134 v141)), .val (.int (r1F v120 v127 v134 v141)), .val (.int (r2F v120 v127 v134 v141)), .val (.int (r3F v120 v127 v134 v141)), .val (.ref aX), .unset] [(.ref aK), (.ref aI)])
  refine WGo.st (fun _ q => XS.iload S143.here hx rfl (hb hby at_304) rfl q) ?_
  show WGo _ _ _ _ _ _ _ _ T141 (mkF m 306 #[.val (.int p1), .val (.int p2), .val (.int p3), .val (.int p4), .val (.int p5), .val (.int p6), .val (.int v7), .val (.ref aK), .val (.int v62), .val (.int v69), .val (.int v76), .val (.int v84), .val (.ref aI), .val (.int v120), .val (.int v127), .val (.int v134), .val (.int v141), .val (.int (r0F v120 v127 v134 v141)), .val (.int (r1F v120 v127 v134 v141)), .val (.int (r2F v120 v127 v134 v141)), .val (.int (r3F v120 v127 v134 v141)), .val (.ref aX), .unset] [(.int v7), (.ref aK), (.ref aI)])
  refine w_static S143 (y := (⟨"com/example/ookayama/ookayama/CountingSort", "byKey", "([I[II)[I"⟩ : MethodName)) hown (hw _ (List.mem_of_getElem? (i := 6) rfl)) (hw _ (List.mem_of_getElem? (i := 7) rfl)) (hw _ (List.mem_of_getElem? (i := 8) rfl)) (hw _ (List.mem_of_getElem? (i := 9) rfl)) (by decide) (rm_Ky l Z a0 hw n0 h142 aI aK v7 [q24, q35, q46, q58] v62 v69 v76 v84 v120 v127 v134 v141 S143.ge f147 f146 rfl bi0 hv120 bk0 bi1 hv127 bk1 bi2 hv134 bk2 bi3 hv141 bk3 hR) (W := 0) (by decide) (by decide) (by decide) (by decide) rfl (by rw [hml]; rfl) (argsL := [(.ref aI), (.ref aK), (.int v7)]) (rest := []) (ps := [(.array .int), (.array .int), .int]) (rt := (some (.array .int))) (by decide) rfl rfl rfl (by show 2 * 0 + _ ≤ _; exact Nat.le_of_eq rfl) (hb hby at_306) ?_
  intro T148 h150 w151 S149 q152
  obtain ⟨b9, q152a, q152K, q152n, q152g, b9A⟩ := q152
  subst q152a
  have f153 := AI.keep f146 q152K nin0
  have f154 := AI.keep f147 q152K nin0
  have f155 := AI.keep A145 q152K nin0
  show WGo _ _ _ _ _ _ _ _ T148 (mkF m 309 #[.val (.int p1), .val (.int p2), .val (.int p3), .val (.int p4), .val (.int p5), .val (.int p6), .val (.int v7), .val (.ref aK), .val (.int v62), .val (.int v69), .val (.int v76), .val (.int v84), .val (.ref aI), .val (.int v120), .val (.int v127), .val (.int v134), .val (.int v141), .val (.int (r0F v120 v127 v134 v141)), .val (.int (r1F v120 v127 v134 v141)), .val (.int (r2F v120 v127 v134 v141)), .val (.int (r3F v120 v127 v134 v141)), .val (.ref aX), .unset] [(.ref b9)])
  refine WGo.st (fun _ q => XS.astore S149.here hx rfl (hb hby at_309) rfl rfl (l' := #[.val (.int p1), .val (.int p2), .val (.int p3), .val (.int p4), .val (.int p5), .val (.int p6), .val (.int v7), .val (.ref aK), .val (.int v62), .val (.int v69), .val (.int v76), .val (.int v84), .val (.ref aI), .val (.int v120), .val (.int v127), .val (.int v134), .val (.int v141), .val (.int (r0F v120 v127 v134 v141)), .val (.int (r1F v120 v127 v134 v141)), .val (.int (r2F v120 v127 v134 v141)), .val (.int (r3F v120 v127 v134 v141)), .val (.ref aX), .val (.ref b9)]) rfl q) ?_
  show WGo _ _ _ _ _ _ _ _ T148 (mkF m 311 #[.val (.int p1), .val (.int p2), .val (.int p3), .val (.int p4), .val (.int p5), .val (.int p6), .val (.int v7), .val (.ref aK), .val (.int v62), .val (.int v69), .val (.int v76), .val (.int v84), .val (.ref aI), .val (.int v120), .val (.int v127), .val (.int v134), .val (.int v141), .val (.int (r0F v120 v127 v134 v141)), .val (.int (r1F v120 v127 v134 v141)), .val (.int (r2F v120 v127 v134 v141)), .val (.int (r3F v120 v127 v134 v141)), .val (.ref aX), .val (.ref b9)] [])
  refine WGo.st (fun _ q => XS.aload S149.here hx rfl (hb hby at_311) rfl rfl q) ?_
  show WGo _ _ _ _ _ _ _ _ T148 (mkF m 313 #[.val (.int p1), .val (.int p2), .val (.int p3), .val (.int p4), .val (.int p5), .val (.int p6), .val (.int v7), .val (.ref aK), .val (.int v62), .val (.int v69), .val (.int v76), .val (.int v84), .val (.ref aI), .val (.int v120), .val (.int v127), .val (.int v134), .val (.int v141), .val (.int (r0F v120 v127 v134 v141)), .val (.int (r1F v120 v127 v134 v141)), .val (.int (r2F v120 v127 v134 v141)), .val (.int (r3F v120 v127 v134 v141)), .val (.ref aX), .val (.ref b9)] [(.ref b9)])
  refine w_arraylength S149 b9A rfl (hb hby at_313) rfl (z := (4 : Int32)) (by rw [si_len, si_len, si_len, si_len]; rfl) ?_
  show WGo _ _ _ _ _ _ _ _ T148 (mkF m 314 #[.val (.int p1), .val (.int p2), .val (.int p3), .val (.int p4), .val (.int p5), .val (.int p6), .val (.int v7), .val (.ref aK), .val (.int v62), .val (.int v69), .val (.int v76), .val (.int v84), .val (.ref aI), .val (.int v120), .val (.int v127), .val (.int v134), .val (.int v141), .val (.int (r0F v120 v127 v134 v141)), .val (.int (r1F v120 v127 v134 v141)), .val (.int (r2F v120 v127 v134 v141)), .val (.int (r3F v120 v127 v134 v141)), .val (.ref aX), .val (.ref b9)] [(.int (4 : Int32))])
  refine WGo.st (fun _ q => XS.iconst S149.here hx rfl (hb hby at_314) q) ?_
  show WGo _ _ _ _ _ _ _ _ T148 (mkF m 315 #[.val (.int p1), .val (.int p2), .val (.int p3), .val (.int p4), .val (.int p5), .val (.int p6), .val (.int v7), .val (.ref aK), .val (.int v62), .val (.int v69), .val (.int v76), .val (.int v84), .val (.ref aI), .val (.int v120), .val (.int v127), .val (.int v134), .val (.int v141), .val (.int (r0F v120 v127 v134 v141)), .val (.int (r1F v120 v127 v134 v141)), .val (.int (r2F v120 v127 v134 v141)), .val (.int (r3F v120 v127 v134 v141)), .val (.ref aX), .val (.ref b9)] [(.int (4 : Int32)), (.int (4 : Int32))])
  refine WGo.st (fun _ q => XS.icmpNo S149.here hx rfl (hb hby at_315) rfl (teq (by decide : ((4 : Int32) = (4 : Int32)))).2 q) ?_
  show WGo _ _ _ _ _ _ _ _ T148 (mkF m 318 #[.val (.int p1), .val (.int p2), .val (.int p3), .val (.int p4), .val (.int p5), .val (.int p6), .val (.int v7), .val (.ref aK), .val (.int v62), .val (.int v69), .val (.int v76), .val (.int v84), .val (.ref aI), .val (.int v120), .val (.int v127), .val (.int v134), .val (.int v141), .val (.int (r0F v120 v127 v134 v141)), .val (.int (r1F v120 v127 v134 v141)), .val (.int (r2F v120 v127 v134 v141)), .val (.int (r3F v120 v127 v134 v141)), .val (.ref aX), .val (.ref b9)] [])
  refine WGo.st (fun _ q => XS.aload S149.here hx rfl (hb hby at_318) rfl rfl q) ?_
  show WGo _ _ _ _ _ _ _ _ T148 (mkF m 320 #[.val (.int p1), .val (.int p2), .val (.int p3), .val (.int p4), .val (.int p5), .val (.int p6), .val (.int v7), .val (.ref aK), .val (.int v62), .val (.int v69), .val (.int v76), .val (.int v84), .val (.ref aI), .val (.int v120), .val (.int v127), .val (.int v134), .val (.int v141), .val (.int (r0F v120 v127 v134 v141)), .val (.int (r1F v120 v127 v134 v141)), .val (.int (r2F v120 v127 v134 v141)), .val (.int (r3F v120 v127 v134 v141)), .val (.ref aX), .val (.ref b9)] [(.ref b9)])
  refine WGo.st (fun _ q => XS.iconst S149.here hx rfl (hb hby at_320) q) ?_
  show WGo _ _ _ _ _ _ _ _ T148 (mkF m 321 #[.val (.int p1), .val (.int p2), .val (.int p3), .val (.int p4), .val (.int p5), .val (.int p6), .val (.int v7), .val (.ref aK), .val (.int v62), .val (.int v69), .val (.int v76), .val (.int v84), .val (.ref aI), .val (.int v120), .val (.int v127), .val (.int v134), .val (.int v141), .val (.int (r0F v120 v127 v134 v141)), .val (.int (r1F v120 v127 v134 v141)), .val (.int (r2F v120 v127 v134 v141)), .val (.int (r3F v120 v127 v134 v141)), .val (.ref aX), .val (.ref b9)] [(.int (0 : Int32)), (.ref b9)])
  refine w_iaload S149 b9A rfl (hb hby at_321) rfl (by decide) (by rw [si_len, si_len, si_len, si_len]; decide) rfl ?_
  show WGo _ _ _ _ _ _ _ _ T148 (mkF m 322 #[.val (.int p1), .val (.int p2), .val (.int p3), .val (.int p4), .val (.int p5), .val (.int p6), .val (.int v7), .val (.ref aK), .val (.int v62), .val (.int v69), .val (.int v76), .val (.int v84), .val (.ref aI), .val (.int v120), .val (.int v127), .val (.int v134), .val (.int v141), .val (.int (r0F v120 v127 v134 v141)), .val (.int (r1F v120 v127 v134 v141)), .val (.int (r2F v120 v127 v134 v141)), .val (.int (r3F v120 v127 v134 v141)), .val (.ref aX), .val (.ref b9)] [(.int (gi (si (si (si (si [(0 : Int32), (0 : Int32), (0 : Int32), (0 : Int32)] (r0F v120 v127 v134 v141) v62) (r1F v120 v127 v134 v141) v69) (r2F v120 v127 v134 v141) v76) (r3F v120 v127 v134 v141) v84) (0 : Int32)))])
  refine WGo.st (fun _ q => XS.aload S149.here hx rfl (hb hby at_322) rfl rfl q) ?_
  show WGo _ _ _ _ _ _ _ _ T148 (mkF m 324 #[.val (.int p1), .val (.int p2), .val (.int p3), .val (.int p4), .val (.int p5), .val (.int p6), .val (.int v7), .val (.ref aK), .val (.int v62), .val (.int v69), .val (.int v76), .val (.int v84), .val (.ref aI), .val (.int v120), .val (.int v127), .val (.int v134), .val (.int v141), .val (.int (r0F v120 v127 v134 v141)), .val (.int (r1F v120 v127 v134 v141)), .val (.int (r2F v120 v127 v134 v141)), .val (.int (r3F v120 v127 v134 v141)), .val (.ref aX), .val (.ref b9)] [(.ref aX), (.int (gi (si (si (si (si [(0 : Int32), (0 : Int32), (0 : Int32), (0 : Int32)] (r0F v120 v127 v134 v141) v62) (r1F v120 v127 v134 v141) v69) (r2F v120 v127 v134 v141) v76) (r3F v120 v127 v134 v141) v84) (0 : Int32)))])
  refine WGo.st (fun _ q => XS.iconst S149.here hx rfl (hb hby at_324) q) ?_
  show WGo _ _ _ _ _ _ _ _ T148 (mkF m 325 #[.val (.int p1), .val (.int p2), .val (.int p3), .val (.int p4), .val (.int p5), .val (.int p6), .val (.int v7), .val (.ref aK), .val (.int v62), .val (.int v69), .val (.int v76), .val (.int v84), .val (.ref aI), .val (.int v120), .val (.int v127), .val (.int v134), .val (.int v141), .val (.int (r0F v120 v127 v134 v141)), .val (.int (r1F v120 v127 v134 v141)), .val (.int (r2F v120 v127 v134 v141)), .val (.int (r3F v120 v127 v134 v141)), .val (.ref aX), .val (.ref b9)] [(.int (0 : Int32)), (.ref aX), (.int (gi (si (si (si (si [(0 : Int32), (0 : Int32), (0 : Int32), (0 : Int32)] (r0F v120 v127 v134 v141) v62) (r1F v120 v127 v134 v141) v69) (r2F v120 v127 v134 v141) v76) (r3F v120 v127 v134 v141) v84) (0 : Int32)))])
  refine w_iaload S149 f155 rfl (hb hby at_325) rfl (by decide) (by rw [si_len, si_len, si_len, si_len]; decide) rfl ?_
  show WGo _ _ _ _ _ _ _ _ T148 (mkF m 326 #[.val (.int p1), .val (.int p2), .val (.int p3), .val (.int p4), .val (.int p5), .val (.int p6), .val (.int v7), .val (.ref aK), .val (.int v62), .val (.int v69), .val (.int v76), .val (.int v84), .val (.ref aI), .val (.int v120), .val (.int v127), .val (.int v134), .val (.int v141), .val (.int (r0F v120 v127 v134 v141)), .val (.int (r1F v120 v127 v134 v141)), .val (.int (r2F v120 v127 v134 v141)), .val (.int (r3F v120 v127 v134 v141)), .val (.ref aX), .val (.ref b9)] [(.int (gi (si (si (si (si [(0 : Int32), (0 : Int32), (0 : Int32), (0 : Int32)] (r0F v120 v127 v134 v141) v62) (r1F v120 v127 v134 v141) v69) (r2F v120 v127 v134 v141) v76) (r3F v120 v127 v134 v141) v84) (0 : Int32))), (.int (gi (si (si (si (si [(0 : Int32), (0 : Int32), (0 : Int32), (0 : Int32)] (r0F v120 v127 v134 v141) v62) (r1F v120 v127 v134 v141) v69) (r2F v120 v127 v134 v141) v76) (r3F v120 v127 v134 v141) v84) (0 : Int32)))])
  refine WGo.st (fun _ q => XS.icmpNo S149.here hx rfl (hb hby at_326) rfl (teq rfl).2 q) ?_
  show WGo _ _ _ _ _ _ _ _ T148 (mkF m 329 #[.val (.int p1), .val (.int p2), .val (.int p3), .val (.int p4), .val (.int p5), .val (.int p6), .val (.int v7), .val (.ref aK), .val (.int v62), .val (.int v69), .val (.int v76), .val (.int v84), .val (.ref aI), .val (.int v120), .val (.int v127), .val (.int v134), .val (.int v141), .val (.int (r0F v120 v127 v134 v141)), .val (.int (r1F v120 v127 v134 v141)), .val (.int (r2F v120 v127 v134 v141)), .val (.int (r3F v120 v127 v134 v141)), .val (.ref aX), .val (.ref b9)] [])
  refine WGo.st (fun _ q => XS.aload S149.here hx rfl (hb hby at_329) rfl rfl q) ?_
  show WGo _ _ _ _ _ _ _ _ T148 (mkF m 331 #[.val (.int p1), .val (.int p2), .val (.int p3), .val (.int p4), .val (.int p5), .val (.int p6), .val (.int v7), .val (.ref aK), .val (.int v62), .val (.int v69), .val (.int v76), .val (.int v84), .val (.ref aI), .val (.int v120), .val (.int v127), .val (.int v134), .val (.int v141), .val (.int (r0F v120 v127 v134 v141)), .val (.int (r1F v120 v127 v134 v141)), .val (.int (r2F v120 v127 v134 v141)), .val (.int (r3F v120 v127 v134 v141)), .val (.ref aX), .val (.ref b9)] [(.ref b9)])
  refine WGo.st (fun _ q => XS.iconst S149.here hx rfl (hb hby at_331) q) ?_
  show WGo _ _ _ _ _ _ _ _ T148 (mkF m 332 #[.val (.int p1), .val (.int p2), .val (.int p3), .val (.int p4), .val (.int p5), .val (.int p6), .val (.int v7), .val (.ref aK), .val (.int v62), .val (.int v69), .val (.int v76), .val (.int v84), .val (.ref aI), .val (.int v120), .val (.int v127), .val (.int v134), .val (.int v141), .val (.int (r0F v120 v127 v134 v141)), .val (.int (r1F v120 v127 v134 v141)), .val (.int (r2F v120 v127 v134 v141)), .val (.int (r3F v120 v127 v134 v141)), .val (.ref aX), .val (.ref b9)] [(.int (1 : Int32)), (.ref b9)])
  refine w_iaload S149 b9A rfl (hb hby at_332) rfl (by decide) (by rw [si_len, si_len, si_len, si_len]; decide) rfl ?_
  show WGo _ _ _ _ _ _ _ _ T148 (mkF m 333 #[.val (.int p1), .val (.int p2), .val (.int p3), .val (.int p4), .val (.int p5), .val (.int p6), .val (.int v7), .val (.ref aK), .val (.int v62), .val (.int v69), .val (.int v76), .val (.int v84), .val (.ref aI), .val (.int v120), .val (.int v127), .val (.int v134), .val (.int v141), .val (.int (r0F v120 v127 v134 v141)), .val (.int (r1F v120 v127 v134 v141)), .val (.int (r2F v120 v127 v134 v141)), .val (.int (r3F v120 v127 v134 v141)), .val (.ref aX), .val (.ref b9)] [(.int (gi (si (si (si (si [(0 : Int32), (0 : Int32), (0 : Int32), (0 : Int32)] (r0F v120 v127 v134 v141) v62) (r1F v120 v127 v134 v141) v69) (r2F v120 v127 v134 v141) v76) (r3F v120 v127 v134 v141) v84) (1 : Int32)))])
  refine WGo.st (fun _ q => XS.aload S149.here hx rfl (hb hby at_333) rfl rfl q) ?_
  show WGo _ _ _ _ _ _ _ _ T148 (mkF m 335 #[.val (.int p1), .val (.int p2), .val (.int p3), .val (.int p4), .val (.int p5), .val (.int p6), .val (.int v7), .val (.ref aK), .val (.int v62), .val (.int v69), .val (.int v76), .val (.int v84), .val (.ref aI), .val (.int v120), .val (.int v127), .val (.int v134), .val (.int v141), .val (.int (r0F v120 v127 v134 v141)), .val (.int (r1F v120 v127 v134 v141)), .val (.int (r2F v120 v127 v134 v141)), .val (.int (r3F v120 v127 v134 v141)), .val (.ref aX), .val (.ref b9)] [(.ref aX), (.int (gi (si (si (si (si [(0 : Int32), (0 : Int32), (0 : Int32), (0 : Int32)] (r0F v120 v127 v134 v141) v62) (r1F v120 v127 v134 v141) v69) (r2F v120 v127 v134 v141) v76) (r3F v120 v127 v134 v141) v84) (1 : Int32)))])
  refine WGo.st (fun _ q => XS.iconst S149.here hx rfl (hb hby at_335) q) ?_
  show WGo _ _ _ _ _ _ _ _ T148 (mkF m 336 #[.val (.int p1), .val (.int p2), .val (.int p3), .val (.int p4), .val (.int p5), .val (.int p6), .val (.int v7), .val (.ref aK), .val (.int v62), .val (.int v69), .val (.int v76), .val (.int v84), .val (.ref aI), .val (.int v120), .val (.int v127), .val (.int v134), .val (.int v141), .val (.int (r0F v120 v127 v134 v141)), .val (.int (r1F v120 v127 v134 v141)), .val (.int (r2F v120 v127 v134 v141)), .val (.int (r3F v120 v127 v134 v141)), .val (.ref aX), .val (.ref b9)] [(.int (1 : Int32)), (.ref aX), (.int (gi (si (si (si (si [(0 : Int32), (0 : Int32), (0 : Int32), (0 : Int32)] (r0F v120 v127 v134 v141) v62) (r1F v120 v127 v134 v141) v69) (r2F v120 v127 v134 v141) v76) (r3F v120 v127 v134 v141) v84) (1 : Int32)))])
  refine w_iaload S149 f155 rfl (hb hby at_336) rfl (by decide) (by rw [si_len, si_len, si_len, si_len]; decide) rfl ?_
  show WGo _ _ _ _ _ _ _ _ T148 (mkF m 337 #[.val (.int p1), .val (.int p2), .val (.int p3), .val (.int p4), .val (.int p5), .val (.int p6), .val (.int v7), .val (.ref aK), .val (.int v62), .val (.int v69), .val (.int v76), .val (.int v84), .val (.ref aI), .val (.int v120), .val (.int v127), .val (.int v134), .val (.int v141), .val (.int (r0F v120 v127 v134 v141)), .val (.int (r1F v120 v127 v134 v141)), .val (.int (r2F v120 v127 v134 v141)), .val (.int (r3F v120 v127 v134 v141)), .val (.ref aX), .val (.ref b9)] [(.int (gi (si (si (si (si [(0 : Int32), (0 : Int32), (0 : Int32), (0 : Int32)] (r0F v120 v127 v134 v141) v62) (r1F v120 v127 v134 v141) v69) (r2F v120 v127 v134 v141) v76) (r3F v120 v127 v134 v141) v84) (1 : Int32))), (.int (gi (si (si (si (si [(0 : Int32), (0 : Int32), (0 : Int32), (0 : Int32)] (r0F v120 v127 v134 v141) v62) (r1F v120 v127 v134 v141) v69) (r2F v120 v127 v134 v141) v76) (r3F v120 v127 v134 v141) v84) (1 : Int32)))])
  refine WGo.st (fun _ q => XS.icmpNo S149.here hx rfl (hb hby at_337) rfl (teq rfl).2 q) ?_
  show WGo _ _ _ _ _ _ _ _ T148 (mkF m 340 #[.val (.int p1), .val (.int p2), .val (.int p3), .val (.int p4), .val (.int p5), .val (.int p6), .val (.int v7), .val (.ref aK), .val (.int v62), .val (.int v69), .val (.int v76), .val (.int v84), .val (.ref aI), .val (.int v120), .val (.int v127), .val (.int v134), .val (.int v141), .val (.int (r0F v120 v127 v134 v141)), .val (.int (r1F v120 v127 v134 v141)), .val (.int (r2F v120 v127 v134 v141)), .val (.int (r3F v120 v127 v134 v141)), .val (.ref aX), .val (.ref b9)] [])
  refine WGo.st (fun _ q => XS.aload S149.here hx rfl (hb hby at_340) rfl rfl q) ?_
  show WGo _ _ _ _ _ _ _ _ T148 (mkF m 342 #[.val (.int p1), .val (.int p2), .val (.int p3), .val (.int p4), .val (.int p5), .val (.int p6), .val (.int v7), .val (.ref aK), .val (.int v62), .val (.int v69), .val (.int v76), .val (.int v84), .val (.ref aI), .val (.int v120), .val (.int v127), .val (.int v134), .val (.int v141), .val (.int (r0F v120 v127 v134 v141)), .val (.int (r1F v120 v127 v134 v141)), .val (.int (r2F v120 v127 v134 v141)), .val (.int (r3F v120 v127 v134 v141)), .val (.ref aX), .val (.ref b9)] [(.ref b9)])
  refine WGo.st (fun _ q => XS.iconst S149.here hx rfl (hb hby at_342) q) ?_
  show WGo _ _ _ _ _ _ _ _ T148 (mkF m 343 #[.val (.int p1), .val (.int p2), .val (.int p3), .val (.int p4), .val (.int p5), .val (.int p6), .val (.int v7), .val (.ref aK), .val (.int v62), .val (.int v69), .val (.int v76), .val (.int v84), .val (.ref aI), .val (.int v120), .val (.int v127), .val (.int v134), .val (.int v141), .val (.int (r0F v120 v127 v134 v141)), .val (.int (r1F v120 v127 v134 v141)), .val (.int (r2F v120 v127 v134 v141)), .val (.int (r3F v120 v127 v134 v141)), .val (.ref aX), .val (.ref b9)] [(.int (2 : Int32)), (.ref b9)])
  refine w_iaload S149 b9A rfl (hb hby at_343) rfl (by decide) (by rw [si_len, si_len, si_len, si_len]; decide) rfl ?_
  show WGo _ _ _ _ _ _ _ _ T148 (mkF m 344 #[.val (.int p1), .val (.int p2), .val (.int p3), .val (.int p4), .val (.int p5), .val (.int p6), .val (.int v7), .val (.ref aK), .val (.int v62), .val (.int v69), .val (.int v76), .val (.int v84), .val (.ref aI), .val (.int v120), .val (.int v127), .val (.int v134), .val (.int v141), .val (.int (r0F v120 v127 v134 v141)), .val (.int (r1F v120 v127 v134 v141)), .val (.int (r2F v120 v127 v134 v141)), .val (.int (r3F v120 v127 v134 v141)), .val (.ref aX), .val (.ref b9)] [(.int (gi (si (si (si (si [(0 : Int32), (0 : Int32), (0 : Int32), (0 : Int32)] (r0F v120 v127 v134 v141) v62) (r1F v120 v127 v134 v141) v69) (r2F v120 v127 v134 v141) v76) (r3F v120 v127 v134 v141) v84) (2 : Int32)))])
  refine WGo.st (fun _ q => XS.aload S149.here hx rfl (hb hby at_344) rfl rfl q) ?_
  show WGo _ _ _ _ _ _ _ _ T148 (mkF m 346 #[.val (.int p1), .val (.int p2), .val (.int p3), .val (.int p4), .val (.int p5), .val (.int p6), .val (.int v7), .val (.ref aK), .val (.int v62), .val (.int v69), .val (.int v76), .val (.int v84), .val (.ref aI), .val (.int v120), .val (.int v127), .val (.int v134), .val (.int v141), .val (.int (r0F v120 v127 v134 v141)), .val (.int (r1F v120 v127 v134 v141)), .val (.int (r2F v120 v127 v134 v141)), .val (.int (r3F v120 v127 v134 v141)), .val (.ref aX), .val (.ref b9)] [(.ref aX), (.int (gi (si (si (si (si [(0 : Int32), (0 : Int32), (0 : Int32), (0 : Int32)] (r0F v120 v127 v134 v141) v62) (r1F v120 v127 v134 v141) v69) (r2F v120 v127 v134 v141) v76) (r3F v120 v127 v134 v141) v84) (2 : Int32)))])
  refine WGo.st (fun _ q => XS.iconst S149.here hx rfl (hb hby at_346) q) ?_
  show WGo _ _ _ _ _ _ _ _ T148 (mkF m 347 #[.val (.int p1), .val (.int p2), .val (.int p3), .val (.int p4), .val (.int p5), .val (.int p6), .val (.int v7), .val (.ref aK), .val (.int v62), .val (.int v69), .val (.int v76), .val (.int v84), .val (.ref aI), .val (.int v120), .val (.int v127), .val (.int v134), .val (.int v141), .val (.int (r0F v120 v127 v134 v141)), .val (.int (r1F v120 v127 v134 v141)), .val (.int (r2F v120 v127 v134 v141)), .val (.int (r3F v120 v127 v134 v141)), .val (.ref aX), .val (.ref b9)] [(.int (2 : Int32)), (.ref aX), (.int (gi (si (si (si (si [(0 : Int32), (0 : Int32), (0 : Int32), (0 : Int32)] (r0F v120 v127 v134 v141) v62) (r1F v120 v127 v134 v141) v69) (r2F v120 v127 v134 v141) v76) (r3F v120 v127 v134 v141) v84) (2 : Int32)))])
  refine w_iaload S149 f155 rfl (hb hby at_347) rfl (by decide) (by rw [si_len, si_len, si_len, si_len]; decide) rfl ?_
  show WGo _ _ _ _ _ _ _ _ T148 (mkF m 348 #[.val (.int p1), .val (.int p2), .val (.int p3), .val (.int p4), .val (.int p5), .val (.int p6), .val (.int v7), .val (.ref aK), .val (.int v62), .val (.int v69), .val (.int v76), .val (.int v84), .val (.ref aI), .val (.int v120), .val (.int v127), .val (.int v134), .val (.int v141), .val (.int (r0F v120 v127 v134 v141)), .val (.int (r1F v120 v127 v134 v141)), .val (.int (r2F v120 v127 v134 v141)), .val (.int (r3F v120 v127 v134 v141)), .val (.ref aX), .val (.ref b9)] [(.int (gi (si (si (si (si [(0 : Int32), (0 : Int32), (0 : Int32), (0 : Int32)] (r0F v120 v127 v134 v141) v62) (r1F v120 v127 v134 v141) v69) (r2F v120 v127 v134 v141) v76) (r3F v120 v127 v134 v141) v84) (2 : Int32))), (.int (gi (si (si (si (si [(0 : Int32), (0 : Int32), (0 : Int32), (0 : Int32)] (r0F v120 v127 v134 v141) v62) (r1F v120 v127 v134 v141) v69) (r2F v120 v127 v134 v141) v76) (r3F v120 v127 v134 v141) v84) (2 : Int32)))])
  refine WGo.st (fun _ q => XS.icmpNo S149.here hx rfl (hb hby at_348) rfl (teq rfl).2 q) ?_
  show WGo _ _ _ _ _ _ _ _ T148 (mkF m 351 #[.val (.int p1), .val (.int p2), .val (.int p3), .val (.int p4), .val (.int p5), .val (.int p6), .val (.int v7), .val (.ref aK), .val (.int v62), .val (.int v69), .val (.int v76), .val (.int v84), .val (.ref aI), .val (.int v120), .val (.int v127), .val (.int v134), .val (.int v141), .val (.int (r0F v120 v127 v134 v141)), .val (.int (r1F v120 v127 v134 v141)), .val (.int (r2F v120 v127 v134 v141)), .val (.int (r3F v120 v127 v134 v141)), .val (.ref aX), .val (.ref b9)] [])
  refine WGo.st (fun _ q => XS.aload S149.here hx rfl (hb hby at_351) rfl rfl q) ?_
  show WGo _ _ _ _ _ _ _ _ T148 (mkF m 353 #[.val (.int p1), .val (.int p2), .val (.int p3), .val (.int p4), .val (.int p5), .val (.int p6), .val (.int v7), .val (.ref aK), .val (.int v62), .val (.int v69), .val (.int v76), .val (.int v84), .val (.ref aI), .val (.int v120), .val (.int v127), .val (.int v134), .val (.int v141), .val (.int (r0F v120 v127 v134 v141)), .val (.int (r1F v120 v127 v134 v141)), .val (.int (r2F v120 v127 v134 v141)), .val (.int (r3F v120 v127 v134 v141)), .val (.ref aX), .val (.ref b9)] [(.ref b9)])
  refine WGo.st (fun _ q => XS.iconst S149.here hx rfl (hb hby at_353) q) ?_
  show WGo _ _ _ _ _ _ _ _ T148 (mkF m 354 #[.val (.int p1), .val (.int p2), .val (.int p3), .val (.int p4), .val (.int p5), .val (.int p6), .val (.int v7), .val (.ref aK), .val (.int v62), .val (.int v69), .val (.int v76), .val (.int v84), .val (.ref aI), .val (.int v120), .val (.int v127), .val (.int v134), .val (.int v141), .val (.int (r0F v120 v127 v134 v141)), .val (.int (r1F v120 v127 v134 v141)), .val (.int (r2F v120 v127 v134 v141)), .val (.int (r3F v120 v127 v134 v141)), .val (.ref aX), .val (.ref b9)] [(.int (3 : Int32)), (.ref b9)])
  refine w_iaload S149 b9A rfl (hb hby at_354) rfl (by decide) (by rw [si_len, si_len, si_len, si_len]; decide) rfl ?_
  show WGo _ _ _ _ _ _ _ _ T148 (mkF m 355 #[.val (.int p1), .val (.int p2), .val (.int p3), .val (.int p4), .val (.int p5), .val (.int p6), .val (.int v7), .val (.ref aK), .val (.int v62), .val (.int v69), .val (.int v76), .val (.int v84), .val (.ref aI), .val (.int v120), .val (.int v127), .val (.int v134), .val (.int v141), .val (.int (r0F v120 v127 v134 v141)), .val (.int (r1F v120 v127 v134 v141)), .val (.int (r2F v120 v127 v134 v141)), .val (.int (r3F v120 v127 v134 v141)), .val (.ref aX), .val (.ref b9)] [(.int (gi (si (si (si (si [(0 : Int32), (0 : Int32), (0 : Int32), (0 : Int32)] (r0F v120 v127 v134 v141) v62) (r1F v120 v127 v134 v141) v69) (r2F v120 v127 v134 v141) v76) (r3F v120 v127 v134 v141) v84) (3 : Int32)))])
  refine WGo.st (fun _ q => XS.aload S149.here hx rfl (hb hby at_355) rfl rfl q) ?_
  show WGo _ _ _ _ _ _ _ _ T148 (mkF m 357 #[.val (.int p1), .val (.int p2), .val (.int p3), .val (.int p4), .val (.int p5), .val (.int p6), .val (.int v7), .val (.ref aK), .val (.int v62), .val (.int v69), .val (.int v76), .val (.int v84), .val (.ref aI), .val (.int v120), .val (.int v127), .val (.int v134), .val (.int v141), .val (.int (r0F v120 v127 v134 v141)), .val (.int (r1F v120 v127 v134 v141)), .val (.int (r2F v120 v127 v134 v141)), .val (.int (r3F v120 v127 v134 v141)), .val (.ref aX), .val (.ref b9)] [(.ref aX), (.int (gi (si (si (si (si [(0 : Int32), (0 : Int32), (0 : Int32), (0 : Int32)] (r0F v120 v127 v134 v141) v62) (r1F v120 v127 v134 v141) v69) (r2F v120 v127 v134 v141) v76) (r3F v120 v127 v134 v141) v84) (3 : Int32)))])
  refine WGo.st (fun _ q => XS.iconst S149.here hx rfl (hb hby at_357) q) ?_
  show WGo _ _ _ _ _ _ _ _ T148 (mkF m 358 #[.val (.int p1), .val (.int p2), .val (.int p3), .val (.int p4), .val (.int p5), .val (.int p6), .val (.int v7), .val (.ref aK), .val (.int v62), .val (.int v69), .val (.int v76), .val (.int v84), .val (.ref aI), .val (.int v120), .val (.int v127), .val (.int v134), .val (.int v141), .val (.int (r0F v120 v127 v134 v141)), .val (.int (r1F v120 v127 v134 v141)), .val (.int (r2F v120 v127 v134 v141)), .val (.int (r3F v120 v127 v134 v141)), .val (.ref aX), .val (.ref b9)] [(.int (3 : Int32)), (.ref aX), (.int (gi (si (si (si (si [(0 : Int32), (0 : Int32), (0 : Int32), (0 : Int32)] (r0F v120 v127 v134 v141) v62) (r1F v120 v127 v134 v141) v69) (r2F v120 v127 v134 v141) v76) (r3F v120 v127 v134 v141) v84) (3 : Int32)))])
  refine w_iaload S149 f155 rfl (hb hby at_358) rfl (by decide) (by rw [si_len, si_len, si_len, si_len]; decide) rfl ?_
  show WGo _ _ _ _ _ _ _ _ T148 (mkF m 359 #[.val (.int p1), .val (.int p2), .val (.int p3), .val (.int p4), .val (.int p5), .val (.int p6), .val (.int v7), .val (.ref aK), .val (.int v62), .val (.int v69), .val (.int v76), .val (.int v84), .val (.ref aI), .val (.int v120), .val (.int v127), .val (.int v134), .val (.int v141), .val (.int (r0F v120 v127 v134 v141)), .val (.int (r1F v120 v127 v134 v141)), .val (.int (r2F v120 v127 v134 v141)), .val (.int (r3F v120 v127 v134 v141)), .val (.ref aX), .val (.ref b9)] [(.int (gi (si (si (si (si [(0 : Int32), (0 : Int32), (0 : Int32), (0 : Int32)] (r0F v120 v127 v134 v141) v62) (r1F v120 v127 v134 v141) v69) (r2F v120 v127 v134 v141) v76) (r3F v120 v127 v134 v141) v84) (3 : Int32))), (.int (gi (si (si (si (si [(0 : Int32), (0 : Int32), (0 : Int32), (0 : Int32)] (r0F v120 v127 v134 v141) v62) (r1F v120 v127 v134 v141) v69) (r2F v120 v127 v134 v141) v76) (r3F v120 v127 v134 v141) v84) (3 : Int32)))])
  refine WGo.st (fun _ q => XS.icmpNo S149.here hx rfl (hb hby at_359) rfl (teq rfl).2 q) ?_
  show WGo _ _ _ _ _ _ _ _ T148 (mkF m 362 #[.val (.int p1), .val (.int p2), .val (.int p3), .val (.int p4), .val (.int p5), .val (.int p6), .val (.int v7), .val (.ref aK), .val (.int v62), .val (.int v69), .val (.int v76), .val (.int v84), .val (.ref aI), .val (.int v120), .val (.int v127), .val (.int v134), .val (.int v141), .val (.int (r0F v120 v127 v134 v141)), .val (.int (r1F v120 v127 v134 v141)), .val (.int (r2F v120 v127 v134 v141)), .val (.int (r3F v120 v127 v134 v141)), .val (.ref aX), .val (.ref b9)] [])
  refine WGo.st (fun _ q => XS.iconst S149.here hx rfl (hb hby at_362) q) ?_
  show WGo _ _ _ _ _ _ _ _ T148 (mkF m 363 #[.val (.int p1), .val (.int p2), .val (.int p3), .val (.int p4), .val (.int p5), .val (.int p6), .val (.int v7), .val (.ref aK), .val (.int v62), .val (.int v69), .val (.int v76), .val (.int v84), .val (.ref aI), .val (.int v120), .val (.int v127), .val (.int v134), .val (.int v141), .val (.int (r0F v120 v127 v134 v141)), .val (.int (r1F v120 v127 v134 v141)), .val (.int (r2F v120 v127 v134 v141)), .val (.int (r3F v120 v127 v134 v141)), .val (.ref aX), .val (.ref b9)] [(.int (1 : Int32))])
  refine WGo.st (fun _ q => XS.goto S149.here hx rfl (pc0 := 363) (pc' := 367) rfl (hb hby at_363) (by decide) (by decide) q) ?_
  show WGo _ _ _ _ _ _ _ _ T148 (mkF m 367 #[.val (.int p1), .val (.int p2), .val (.int p3), .val (.int p4), .val (.int p5), .val (.int p6), .val (.int v7), .val (.ref aK), .val (.int v62), .val (.int v69), .val (.int v76), .val (.int v84), .val (.ref aI), .val (.int v120), .val (.int v127), .val (.int v134), .val (.int v141), .val (.int (r0F v120 v127 v134 v141)), .val (.int (r1F v120 v127 v134 v141)), .val (.int (r2F v120 v127 v134 v141)), .val (.int (r3F v120 v127 v134 v141)), .val (.ref aX), .val (.ref b9)] [(.int (1 : Int32))])
  refine w_retZ S149 hret (hb hby at_367) (by decide) (by decide) (by decide) ?_
  exact rfl
set_option maxRecDepth 65536 in
set_option maxHeartbeats 40000000 in
theorem comes_1 {Post : Tables → Env → Array Value → State → Outcome → State → Prop} (hpost : ∀ tb e args s v u, (limb_1_1.after args s (.returned v) u = true ∧ limb_1_2.after args s (.returned v) u = true ∧ True) → FrameEnd s (.returned v) u (Jvm.fieldLocs frame_1_writes args s ++ Jvm.arrayLocs frame_1_arrays args s ++ Jvm.staticLocs frame_1_statics s) 24 128 → Post tb e args s (.returned v) u) :
    ArmFor flags0 classFile x code maxLocals ret World_1 tables_1 room_1 Calls_1 rest_1 Pre_1 Post := by
  intro l hfl _ _ p e ha hc hk s m args below hf hA hF happ hP
  obtain ⟨hcalls, hrest, hpre⟩ := hP
  obtain ⟨-, -, -, hnamed, -, -, -, hat⟩ := (Spec.applies_iff hf).mp happ
  obtain ⟨hg, hn⟩ := and_e (Cond.before_iff.mp (show (Jvm.Cond.and given_1 narrow_1).before args s = true from hpre))
  obtain ⟨hcount, hg0⟩ := and_e hg
  obtain ⟨ha0, hg1⟩ := and_e hg0
  obtain ⟨ha1, hg2⟩ := and_e hg1
  obtain ⟨ha2, hg3⟩ := and_e hg2
  obtain ⟨ha3, hg4⟩ := and_e hg3
  obtain ⟨ha4, hg5⟩ := and_e hg4
  obtain ⟨w0, w1, w2, w3, w4, w5, rfl⟩ : ∃ (w0 : Value) (w1 : Value) (w2 : Value) (w3 : Value) (w4 : Value) (w5 : Value), args = #[w0, w1, w2, w3, w4, w5] := by
    have hs : args.size = 6 := by simpa [Cond.value, given_1] using hcount
    obtain ⟨L⟩ := args
    match L, hs with
    | [w0, w1, w2, w3, w4, w5], _ => exact ⟨w0, w1, w2, w3, w4, w5, rfl⟩
  have hw := fun d (hd : d ∈ tables_1) => atoms_spec (ws := Jvm.Cond.code x code maxLocals ret :: tables_1) hat d (List.mem_cons_of_mem _ hd)
  obtain ⟨i0, e0⟩ := is_v ha0
  obtain rfl : w0 = (.int i0) := Option.some.inj e0
  obtain ⟨i1, e1⟩ := is_v ha1
  obtain rfl : w1 = (.int i1) := Option.some.inj e1
  obtain ⟨i2, e2⟩ := is_v ha2
  obtain rfl : w2 = (.int i2) := Option.some.inj e2
  obtain ⟨i3, e3⟩ := is_v ha3
  obtain rfl : w3 = (.int i3) := Option.some.inj e3
  obtain ⟨i4, e4⟩ := is_v ha4
  obtain rfl : w4 = (.int i4) := Option.some.inj e4
  obtain ⟨i5, e5⟩ := is_v hg5
  obtain rfl : w5 = (.int i5) := Option.some.inj e5
  obtain ⟨n, o, h1, h2, h3, _, L, rfl, ⟨hQ, N⟩, hq⟩ := rm_0 l s _ hw s.heap.size s.heap i0 i1 i2 i3 i4 i5  (Nat.le_refl _)  p e ha hc hk s m _ below hf ((Spec.applies_iff_loose hf).mp happ).1 ⟨rfl, State.Warmed39.refl s, rfl⟩ trivial
  obtain rfl := hQ
  refine ⟨n, _, h1, h2, h3, hpost _ _ _ _ _ _ ⟨Cond.after_iff.mpr rfl, Cond.after_iff.mpr (eq_i res_at (Term.int_eval (1)) rfl), trivial⟩ ⟨hq.1, hq.2.1, (hq.2.2.sift fun y hy => Or.inr (N y hy)).mono (by decide) (by decide)⟩⟩
theorem main_1_1 : Claimed_1_1 := comes_1 fun _ _ _ _ _ _ h hF => ⟨h.1, hF⟩
theorem main_1_2 : Claimed_1_2 := comes_1 fun _ _ _ _ _ _ h hF => ⟨h.2.1, hF⟩
end Jvm.Pilot.@@N@@
namespace Jvm.Pilot.@@N@@
open Jvm Jvm.ClassFile Sem Op Lib Jvm.Free Jvm.Stand Jvm.Pilot.@@N@@.Jvm.D
/-! MADE BY PROGRAM (witnessworld.py) out of the Statement's table words and the real class files: 9 classes; the members and pool entries that the words name. The judged class is class 1, her method 2. -/
namespace start1
open Jvm.ClassFile
def u (s : String) : CpInfo := .utf8 (stringToUtf16 s)
/-- a pool by its gaps: so many unusable entries, then the entry; so many at the end -/
def gap : Nat → List CpInfo → List CpInfo
  | 0, r => r
  | n + 1, r => .unusable :: gap n r
def poolList (es : List (Nat × CpInfo)) (last : Nat) : List CpInfo := es.foldr (fun e r => gap e.1 (e.2 :: r)) (gap last [])
def pool (es : List (Nat × CpInfo)) (last : Nat) : Array CpInfo := ⟨poolList es last⟩
def fileOf (pool : Array CpInfo) (this : Nat) (attrs : Array Attribute := #[]) (ms : Array MethodInfo := #[]) (fl : Nat := 33) (sup : Nat := 0) (ifs : Array Nat := #[]) (fds : Array FieldInfo := #[]) : ClassFile where
  minorVersion := 0
  majorVersion := 65
  constantPool := pool
  accessFlags := fl
  thisClass := this
  superClass := sup
  interfaces := ifs
  fields := fds
  methods := ms
  attributes := attrs
def plain (name : String) (sup : Option ClassId) : Class where
  name := name
  kind := .ordinary
  loader := none
  accessFlags := 33
  super := sup
  interfaces := #[]
  cf := none
  fields := #[]
  methods := #[]
  instanceTypes := #[]
  staticTypes := #[]
  resolved := #[]
  callSites := []
  init := .initialized
  statics := none
  mirror := none

def pool0 : Array CpInfo := pool [(5, u "<init>"), (0, u "()V"), (1, .class_ 10), (1, u "java/lang/Object")] 113

def k0m0 : Method := { name := "<init>", desc := "()V", sig := { parameters := [], returnType := none }, accessFlags := 1, code := none }
/-- java/lang/Object -/
def k0 : Class := { plain "java/lang/Object" none with
  accessFlags := 33
  interfaces := #[]
  cf := some (fileOf pool0 8 #[] #[{ accessFlags := 1, nameIndex := 5, descriptorIndex := 6, attributes := #[] }] 33 0 #[] #[])
  fields := #[]
  methods := #[k0m0]
  instanceTypes := #[]
  staticTypes := #[]
  resolved := Array.replicate 124 none
  statics := none }

def pool1 : Array CpInfo := pool [(2, .class_ 4), (1, u "java/lang/Object"), (0, u "<init>"), (0, u "()V"), (0, .integer 2147483647), (0, .methodref 9 10), (0, .class_ 11), (0, .nameAndType 12 13), (0, u "com/example/ookayama/ookayama/CountingSortByKeyPinLaw"), (0, u "before"), (0, u "(IIII)I"), (0, .methodref 15 16), (0, .class_ 17), (0, .nameAndType 18 19), (0, u "com/example/ookayama/ookayama/CountingSort"), (0, u "byKey"), (0, u "([I[II)[I"), (3, u "law"), (0, u "(IIIIII)Z")] 4

def k1m0 : Method := { name := "<init>", desc := "()V", sig := { parameters := [], returnType := none }, accessFlags := 2, code := none }
def k1c1 : Code := { maxStack := 2, maxLocals := 4, code := method_2_code, exceptionTable := #[], attributes := #[] }
def k1m1 : Method := { name := "before", desc := "(IIII)I", sig := { parameters := [.int, .int, .int, .int], returnType := some .int }, accessFlags := 10, code := some k1c1 }
def k1c2 : Code := { maxStack := 5, maxLocals := 23, code := code, exceptionTable := #[], attributes := #[] }
def k1m2 : Method := { name := "law", desc := "(IIIIII)Z", sig := { parameters := [.int, .int, .int, .int, .int, .int], returnType := some .boolean }, accessFlags := 9, code := some k1c2 }
/-- com/example/ookayama/ookayama/CountingSortByKeyPinLaw -/
def k1 : Class := { plain "com/example/ookayama/ookayama/CountingSortByKeyPinLaw" (some 0) with
  accessFlags := 49
  interfaces := #[]
  cf := some (fileOf pool1 9 #[] #[{ accessFlags := 2, nameIndex := 5, descriptorIndex := 6, attributes := #[] }, { accessFlags := 10, nameIndex := 12, descriptorIndex := 13, attributes := #[] }, { accessFlags := 9, nameIndex := 23, descriptorIndex := 24, attributes := #[] }] 49 2 #[] #[])
  fields := #[]
  methods := #[k1m0, k1m1, k1m2]
  instanceTypes := #[]
  staticTypes := #[]
  resolved := Array.replicate 29 none
  statics := none }

def pool2 : Array CpInfo := pool [(4, .class_ 6), (1, u "java/lang/Object"), (0, u "<init>"), (0, u "()V"), (12, .class_ 22), (0, u "com/example/ookayama/ookayama/CountingSort"), (2, u "byKey"), (0, u "([I[II)[I"), (0, u "BYTE_VALUES"), (0, u "I")] 15

def k2m0 : Method := { name := "<init>", desc := "()V", sig := { parameters := [], returnType := none }, accessFlags := 2, code := none }
def k2c1 : Code := { maxStack := 6, maxLocals := 9, code := prog_16_method_3_code, exceptionTable := #[], attributes := #[] }
def k2m1 : Method := { name := "byKey", desc := "([I[II)[I", sig := { parameters := [(.array .int), (.array .int), .int], returnType := some (.array .int) }, accessFlags := 8, code := some k2c1 }
/-- com/example/ookayama/ookayama/CountingSort -/
def k2 : Class := { plain "com/example/ookayama/ookayama/CountingSort" (some 0) with
  accessFlags := 48
  interfaces := #[]
  cf := some (fileOf pool2 21 #[] #[{ accessFlags := 2, nameIndex := 7, descriptorIndex := 8, attributes := #[] }, { accessFlags := 8, nameIndex := 25, descriptorIndex := 26, attributes := #[] }] 48 4 #[] #[{ accessFlags := 26, nameIndex := 27, descriptorIndex := 28, attributes := #[] }])
  fields := #[{ name := "BYTE_VALUES", type := .int, accessFlags := 26, slot := 0, constantValue := 0 }]
  methods := #[k2m0, k2m1]
  instanceTypes := #[]
  staticTypes := #[.int]
  resolved := Array.replicate 44 none
  statics := none }

def pool3 : Array CpInfo := pool [(1, u "java/lang/Cloneable"), (0, .class_ 1), (0, u "java/lang/Object"), (0, .class_ 3)] 3

/-- java/lang/Cloneable -/
def k3 : Class := { plain "java/lang/Cloneable" (some 0) with
  accessFlags := 1537
  interfaces := #[]
  cf := some (fileOf pool3 2 #[] #[] 1537 4 #[] #[])
  fields := #[]
  methods := #[]
  instanceTypes := #[]
  staticTypes := #[]
  resolved := Array.replicate 8 none
  statics := none }

def pool4 : Array CpInfo := pool [(1, u "java/io/Serializable"), (0, .class_ 1), (0, u "java/lang/Object"), (0, .class_ 3)] 3

/-- java/io/Serializable -/
def k4 : Class := { plain "java/io/Serializable" (some 0) with
  accessFlags := 1537
  interfaces := #[]
  cf := some (fileOf pool4 2 #[] #[] 1537 4 #[] #[])
  fields := #[]
  methods := #[]
  instanceTypes := #[]
  staticTypes := #[]
  resolved := Array.replicate 8 none
  statics := none }

/-- the primitive byte -/
def k5 : Class := { plain "byte" none with kind := .primitive 'B', accessFlags := 0x411 }
/-- [B -/
def k6 : Class := { plain "[B" (some 0) with kind := .array 5 .byte, interfaces := #[3, 4], accessFlags := 1041 }

/-- the primitive int -/
def k7 : Class := { plain "int" none with kind := .primitive 'I', accessFlags := 0x411 }
/-- [I -/
def k8 : Class := { plain "[I" (some 0) with kind := .array 7 .int, interfaces := #[3, 4], accessFlags := 1041 }

def heap : Heap := #[]
def classes : Array Class := #[k0, k1, k2, k3, k4, k5, k6, k7, k8]
def interned : List (Array UInt16 × Addr) := []
def slotsUsed : Nat := 0
def theMethod : MethodId := ⟨1, 2⟩
def args0 : Array Value := #[.int 5, .int 300, .int 7, .int 1, .int 2, .int 3]
def aboutOver (below : List Frame) : State where
  vm := { classes := classes, interned := interned.toArray }
  heap := heap
  slotsUsed := slotsUsed
  threads := #[{ frames := .invoking theMethod args0 :: below }]
def below0 : List Frame := [.native { method := ⟨0, 0⟩, args := #[] }]
def about1 : State := aboutOver below0
def p0 : Program := .bare "" "" ""
def e0 : Env := launch0.env 0 0 0
theorem w_frames : about1.frames = Frame.invoking theMethod args0 :: below0 := rfl
set_option maxRecDepth 65536 in
theorem w_args : argsFit about1.vm theMethod args0 = true := by decide +kernel
set_option maxRecDepth 65536 in
theorem w_heap : heapFits about1 = true := by decide +kernel
set_option maxRecDepth 65536 in
theorem w_runnable : about1.curStatus? = some .runnable := by decide +kernel
set_option maxRecDepth 65536 in
theorem w_alone : about1.alone = true := by decide +kernel
set_option maxRecDepth 65536 in
theorem w_named : about1.methodNamed? x = some theMethod := by decide +kernel
set_option maxRecDepth 65536 in
theorem w_hears : about1.hears theMethod below0 = true := by decide +kernel
set_option maxRecDepth 65536 in
theorem w_ripe : about1.ripe theMethod args0 below0 = true := by decide +kernel
theorem w_running : about1.status = .running := rfl
set_option maxRecDepth 65536 in
theorem w_room : about1.hasRoom e0.platform room_1 = true :=
  launch0.hasRoom_least _ room_1 (by decide +kernel) (by decide +kernel) (by decide +kernel) (by decide +kernel) (by decide +kernel) (by decide +kernel)
theorem allAtoms_all (ts : List Jvm.Cond) (a : Array Jvm.Value) (st : Jvm.State) : (allAtoms ts).before a st = ts.all (fun c => c.before a st) := by
  induction ts with
  | nil => rfl
  | cons c t ih =>
    show (Jvm.Cond.and c (allAtoms t)).before a st = _
    rw [Jvm.Cond.before_and, ih, List.all_cons]
def words1 : List Jvm.Cond := Jvm.Cond.code x code maxLocals ret :: tables_1
/-- a 'code' word, met by the world's own term for the bytes: nothing is compared byte by byte -/
theorem code_word {y : MethodName} {bytes : ByteArray} {mx : Nat} {rt : Option FieldType} {a : Array Value} {s : State} {m : MethodId} {meth : Method} {c : Code} (h1 : s.methodNamed? y = some m) (h2 : s.vm.method? m = some meth) (h3 : meth.code = some c) (h4 : c.code = bytes)
    (h5 : (c.maxLocals == mx && c.exceptionTable.isEmpty && decide (c.maxStack ≤ mostOperands) && decide (meth.sig.returnType = rt) && !meth.locks && decide (parseMethodDescriptor y.desc = some meth.sig)) = true) : (Jvm.Cond.code y bytes mx rt).before a s = true := by
  simp only [Bool.and_eq_true, beq_iff_eq, Bool.not_eq_true', decide_eq_true_eq] at h5
  obtain ⟨⟨⟨⟨⟨g1, g2⟩, g3⟩, g4⟩, g5⟩, g6⟩ := h5
  simp [Cond.before, Cond.holds, Cond.value, h1, h2, h3, h4, g1, g2, g3, g4, g5, g6]
def isCode : Jvm.Cond → Bool
  | .code _ _ _ _ => true
  | _ => false
theorem all_split {L : List Jvm.Cond} {P : Jvm.Cond → Bool} (h1 : L.all (fun c => isCode c || P c) = true) (h2 : ∀ c ∈ L.filter isCode, P c = true) : L.all P = true := by
  refine List.all_eq_true.mpr fun c hc => ?_
  have h := List.all_eq_true.mp h1 c hc
  rcases Bool.eq_false_or_eq_true (isCode c) with hi | hi
  · exact h2 c (List.mem_filter.mpr ⟨hc, hi⟩)
  · simpa [hi] using h
set_option maxRecDepth 65536 in
theorem w_c0 : (Jvm.Cond.code x code maxLocals ret).before args0 about1 = true := code_word (m := ⟨1, 2⟩) (meth := k1m2) (c := k1c2) (by decide +kernel) rfl rfl rfl (by decide +kernel)
set_option maxRecDepth 65536 in
theorem w_c1 : (Jvm.Cond.code ({ cls := "com/example/ookayama/ookayama/CountingSortByKeyPinLaw", name := "before", desc := "(IIII)I" } : Jvm.MethodName) method_2_code (4 : Nat) (Option.some Jvm.ClassFile.FieldType.int)).before args0 about1 = true := code_word (m := ⟨1, 1⟩) (meth := k1m1) (c := k1c1) (by decide +kernel) rfl rfl rfl (by decide +kernel)
set_option maxRecDepth 65536 in
theorem w_c2 : (Jvm.Cond.code ({ cls := "com/example/ookayama/ookayama/CountingSort", name := "byKey", desc := "([I[II)[I" } : Jvm.MethodName) prog_16_method_3_code (9 : Nat) (Option.some (Jvm.ClassFile.FieldType.array Jvm.ClassFile.FieldType.int))).before args0 about1 = true := code_word (m := ⟨2, 1⟩) (meth := k2m1) (c := k2c1) (by decide +kernel) rfl rfl rfl (by decide +kernel)
def codes1 : List Jvm.Cond := [Jvm.Cond.code x code maxLocals ret, Jvm.Cond.code ({ cls := "com/example/ookayama/ookayama/CountingSortByKeyPinLaw", name := "before", desc := "(IIII)I" } : Jvm.MethodName) method_2_code (4 : Nat) (Option.some Jvm.ClassFile.FieldType.int), Jvm.Cond.code ({ cls := "com/example/ookayama/ookayama/CountingSort", name := "byKey", desc := "([I[II)[I" } : Jvm.MethodName) prog_16_method_3_code (9 : Nat) (Option.some (Jvm.ClassFile.FieldType.array Jvm.ClassFile.FieldType.int))]
set_option maxRecDepth 65536 in
theorem codes_eq : words1.filter isCode = codes1 := rfl
theorem w_codes : ∀ c ∈ words1.filter isCode, c.before args0 about1 = true := by
  rw [codes_eq]
  intro c hc
  simp only [codes1, List.mem_cons, List.not_mem_nil, or_false] at hc
  rcases hc with rfl | rfl | rfl
  · exact w_c0
  · exact w_c1
  · exact w_c2
set_option maxRecDepth 65536 in
theorem w_t1 : words1.all (fun c => isCode c || c.before args0 about1) = true := by decide +kernel
theorem w_tables : (allAtoms (Jvm.Cond.code x code maxLocals ret :: tables_1)).before args0 about1 = true := by
  rw [allAtoms_all]
  show words1.all (fun c => c.before args0 about1) = true
  refine all_split ?_ w_codes
  rw [w_t1]
set_option maxRecDepth 65536 in
theorem w_case : (Jvm.Cond.and given_1 narrow_1).before args0 about1 = true := by decide +kernel
theorem w_applies : (headSpec (Jvm.Cond.code x code maxLocals ret :: tables_1) room_1).applies x e0.platform about1 = true :=
  (Spec.applies_iff w_frames).mpr ⟨w_running, w_runnable, w_alone, w_named, w_hears, w_ripe, w_room, w_tables⟩
theorem atStart : AtStart classFile x code maxLocals ret World_1 tables_1 room_1 Calls_1 rest_1 Pre_1 launch0 p0 e0 about1 theMethod args0 below0 :=
  ⟨lists_1, trivial, launch0.admits_env _ _ _, launch0.least_env, fairChoices_fair.cas, fairChoices_fair.clock, w_frames, w_args, w_heap, w_applies, trivial, trivial, w_case⟩
end start1
theorem witness_1 : WitnessClaimed_1 := ⟨start1.p0, start1.e0, start1.about1, start1.theMethod, start1.args0, start1.below0, start1.atStart⟩
end Jvm.Pilot.@@N@@
