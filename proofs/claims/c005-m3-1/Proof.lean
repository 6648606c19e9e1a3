import JvmDerived
import JvmDerived.Pilot.@@N@@Statement
import JvmDerived.Pilot.@@N@@Code
set_option linter.unusedVariables false
set_option linter.unusedSimpArgs false
namespace Jvm.Pilot.@@N@@
open Jvm Jvm.ClassFile Sem Op Lib Jvm.Free Jvm.Stand Jvm.LawKit Jvm.RoadKit Bundle Jvm.Pilot.@@N@@.Jvm.D
section Core
variable {p : Program} {l : Launch} {e : Env} {R : Room} {s : State} {m : MethodId} {args : Array Value} {below : List Frame} {meth : Method} {c : Code} {Z : State} {n0 : Nat} {T : State} {h : Heap} {k n : Nat} {Q : Option Value → Heap → Prop} {K N : Nat} {a0 : Array Value}
/-- where a walk stands: the state T, its heap h, k cells and n slots made so far; every place that was written is new -/
def WSt (p : Program) (l : Launch) (e : Env) (R : Room) (s : State) (m : MethodId) (args : Array Value) (below : List Frame) (meth : Method) (c : Code) (Z : State) (n0 : Nat) (T : State) (h : Heap) (k n : Nat) : Prop :=
  ∃ locs, Stand p l e R s m args below meth c T locs k n ∧ T.heap = h ∧ Fr n0 locs ∧ n0 ≤ s.heap.size ∧ p.tables.exec = Jvm.exec ∧ Z.Warmed39 s.vm ∧ meth.locks = false
/-- from here the invocation returns, and what it leaves answers to Q -/
def WGo (p : Program) (e : Env) (below : List Frame) (s : State) (n0 : Nat) (Q : Option Value → Heap → Prop) (K N : Nat) (T : State) (g : JFrame) : Prop :=
  ∃ s₂ o, Steps p.tables e below (T.setTop g) s₂ ∧ s₂.status = .running ∧ Ended s₂ below o ∧ ∃ v L, o = .returned v ∧ (Q v s₂.heap ∧ Fr n0 L) ∧ FrameEnd s o s₂ L K N
/-- a body's contract at one heap and one list of arguments -/
def WCon (l : Launch) (Z : State) (n0 : Nat) (h0 : Heap) (y : MethodName) (bytes : ByteArray) (maxL : Nat) (ret : Option FieldType) (ws : List Jvm.Cond) (rm : Room) (as : Array Value) (Q : Option Value → Heap → Prop) : Prop :=
  MetFree l y (head1 (Jvm.Cond.code y bytes maxL ret :: ws) rm) (fun a U => a = as ∧ Z.Warmed39 U.vm ∧ U.heap = h0) (fun _ _ _ _ _ => True) (fun _ U o U' => ∃ v L, o = .returned v ∧ (Q v U'.heap ∧ Fr n0 L) ∧ FrameEnd U o U' L rm.cells rm.slots)

theorem WSt.here (S : WSt p l e R s m args below meth c Z n0 T h k n) : At T m c below := by obtain ⟨_, X, _⟩ := S; exact X.here
theorem WSt.eT (S : WSt p l e R s m args below meth c Z n0 T h k n) : T.heap = h := by obtain ⟨_, _, q, _⟩ := S; exact q
theorem WSt.ge (S : WSt p l e R s m args below meth c Z n0 T h k n) : n0 ≤ h.size := by
  obtain ⟨_, X, q, _, r, _⟩ := S
  have h1 : s.heap.size ≤ T.heap.size := X.same.2.1
  rw [← q]; omega
theorem WGo.st {T' : State} {g g' : JFrame} (q : ∀ t, Steps p.tables e below (T'.setTop g') t → Steps p.tables e below (T.setTop g) t) (r : WGo p e below s n0 Q K N T' g') : WGo p e below s n0 Q K N T g := by
  obtain ⟨s2, o, h1, r⟩ := r
  exact ⟨s2, o, q _ h1, r⟩
theorem WGo.cast {g g' : JFrame} (q : g = g') (r : WGo p e below s n0 Q K N T g') : WGo p e below s n0 Q K N T g := q ▸ r
theorem WCon.of {y : MethodName} {bytes : ByteArray} {maxL : Nat} {ret : Option FieldType} {ws : List Jvm.Cond} {rm : Room} {as : Array Value} {h0 : Heap} (hp : plainFor y = true) (hn0 : n0 ≤ h0.size)
    (body : ∀ (p : Program) (e : Env) (s : State) (m : MethodId) (below : List Frame) (meth : Method) (c : Code) (T : State), p.tables.exec = Jvm.exec → Z.Warmed39 s.vm → c.code = bytes → c.maxLocals = maxL → s.vm.findClass y.cls = some m.cls → meth.name = y.name → meth.sig.returnType = ret → WSt p l e rm s m as below meth c Z n0 T h0 0 0 → WGo p e below s n0 Q rm.cells rm.slots T (entryFrame m as maxL)) :
    WCon l Z n0 h0 y bytes maxL ret ws rm as Q := by
  refine MetFree.of_bodySF hp hisR ?_
  intro p e s m args below meth c s₁ Bd hml0 hP hK
  obtain ⟨rfl, hZ, hh⟩ := hP
  have X0 := Stand.of_body Bd
  exact body p e s m below meth c s₁ Bd.exec hZ Bd.bytes hml0 (findClass_of_methodNamed Bd.named) (name_of_methodNamed Bd.named Bd.method).1 Bd.returns ⟨[], X0, by rw [← hh, Bd.state]; rfl, Fr.nil _, by rw [hh]; exact hn0, Bd.exec, hZ, Bd.notSynchronized⟩
/-- the returns -/
theorem w_ret (S : WSt p l e R s m args below meth c Z n0 T h k n) {t : FieldType} {w : Value} {i : Instr} {pc : Nat} {Ls : Array Slot} {rest : List Value} (hret : meth.sig.returnType = some t) (hnw : narrow t w = w)
    (hi : (i = .ireturn ∧ (t = .int ∨ t = .boolean ∨ t = .byte ∨ t = .char ∨ t = .short) ∧ ∃ z, w = .int z) ∨ (i = .lreturn ∧ t = .long ∧ ∃ z, w = .long z) ∨ (i = .dreturn ∧ t = .double ∧ ∃ z, w = .double z) ∨ (i = .freturn ∧ t = .float ∧ ∃ z, w = .float z) ∨ (i = .areturn ∧ t.isReference = true ∧ w.isRef = true))
    (hd : decode c.code pc = .ok (i, 1)) (hk : k ≤ K) (hn : n ≤ N) (hQ : Q (some w) h) : WGo p e below s n0 Q K N T (mkF m pc Ls (w :: rest)) := by
  obtain ⟨locs, X, e1, N1, -, hx, hZ, hlk⟩ := S
  obtain ⟨fs, hr, hrun, hended, hW, hsame⟩ := X.leave (v := some w) (fun q => by rw [hret] at q; cases q) hlk
  refine ⟨_, _, retOut X hx hret hnw hi hd hr, hrun, hended, _, locs, rfl, ⟨?_, N1⟩, ⟨_, rfl⟩, hW, hsame.mono hk hn⟩
  show Q (some w) T.heap
  rw [e1]; exact hQ
theorem w_retI (S : WSt p l e R s m args below meth c Z n0 T h k n) {z : Int32} {pc : Nat} {Ls : Array Slot} {rest : List Value} (hret : meth.sig.returnType = some .int) (hd : decode c.code pc = .ok (.ireturn, 1)) (hk : k ≤ K) (hn : n ≤ N) (hQ : Q (some (.int z)) h) : WGo p e below s n0 Q K N T (mkF m pc Ls (.int z :: rest)) :=
  w_ret S hret rfl (Or.inl ⟨rfl, Or.inl rfl, _, rfl⟩) hd hk hn hQ
theorem w_retZ (S : WSt p l e R s m args below meth c Z n0 T h k n) {z : Int32} {pc : Nat} {Ls : Array Slot} {rest : List Value} (hret : meth.sig.returnType = some .boolean) (hd : decode c.code pc = .ok (.ireturn, 1)) (hz : z = 0 ∨ z = 1) (hk : k ≤ K) (hn : n ≤ N) (hQ : Q (some (.int z)) h) : WGo p e below s n0 Q K N T (mkF m pc Ls (.int z :: rest)) :=
  w_ret S hret (by rcases hz with rfl | rfl <;> rfl) (Or.inl ⟨rfl, Or.inr (Or.inl rfl), _, rfl⟩) hd hk hn hQ
theorem w_retJ (S : WSt p l e R s m args below meth c Z n0 T h k n) {z : Int64} {pc : Nat} {Ls : Array Slot} {rest : List Value} (hret : meth.sig.returnType = some .long) (hd : decode c.code pc = .ok (.lreturn, 1)) (hk : k ≤ K) (hn : n ≤ N) (hQ : Q (some (.long z)) h) : WGo p e below s n0 Q K N T (mkF m pc Ls (.long z :: rest)) :=
  w_ret S hret rfl (Or.inr (Or.inl ⟨rfl, rfl, _, rfl⟩)) hd hk hn hQ
theorem w_retA (S : WSt p l e R s m args below meth c Z n0 T h k n) {t : FieldType} {z : Addr} {pc : Nat} {Ls : Array Slot} {rest : List Value} (hret : meth.sig.returnType = some t) (ht : t.isReference = true) (hnw : narrow t (.ref z) = .ref z) (hd : decode c.code pc = .ok (.areturn, 1)) (hk : k ≤ K) (hn : n ≤ N) (hQ : Q (some (.ref z)) h) : WGo p e below s n0 Q K N T (mkF m pc Ls (.ref z :: rest)) :=
  w_ret S hret hnw (Or.inr (Or.inr (Or.inr (Or.inr ⟨rfl, ht, rfl⟩)))) hd hk hn hQ
theorem w_retV (S : WSt p l e R s m args below meth c Z n0 T h k n) {pc : Nat} {Ls : Array Slot} (hret : meth.sig.returnType = none) (hd : decode c.code pc = .ok (.return_, 1)) (hk : k ≤ K) (hn : n ≤ N) (hQ : Q none h) : WGo p e below s n0 Q K N T (mkF m pc Ls []) := by
  obtain ⟨locs, X, e1, N1, -, hx, hZ, hlk⟩ := S
  obtain ⟨fs, hr, hrun, hended, hW, hsame⟩ := X.leave (v := none) (fun _ => rfl) hlk
  refine ⟨_, _, X.returnOut hx hret hd hr, hrun, hended, _, locs, rfl, ⟨?_, N1⟩, ⟨_, rfl⟩, hW, hsame.mono hk hn⟩
  show Q none T.heap
  rw [e1]; exact hQ
/-- constants, remainder -/
theorem w_ldc (S : WSt p l e R s m args below meth c Z n0 T h k n) {own : String} {index : Nat} {v : Int32} (hown : s.vm.findClass own = some m.cls) (w : (Jvm.Cond.constant own index v).before a0 Z = true) {g : JFrame} (hg : g.method = m) (hd : decode c.code g.pc = .ok (.ldc index, 2))
    (r : WGo p e below s n0 Q K N T { g with pc := g.pc + 2, stack := .int v :: g.stack }) : WGo p e below s n0 Q K N T g := by
  obtain ⟨locs, X, e1, N1, -, hx, hZ, hlk⟩ := S
  exact WGo.st (X.ldcInt hx hown (mvT hZ w) hg hd) r
theorem w_ldc2 (S : WSt p l e R s m args below meth c Z n0 T h k n) {own : String} {index : Nat} {v : Int64} (hown : s.vm.findClass own = some m.cls) (w : (Jvm.Cond.constantLong own index v).before a0 Z = true) {g : JFrame} (hg : g.method = m) (hd : decode c.code g.pc = .ok (.ldc2_w index, 3))
    (r : WGo p e below s n0 Q K N T { g with pc := g.pc + 3, stack := .long v :: g.stack }) : WGo p e below s n0 Q K N T g := by
  obtain ⟨locs, X, e1, N1, -, hx, hZ, hlk⟩ := S
  exact WGo.st (X.ldc2Long hx hown (mvT hZ w) hg hd) r
theorem w_irem (S : WSt p l e R s m args below meth c Z n0 T h k n) {g : JFrame} (hg : g.method = m) {x y : Int32} {rest : List Value} (hd : decode c.code g.pc = .ok (.irem, 1)) (hs : g.stack = .int y :: .int x :: rest) (hy : y ≠ 0)
    (r : WGo p e below s n0 Q K N T { g with pc := g.pc + 1, stack := .int (x % y) :: rest }) : WGo p e below s n0 Q K N T g := by
  obtain ⟨locs, X, e1, N1, -, hx, hZ, hlk⟩ := S
  exact WGo.st (fun _ q => iremM X hx hg hd hs hy q) r
/-- arrays of ints, bytes, booleans, chars: the values in order -/
def AI (Z : State) (h : Heap) (a : Addr) (ty : FieldType) (L : List Int32) : Prop := ∃ cl : Cell, Arr Z h a cl ty ∧ cl.slots = (L.map Value.int).toArray
def gi (L : List Int32) (j : Int32) : Int32 := L.getD j.toNatClampNeg 0
def si (L : List Int32) (j : Int32) (v : Int32) : List Int32 := L.set j.toNatClampNeg v
variable {a b : Addr} {ty : FieldType} {L : List Int32} {h' : Heap} {ws : List Addr}
theorem AI.lt (A : AI Z h a ty L) : a < h.size := by obtain ⟨cl, A, -⟩ := A; exact A.lt
theorem AI.keep (A : AI Z h a ty L) (K : Keep h h' ws) (q : a ∉ ws) : AI Z h' a ty L := by obtain ⟨cl, A, r⟩ := A; exact ⟨cl, ⟨K.2.1 a cl A.1 q, A.2⟩, r⟩
theorem ai_size {cl : Cell} (r : cl.slots = (L.map Value.int).toArray) : cl.slots.size = L.length := by rw [r]; simp
theorem ai_in {cl : Cell} {j : Int32} (r : cl.slots = (L.map Value.int).toArray) (h0 : 0 ≤ j.toInt) (h1 : j.toInt < L.length) : ¬ (j < 0 ∨ cl.slots.size ≤ j.toNatClampNeg) := by
  rw [ai_size r]
  have : (0 : Int32).toInt = 0 := rfl
  simp only [Int32.lt_iff_toInt_lt, Int32.toNatClampNeg]; omega
theorem ai_at {cl : Cell} {j : Int32} (r : cl.slots = (L.map Value.int).toArray) (h0 : 0 ≤ j.toInt) (h1 : j.toInt < L.length) : cl.slots[j.toNatClampNeg]? = some (.int (gi L j)) := by
  have q : j.toNatClampNeg < L.length := by simp only [Int32.toNatClampNeg]; omega
  rw [r]
  simp [gi, q]
theorem keep_ext {h h' : Heap} (E : Ext h h') (ws : List Addr) : Keep h h' ws := (Keep.refl h ws).ext E
theorem ai_new {cl : ClassId} {ty : FieldType} {j : Int32} (hty : defaultValue ty = .int 0) : (newA cl ty j).slots = ((List.replicate j.toNatClampNeg (0 : Int32)).map Value.int).toArray := by
  simp [newA, hty]
theorem w_newarray (S : WSt p l e R s m args below meth c Z n0 T h k n) {aty : ArrayType} (w : (Jvm.Cond.arrayClass (newarray.typeOf aty)).before a0 Z = true) (hty : defaultValue (newarray.typeOf aty) = .int 0) {g : JFrame} (hg : g.method = m) (hd : decode c.code g.pc = .ok (.newarray aty, 2)) {j : Int32} {rest : List Value} (hs : g.stack = .int j :: rest)
    (hj : ¬ j < 0) {cap : Nat} (hcap : j.toNatClampNeg ≤ cap) (hb : cap * 8 ≤ 536870912) (hc : k + 1 ≤ R.cells) (hl : n + cap ≤ R.slots) {L : List Int32} (hL : List.replicate j.toNatClampNeg 0 = L)
    (r : ∀ T' h' a', WSt p l e R s m args below meth c Z n0 T' h' (k + 1) (n + cap) → Keep h h' [] → a' = h.size → n0 ≤ a' → AI Z h' a' (newarray.typeOf aty) L → WGo p e below s n0 Q K N T' { g with pc := g.pc + 2, stack := .ref a' :: rest }) : WGo p e below s n0 Q K N T g := by
  have hge := S.ge
  obtain ⟨locs, X, e1, N1, n1, hx, hZ, hlk⟩ := S
  obtain ⟨T', h', cA, X', e', E', A', st⟩ := newP X hx hZ w e1 hg hd hs hj hcap hb hc hl
  exact WGo.st st (r T' h' _ ⟨locs, X', e', N1, n1, hx, hZ, hlk⟩ (keep_ext E' _) rfl hge ⟨_, A', by rw [ai_new hty, hL]⟩)
theorem w_iaload (S : WSt p l e R s m args below meth c Z n0 T h k n) (A : AI Z h a .int L) {g : JFrame} (hg : g.method = m) (hd : decode c.code g.pc = .ok (.iaload, 1)) {j : Int32} {rest : List Value} (hs : g.stack = .int j :: .ref a :: rest) (h0 : 0 ≤ j.toInt) (h1 : j.toInt < L.length) {v : Int32} (hv : gi L j = v)
    (r : WGo p e below s n0 Q K N T { g with pc := g.pc + 1, stack := .int v :: rest }) : WGo p e below s n0 Q K N T g := by
  subst hv
  obtain ⟨locs, X, e1, N1, n1, hx, hZ, hlk⟩ := S
  obtain ⟨cl, A, q⟩ := A
  exact WGo.st (fun t u => X.iaload hx (j := j) (v := .int (gi L j)) (by rw [e1]; exact A.1) (State.isArrayOf_alike hZ.alike A.2.1) A.2.2 (ai_in q h0 h1) (ai_at q h0 h1) hg hs hd t u) r
theorem w_caload (S : WSt p l e R s m args below meth c Z n0 T h k n) (A : AI Z h a .char L) {g : JFrame} (hg : g.method = m) (hd : decode c.code g.pc = .ok (.caload, 1)) {j : Int32} {rest : List Value} (hs : g.stack = .int j :: .ref a :: rest) (h0 : 0 ≤ j.toInt) (h1 : j.toInt < L.length) {v : Int32} (hv : gi L j = v)
    (r : WGo p e below s n0 Q K N T { g with pc := g.pc + 1, stack := .int v :: rest }) : WGo p e below s n0 Q K N T g := by
  subst hv
  obtain ⟨locs, X, e1, N1, n1, hx, hZ, hlk⟩ := S
  obtain ⟨cl, A, q⟩ := A
  exact WGo.st (fun t u => X.caload hx (j := j) (v := .int (gi L j)) (by rw [e1]; exact A.1) (State.isArrayOf_alike hZ.alike A.2.1) A.2.2 (ai_in q h0 h1) (ai_at q h0 h1) hg hs hd t u) r
theorem w_baload (S : WSt p l e R s m args below meth c Z n0 T h k n) (A : AI Z h a .byte L) {g : JFrame} (hg : g.method = m) (hd : decode c.code g.pc = .ok (.baload, 1)) {j : Int32} {rest : List Value} (hs : g.stack = .int j :: .ref a :: rest) (h0 : 0 ≤ j.toInt) (h1 : j.toInt < L.length) {v : Int32} (hv : gi L j = v)
    (r : WGo p e below s n0 Q K N T { g with pc := g.pc + 1, stack := .int v :: rest }) : WGo p e below s n0 Q K N T g := by
  subst hv
  obtain ⟨locs, X, e1, N1, n1, hx, hZ, hlk⟩ := S
  obtain ⟨cl, A, q⟩ := A
  exact WGo.st (fun t u => X.baloadBytes hx (j := j) (v := .int (gi L j)) (by rw [e1]; exact A.1) (State.isArrayOf_alike hZ.alike A.2.1) A.2.2 (ai_in q h0 h1) (ai_at q h0 h1) hg hs hd t u) r
theorem w_zaload (S : WSt p l e R s m args below meth c Z n0 T h k n) (A : AI Z h a .boolean L) {g : JFrame} (hg : g.method = m) (hd : decode c.code g.pc = .ok (.baload, 1)) {j : Int32} {rest : List Value} (hs : g.stack = .int j :: .ref a :: rest) (h0 : 0 ≤ j.toInt) (h1 : j.toInt < L.length) {v : Int32} (hv : gi L j = v)
    (r : WGo p e below s n0 Q K N T { g with pc := g.pc + 1, stack := .int v :: rest }) : WGo p e below s n0 Q K N T g := by
  subst hv
  obtain ⟨locs, X, e1, N1, n1, hx, hZ, hlk⟩ := S
  obtain ⟨cl, A, q⟩ := A
  exact WGo.st (fun t u => X.baloadBooleans hx (j := j) (v := .int (gi L j)) (by rw [e1]; exact A.1) (State.isArrayOf_alike hZ.alike A.2.1) A.2.2 (ai_in q h0 h1) (ai_at q h0 h1) hg hs hd t u) r
theorem w_arraylength (S : WSt p l e R s m args below meth c Z n0 T h k n) (A : AI Z h a ty L) {g : JFrame} (hg : g.method = m) (hd : decode c.code g.pc = .ok (.arraylength, 1)) {rest : List Value} (hs : g.stack = .ref a :: rest) {z : Int32} (hz : L.length.toInt32 = z)
    (r : WGo p e below s n0 Q K N T { g with pc := g.pc + 1, stack := .int z :: rest }) : WGo p e below s n0 Q K N T g := by
  obtain ⟨locs, X, e1, N1, n1, hx, hZ, hlk⟩ := S
  obtain ⟨cl, A, q⟩ := A
  subst hz
  exact WGo.st (fun t u => X.arraylength hx (by rw [e1]; exact A.1) (State.isArrayOf_alike hZ.alike A.2.1) hg hs hd t (by rw [ai_size q]; exact u)) r
theorem ai_set {cl : Cell} {j x : Int32} (r : cl.slots = (L.map Value.int).toArray) : (cl.setSlot j.toNatClampNeg (.int x)).slots = ((si L j x).map Value.int).toArray := by
  simp [Cell.setSlot, r, si]
theorem w_iastore (S : WSt p l e R s m args below meth c Z n0 T h k n) (A : AI Z h a .int L) (ga : n0 ≤ a) {g : JFrame} (hg : g.method = m) (hd : decode c.code g.pc = .ok (.iastore, 1)) {j x : Int32} {rest : List Value} (hs : g.stack = .int x :: .int j :: .ref a :: rest) (h0 : 0 ≤ j.toInt) (h1 : j.toInt < L.length) {L' : List Int32} (hL : si L j x = L')
    (r : ∀ T' h', WSt p l e R s m args below meth c Z n0 T' h' k n → Keep h h' [a] → AI Z h' a .int L' → WGo p e below s n0 Q K N T' { g with pc := g.pc + 1, stack := rest }) : WGo p e below s n0 Q K N T g := by
  obtain ⟨locs, X, e1, N1, n1, hx, hZ, hlk⟩ := S
  obtain ⟨cl, A, q⟩ := A
  obtain ⟨T', h', X', e', W', st⟩ := stI X hx hZ e1 A (ai_in q h0 h1) hg hs hd
  exact WGo.st st (r T' h' ⟨_, X', e', Fr.snoc X' N1 ga, n1, hx, hZ, hlk⟩ (Keep.of_wr W') ⟨_, A.same W', by rw [ai_set q, hL]⟩)
theorem w_bastore (S : WSt p l e R s m args below meth c Z n0 T h k n) (A : AI Z h a .byte L) (ga : n0 ≤ a) {g : JFrame} (hg : g.method = m) (hd : decode c.code g.pc = .ok (.bastore, 1)) {j x : Int32} {rest : List Value} (hs : g.stack = .int x :: .int j :: .ref a :: rest) (h0 : 0 ≤ j.toInt) (h1 : j.toInt < L.length) {L' : List Int32} (hL : si L j x.toInt8.toInt32 = L')
    (r : ∀ T' h', WSt p l e R s m args below meth c Z n0 T' h' k n → Keep h h' [a] → AI Z h' a .byte L' → WGo p e below s n0 Q K N T' { g with pc := g.pc + 1, stack := rest }) : WGo p e below s n0 Q K N T g := by
  obtain ⟨locs, X, e1, N1, n1, hx, hZ, hlk⟩ := S
  obtain ⟨cl, A, q⟩ := A
  obtain ⟨T', h', X', e', W', st⟩ := stB X hx hZ e1 A (ai_in q h0 h1) hg hs hd
  exact WGo.st st (r T' h' ⟨_, X', e', Fr.snoc X' N1 ga, n1, hx, hZ, hlk⟩ (Keep.of_wr W') ⟨_, A.same W', by rw [ai_set q]; exact hL ▸ rfl⟩)
theorem w_zastore (S : WSt p l e R s m args below meth c Z n0 T h k n) (A : AI Z h a .boolean L) (ga : n0 ≤ a) {g : JFrame} (hg : g.method = m) (hd : decode c.code g.pc = .ok (.bastore, 1)) {j x : Int32} {rest : List Value} (hs : g.stack = .int x :: .int j :: .ref a :: rest) (h0 : 0 ≤ j.toInt) (h1 : j.toInt < L.length) (hb : x = 0 ∨ x = 1) {L' : List Int32} (hL : si L j x = L')
    (r : ∀ T' h', WSt p l e R s m args below meth c Z n0 T' h' k n → Keep h h' [a] → AI Z h' a .boolean L' → WGo p e below s n0 Q K N T' { g with pc := g.pc + 1, stack := rest }) : WGo p e below s n0 Q K N T g := by
  obtain ⟨locs, X, e1, N1, n1, hx, hZ, hlk⟩ := S
  obtain ⟨cl, A, q⟩ := A
  obtain ⟨T', h', X', e', W', st⟩ := stZ X hx hZ e1 A (ai_in q h0 h1) hg hs hd
  have hx1 : nar .boolean x = x := by rcases hb with rfl | rfl <;> rfl
  rw [hx1] at W'
  exact WGo.st st (r T' h' ⟨_, X', e', Fr.snoc X' N1 ga, n1, hx, hZ, hlk⟩ (Keep.of_wr W') ⟨_, A.same W', by rw [ai_set q, hL]⟩)
/-- calls by contract -/
theorem w_static (S : WSt p l e R s m args below meth c Z n0 T h k n) {own : String} {index : Nat} {y : MethodName} {bytes : ByteArray} {maxL : Nat} {ret : Option FieldType} (hown : s.vm.findClass own = some m.cls) (w1 : (Jvm.Cond.methodLink own index y).before a0 Z = true) (w2 : (Jvm.Cond.static y).before a0 Z = true) (w3 : (Jvm.Cond.initialized y.cls).before a0 Z = true) (w4 : (Jvm.Cond.code y bytes maxL ret).before a0 Z = true) (hy : y.cls ≠ "java/lang/invoke/MethodHandle" ∧ y.cls ≠ "java/lang/invoke/VarHandle")
    {rm : Room} {as : Array Value} {Qc : Option Value → Heap → Prop} (C : WCon l Z n0 h y bytes maxL ret [] rm as Qc) {W : Nat} (hf : rm.frames + 1 ≤ R.frames) (hl : W + (maxL + 11) + rm.locals ≤ R.locals) (hc : k + rm.cells ≤ R.cells) (hs : n + rm.slots ≤ R.slots)
    {g : JFrame} (hg : g.method = m) (hsize : g.locals.size = c.maxLocals) {argsL rest : List Value} {ps : List FieldType} {rt : Option FieldType} (hpd : parseMethodDescriptor y.desc = some ⟨ps, rt⟩) (hlen : argsL.length = ps.length) (hstack : g.stack = argsL.reverse ++ rest) (has : argsL.toArray = as) (hW : 2 * g.monitorRoom + (rest.map fun v => v.category).sum ≤ W) (hd : decode c.code g.pc = .ok (.invokestatic index, 3))
    (r : ∀ T' h' v, WSt p l e R s m args below meth c Z n0 T' h' (k + rm.cells) (n + rm.slots) → Qc v h' → WGo p e below s n0 Q K N T' { g with pc := g.pc + 3, stack := v.toList ++ rest }) : WGo p e below s n0 Q K N T g := by
  obtain ⟨locs, X, e1, N1, n1, hx, hZ, hlk⟩ := S
  have B := backOf (W := W) (s := s) (args := args) (R := R) (p := p) (e := e) (below := below) (len := 3) (a0 := a0) (Q := fun v h L => Qc v h ∧ Fr n0 L) C hZ w4 w3 hf hl
  obtain ⟨v, vm1, ⟨T1, L1, k1, m1⟩, -, X1, ⟨Lc, hQ, l1, y1, z1⟩, st⟩ := Jvm.LawKit.callS X hx (y := y) hown (mvT hZ w1) (mvT hZ w2) (mvT hZ w3) (mvT hZ w4) hy B hg hsize (lenOf hpd hlen) hstack hW hd (fun _ _ => ⟨has, e1, hc, hs⟩)
  dsimp only [Pt.U, Pt.locs, Pt.cells, Pt.slots] at X1 l1 y1 z1 st hQ
  subst l1 y1 z1
  exact WGo.st st (r _ _ v ⟨_, X1, rfl, Fr.app N1 hQ.2, n1, hx, hZ, hlk⟩ hQ.1)
theorem w_special (S : WSt p l e R s m args below meth c Z n0 T h k n) {own : String} {index : Nat} {y : MethodName} {bytes : ByteArray} {maxL : Nat} (hyn : y.name = "<init>") (hown : s.vm.findClass own = some m.cls) (w1 : (Jvm.Cond.methodLink own index y).before a0 Z = true) (w2 : (Jvm.Cond.instanceMethod y).before a0 Z = true) (w3 : (Jvm.Cond.initialized y.cls).before a0 Z = true) (w4 : (Jvm.Cond.code y bytes maxL none).before a0 Z = true) (hy : y.cls ≠ "java/lang/invoke/MethodHandle" ∧ y.cls ≠ "java/lang/invoke/VarHandle")
    {rm : Room} {as : Array Value} {Qc : Option Value → Heap → Prop} (C : WCon l Z n0 h y bytes maxL none [] rm as Qc) {W : Nat} (hf : rm.frames + 1 ≤ R.frames) (hl : W + (maxL + 11) + rm.locals ≤ R.locals) (hc : k + rm.cells ≤ R.cells) (hs : n + rm.slots ≤ R.slots)
    {g : JFrame} (hg : g.method = m) (hsize : g.locals.size = c.maxLocals) {argsL rest : List Value} {ps : List FieldType} {rt : Option FieldType} (hpd : parseMethodDescriptor y.desc = some ⟨ps, rt⟩) (hlen : argsL.length = ps.length) (hstack : g.stack = argsL.reverse ++ .ref a :: rest) (has : (Value.ref a :: argsL).toArray = as) (hW : 2 * g.monitorRoom + (rest.map fun v => v.category).sum ≤ W) (hd : decode c.code g.pc = .ok (.invokespecial index, 3))
    (r : ∀ T' h' v, WSt p l e R s m args below meth c Z n0 T' h' (k + rm.cells) (n + rm.slots) → Qc v h' → WGo p e below s n0 Q K N T' { g with pc := g.pc + 3, stack := v.toList ++ rest }) : WGo p e below s n0 Q K N T g := by
  obtain ⟨locs, X, e1, N1, n1, hx, hZ, hlk⟩ := S
  have B := backOf (W := W) (s := s) (args := args) (R := R) (p := p) (e := e) (below := below) (len := 3) (a0 := a0) (Q := fun v h L => Qc v h ∧ Fr n0 L) C hZ w4 w3 hf hl
  obtain ⟨v, vm1, ⟨T1, L1, k1, m1⟩, -, X1, ⟨Lc, hQ, l1, y1, z1⟩, st⟩ := X.specialBack hx (y := y) hyn hown (mvT hZ w1) (mvT hZ w2) (mvT hZ w4) hy B hg hsize (Steps.refl _) (lenOf hpd hlen) hstack hW hd (fun _ _ => ⟨has, e1, hc, hs⟩)
  dsimp only [Pt.U, Pt.locs, Pt.cells, Pt.slots] at X1 l1 y1 z1 st hQ
  subst l1 y1 z1
  exact WGo.st (fun _ q => st.trans q) (r _ _ v ⟨_, X1, rfl, Fr.app N1 hQ.2, n1, hx, hZ, hlk⟩ hQ.1)
theorem w_virtual (S : WSt p l e R s m args below meth c Z n0 T h k n) {own C : String} {index : Nat} {y : MethodName} {bytes : ByteArray} {maxL : Nat} {ret : Option FieldType} (hown : s.vm.findClass own = some m.cls) (w1 : (Jvm.Cond.methodLink own index y).before a0 Z = true) (w2 : (Jvm.Cond.declares y).before a0 Z = true) (w5 : (Jvm.Cond.selects C y y).before a0 Z = true) (w6 : (Jvm.Cond.instanceMethod y).before a0 Z = true) (w3 : (Jvm.Cond.initialized y.cls).before a0 Z = true) (w4 : (Jvm.Cond.code y bytes maxL ret).before a0 Z = true) (hy : y.cls ≠ "java/lang/invoke/MethodHandle" ∧ y.cls ≠ "java/lang/invoke/VarHandle") (E : Exa Z h a C)
    {rm : Room} {as : Array Value} {Qc : Option Value → Heap → Prop} (Cn : WCon l Z n0 h y bytes maxL ret [] rm as Qc) {W : Nat} (hf : rm.frames + 1 ≤ R.frames) (hl : W + (maxL + 11) + rm.locals ≤ R.locals) (hc : k + rm.cells ≤ R.cells) (hs : n + rm.slots ≤ R.slots)
    {g : JFrame} (hg : g.method = m) (hsize : g.locals.size = c.maxLocals) {argsL rest : List Value} {ps : List FieldType} {rt : Option FieldType} (hpd : parseMethodDescriptor y.desc = some ⟨ps, rt⟩) (hlen : argsL.length = ps.length) (hstack : g.stack = argsL.reverse ++ .ref a :: rest) (has : (Value.ref a :: argsL).toArray = as) (hW : 2 * g.monitorRoom + (rest.map fun v => v.category).sum ≤ W) (hd : decode c.code g.pc = .ok (.invokevirtual index, 3))
    (r : ∀ T' h' v, WSt p l e R s m args below meth c Z n0 T' h' (k + rm.cells) (n + rm.slots) → Qc v h' → WGo p e below s n0 Q K N T' { g with pc := g.pc + 3, stack := v.toList ++ rest }) : WGo p e below s n0 Q K N T g := by
  obtain ⟨locs, X, e1, N1, n1, hx, hZ, hlk⟩ := S
  have B := backOf (W := W) (s := s) (args := args) (R := R) (p := p) (e := e) (below := below) (len := 3) (a0 := a0) (Q := fun v h L => Qc v h ∧ Fr n0 L) Cn hZ w4 w3 hf hl
  obtain ⟨cq, kq, qa, qb, qc⟩ := isOf hZ e1 E
  obtain ⟨v, vm1, ⟨T1, L1, k1, m1⟩, -, X1, ⟨Lc, hQ, l1, y1, z1⟩, st⟩ := X.virtualBack hx (y := y) (z := y) hown (mvT hZ w1) (mvT hZ w2) (notFace_of_selects (args := #[]) (mvT hZ w5)) (mvT hZ w5) (mvT hZ w6) hy B qa qc hg hsize (Steps.refl _) (lenOf hpd hlen) hstack hW hd (fun _ _ => ⟨has, e1, hc, hs⟩)
  dsimp only [Pt.U, Pt.locs, Pt.cells, Pt.slots] at X1 l1 y1 z1 st hQ
  subst l1 y1 z1
  exact WGo.st (fun _ q => st.trans q) (r _ _ v ⟨_, X1, rfl, Fr.app N1 hQ.2, n1, hx, hZ, hlk⟩ hQ.1)
theorem w_private (S : WSt p l e R s m args below meth c Z n0 T h k n) {own C : String} {index : Nat} {y z : MethodName} {bytes : ByteArray} {maxL : Nat} {ret : Option FieldType} (hown : s.vm.findClass own = some m.cls) (w1 : (Jvm.Cond.methodLink own index y).before a0 Z = true) (w6 : (Jvm.Cond.instanceMethod y).before a0 Z = true) (w7 : (Jvm.Cond.privateMethod y).before a0 Z = true) (w3 : (Jvm.Cond.initialized y.cls).before a0 Z = true) (w4 : (Jvm.Cond.code y bytes maxL ret).before a0 Z = true) (w5 : (Jvm.Cond.selects z.cls z z).before a0 Z = true) (hzy : z.cls = y.cls) (hy : y.cls ≠ "java/lang/invoke/MethodHandle" ∧ y.cls ≠ "java/lang/invoke/VarHandle") (E : Exa Z h a C)
    {rm : Room} {as : Array Value} {Qc : Option Value → Heap → Prop} (Cn : WCon l Z n0 h y bytes maxL ret [] rm as Qc) {W : Nat} (hf : rm.frames + 1 ≤ R.frames) (hl : W + (maxL + 11) + rm.locals ≤ R.locals) (hc : k + rm.cells ≤ R.cells) (hs : n + rm.slots ≤ R.slots)
    {g : JFrame} (hg : g.method = m) (hsize : g.locals.size = c.maxLocals) {argsL rest : List Value} {ps : List FieldType} {rt : Option FieldType} (hpd : parseMethodDescriptor y.desc = some ⟨ps, rt⟩) (hlen : argsL.length = ps.length) (hstack : g.stack = argsL.reverse ++ .ref a :: rest) (has : (Value.ref a :: argsL).toArray = as) (hW : 2 * g.monitorRoom + (rest.map fun v => v.category).sum ≤ W) (hd : decode c.code g.pc = .ok (.invokevirtual index, 3))
    (r : ∀ T' h' v, WSt p l e R s m args below meth c Z n0 T' h' (k + rm.cells) (n + rm.slots) → Qc v h' → WGo p e below s n0 Q K N T' { g with pc := g.pc + 3, stack := v.toList ++ rest }) : WGo p e below s n0 Q K N T g := by
  obtain ⟨locs, X, e1, N1, n1, hx, hZ, hlk⟩ := S
  have B := backOf (W := W) (s := s) (args := args) (R := R) (p := p) (e := e) (below := below) (len := 3) (a0 := a0) (Q := fun v h L => Qc v h ∧ Fr n0 L) Cn hZ w4 w3 hf hl
  have hpriv := Cond.privateMethod_at (mvP hZ w7 (args := #[]))
  have hsel : (Jvm.Cond.selects y.cls y y).before args s = true := by
    have q5 : (Jvm.Cond.selects z.cls z z).before args s = true := mvT hZ w5
    obtain ⟨c2, r2, m2, -, -, q3, -, kP, hkP, hkPi⟩ := Cond.selects_spec q5
    have hfc := findClass_of_methodNamed q3
    rw [hzy] at hfc
    exact selects_self_of_private hfc hkP hkPi hpriv (mvT hZ w6) hy
  obtain ⟨cq, q1, q2⟩ := E.cell
  obtain ⟨v, vm1, ⟨T1, L1, k1, m1⟩, -, X1, ⟨Lc, hQ, l1, y1, z1⟩, st⟩ := X.privateBack hx (y := y) hown (mvT hZ w1) (mvT hZ w6) hsel hpriv (mvT hZ w4) hy B hg hsize (Steps.refl _) (a := a) (by rw [e1]; exact q1) q2 (lenOf hpd hlen) hstack hW hd (fun _ _ => ⟨has, e1, hc, hs⟩)
  dsimp only [Pt.U, Pt.locs, Pt.cells, Pt.slots] at X1 l1 y1 z1 st hQ
  subst l1 y1 z1
  exact WGo.st (fun _ q => st.trans q) (r _ _ v ⟨_, X1, rfl, Fr.app N1 hQ.2, n1, hx, hZ, hlk⟩ hQ.1)
/-- objects -/
theorem w_objinit (S : WSt p l e R s m args below meth c Z n0 T h k n) {own : String} {idx : Nat} (hown : s.vm.findClass own = some m.cls) (w1 : (Jvm.Cond.methodLink own idx Lib.objectInit).before a0 Z = true) (w2 : (Jvm.Cond.instanceMethod Lib.objectInit).before a0 Z = true) (w3 : (Jvm.Cond.code Lib.objectInit ⟨#[0xb1]⟩ 1 none).before a0 Z = true)
    {g : JFrame} (hg : g.method = m) (hsize : g.locals.size = c.maxLocals) {rest : List Value} (hs : g.stack = .ref a :: rest) (hd : decode c.code g.pc = .ok (.invokespecial idx, 3)) (hf : 1 ≤ R.frames) {W : Nat} (hW : 2 * g.monitorRoom + (rest.map fun v => v.category).sum ≤ W) (hl : W + 12 ≤ R.locals)
    (r : ∀ T', WSt p l e R s m args below meth c Z n0 T' h k n → WGo p e below s n0 Q K N T' { g with pc := g.pc + 3, stack := rest }) : WGo p e below s n0 Q K N T g := by
  obtain ⟨locs, X, e1, N1, n1, hx, hZ, hlk⟩ := S
  obtain ⟨T', X', e', st⟩ := initO X hx hZ hown w1 w2 w3 e1 hg hsize hs hd hf hW hl
  exact WGo.st st (r T' ⟨locs, X', e', N1, n1, hx, hZ, hlk⟩)
theorem w_new (S : WSt p l e R s m args below meth c Z n0 T h k n) {own C : String} {index nn : Nat} (hown : s.vm.findClass own = some m.cls) (w : (Jvm.Cond.classLink own index C).before a0 Z = true) (wi : (Jvm.Cond.instantiable C nn).before a0 Z = true) (wz : (Jvm.Cond.initialized C).before a0 Z = true)
    {g : JFrame} (hg : g.method = m) (hd : decode c.code g.pc = .ok (.new index, 3)) (hc : k + 1 ≤ R.cells) (hl : n + nn ≤ R.slots)
    (r : ∀ T' h' a', WSt p l e R s m args below meth c Z n0 T' h' (k + 1) (n + nn) → Keep h h' [] → a' = h.size → n0 ≤ a' → Exa Z h' a' C → (∀ {O nm d : String} {ty : FieldType}, Laid Z a0 C O nm d → parseFieldDescriptor d = some ty → Fld Z h' a' O nm d (defaultValue ty)) → WGo p e below s n0 Q K N T' { g with pc := g.pc + 3, stack := .ref a' :: g.stack }) : WGo p e below s n0 Q K N T g := by
  have hge := S.ge
  obtain ⟨locs, X, e1, N1, n1, hx, hZ, hlk⟩ := S
  obtain ⟨T', h', X', e', E', A', D', -, st⟩ := newO X hx hZ hown w wi wz e1 hg hd hc hl
  exact WGo.st st (r T' h' _ ⟨locs, X', e', N1, n1, hx, hZ, hlk⟩ (keep_ext E' _) rfl hge A' D')
theorem w_getfield (S : WSt p l e R s m args below meth c Z n0 T h k n) {own R0 O f d : String} {index : Nat} (hown : s.vm.findClass own = some m.cls) (w : (Jvm.Cond.fieldLink own index R0 f d).before a0 Z = true) (via : Via Z R0 O f d) {v : Value} (F : Fld Z h a O f d v) {g : JFrame} (hg : g.method = m) {rest : List Value} (hs : g.stack = .ref a :: rest) (hd : decode c.code g.pc = .ok (.getfield index, 3))
    (r : ∀ T', WSt p l e R s m args below meth c Z n0 T' h k n → WGo p e below s n0 Q K N T' { g with pc := g.pc + 3, stack := v :: rest }) : WGo p e below s n0 Q K N T g := by
  obtain ⟨locs, X, e1, N1, n1, hx, hZ, hlk⟩ := S
  obtain ⟨T', X', e', st⟩ := getF X hx hZ hown (host := "") (Or.inl w) via e1 F hg hs hd
  exact WGo.st st (r T' ⟨locs, X', e', N1, n1, hx, hZ, hlk⟩)
theorem w_putfield (S : WSt p l e R s m args below meth c Z n0 T h k n) {own R0 O f d C : String} {index kk : Nat} {ty : FieldType} (hown : s.vm.findClass own = some m.cls) (w : (Jvm.Cond.fieldLink own index R0 f d).before a0 Z = true) (via : Via Z R0 O f d) {v old : Value} (F : Fld Z h a O f d old) (E : Exa Z h a C)
    (L : (Jvm.Cond.lays C O f d).before a0 Z = true ∨ ((Jvm.Cond.laysFinal C O f d).before a0 Z = true ∧ own = O ∧ meth.name = "<init>")) (wi : (Jvm.Cond.instantiable C kk).before a0 Z = true) (ga : n0 ≤ a)
    (hty : parseFieldDescriptor d = some ty) (hn : narrow ty v = v) (hf : fits ty v = true) {g : JFrame} (hg : g.method = m) {rest : List Value} (hs : g.stack = v :: .ref a :: rest) (hd : decode c.code g.pc = .ok (.putfield index, 3))
    (r : ∀ T' h', WSt p l e R s m args below meth c Z n0 T' h' k n → Wr h h' a (Jvm.RoadKit.slotOf Z O f d) v → Keep h h' [a] → WGo p e below s n0 Q K N T' { g with pc := g.pc + 3, stack := rest }) : WGo p e below s n0 Q K N T g := by
  obtain ⟨locs, X, e1, N1, n1, hx, hZ, hlk⟩ := S
  obtain ⟨T', h', X', e', W', st⟩ := putF X hx hZ hown (host := "") (Or.inl w) via e1 F E L wi hty hn hf hg hs hd
  exact WGo.st st (r T' h' ⟨_, X', e', Fr.snoc X' N1 ga, n1, hx, hZ, hlk⟩ W' (Keep.of_wr W'))
theorem w_getstatic (S : WSt p l e R s m args below meth c Z n0 T h k n) {own R0 O f d : String} {index : Nat} (hown : s.vm.findClass own = some m.cls) (w : (Jvm.Cond.fieldLink own index R0 f d).before a0 Z = true) (via : Via Z R0 O f d) {v : Value} (F : Sta Z h O f d v) {g : JFrame} (hg : g.method = m) (hd : decode c.code g.pc = .ok (.getstatic index, 3))
    (r : ∀ T', WSt p l e R s m args below meth c Z n0 T' h k n → WGo p e below s n0 Q K N T' { g with pc := g.pc + 3, stack := v :: g.stack }) : WGo p e below s n0 Q K N T g := by
  obtain ⟨locs, X, e1, N1, n1, hx, hZ, hlk⟩ := S
  obtain ⟨T', X', e', st⟩ := getS X hx hZ hown (host := "") w via e1 F hg hd
  exact WGo.st st (r T' ⟨locs, X', e', N1, n1, hx, hZ, hlk⟩)
/-- comparisons of longs -/
theorem cl_lt {x y : Int64} (q : x < y) : lcmpW x y = -1 := Int32.toInt_inj.mp ((c_lcmp x y).1 (Int64.lt_iff_toInt_lt.mp q))
theorem cl_eq {x y : Int64} (q : x = y) : lcmpW x y = 0 := Int32.toInt_inj.mp ((c_lcmp x y).2.1 (by rw [q]))
theorem cl_gt {x y : Int64} (q : y < x) : lcmpW x y = 1 := Int32.toInt_inj.mp ((c_lcmp x y).2.2 (Int64.lt_iff_toInt_lt.mp q))
theorem cl_tri (x y : Int64) : x < y ∨ x = y ∨ y < x := by
  simp only [Int64.lt_iff_toInt_lt]
  rcases Int.lt_trichotomy x.toInt y.toInt with q | q | q
  · exact Or.inl q
  · exact Or.inr (Or.inl (Int64.toInt_inj.mp q))
  · exact Or.inr (Or.inr q)
theorem tltJ {x y : Int64} (q : x < y) : ifCond.holds .lt (lcmpW x y) = true ∧ ifCond.holds .ge (lcmpW x y) = false := by rw [cl_lt q]; decide
theorem fltJ {x y : Int64} (q : ¬ x < y) : ifCond.holds .lt (lcmpW x y) = false ∧ ifCond.holds .ge (lcmpW x y) = true := by
  rcases cl_tri x y with r | r | r
  · exact absurd r q
  · rw [cl_eq r]; decide
  · rw [cl_gt r]; decide
theorem tgtJ {x y : Int64} (q : y < x) : ifCond.holds .gt (lcmpW x y) = true ∧ ifCond.holds .le (lcmpW x y) = false := by rw [cl_gt q]; decide
theorem fgtJ {x y : Int64} (q : ¬ y < x) : ifCond.holds .gt (lcmpW x y) = false ∧ ifCond.holds .le (lcmpW x y) = true := by
  rcases cl_tri x y with r | r | r
  · rw [cl_lt r]; decide
  · rw [cl_eq r]; decide
  · exact absurd r q
theorem teqJ {x y : Int64} (q : x = y) : ifCond.holds .eq (lcmpW x y) = true ∧ ifCond.holds .ne (lcmpW x y) = false := by rw [cl_eq q]; decide
theorem feqJ {x y : Int64} (q : ¬ x = y) : ifCond.holds .eq (lcmpW x y) = false ∧ ifCond.holds .ne (lcmpW x y) = true := by
  rcases cl_tri x y with r | r | r
  · rw [cl_lt r]; decide
  · exact absurd r q
  · rw [cl_gt r]; decide
theorem w_dupX2 {tb : Tables} [Ours tb] {target : State} {g : JFrame} (h : At T m c below) (hx : tb.exec = Jvm.exec) (hg : g.method = m) {x y z : Value} {rest : List Value} (hd : decode c.code g.pc = .ok (.dup_x2, 1)) (hs : g.stack = x :: y :: z :: rest) (hc : x.category = 1) (hc1 : y.category = 1) (hc2 : z.category = 1)
    (hr : Steps tb e below (T.setTop { g with pc := g.pc + 1, stack := x :: y :: z :: x :: rest }) target) : Steps tb e below (T.setTop g) target := by
  subst hg
  jvm_step h [h.top, hx, hd, hs, hc, hc1, hc2]
  exact hr
end Core
theorem hwi {a0 : Array Value} {Z : State} (hw : ∀ d ∈ tables_1, d.before a0 Z = true) (i : Nat) {d : Jvm.Cond} (h : tables_1[i]? = some d) : d.before a0 Z = true := hw d (List.mem_of_getElem? h)
section Arith
theorem rem_rng (x y : Int32) (d : Int) (hy : y.toInt = d) (hd : 0 < d) : 0 ≤ ((x &&& (2147483647 : Int32)) % y).toInt ∧ ((x &&& (2147483647 : Int32)) % y).toInt < d := by
  have h1 := c_mask x 2147483647 31 (by decide) (by decide)
  have h2 := (c_irem (x &&& 2147483647) y d hy).1 (by omega)
  rw [h2]
  exact ⟨Int.emod_nonneg _ (by omega), Int.emod_lt_of_pos _ hd⟩
theorem byte_idem (x : Int32) : x.toInt8.toInt32.toInt8.toInt32 = x.toInt8.toInt32 := by
  have h1 := c_i2b x
  have h2 := c_i2b x.toInt8.toInt32
  apply Int32.toInt_inj.mp
  omega
theorem si_len (L : List Int32) (j v : Int32) : (si L j v).length = L.length := by simp [si]
theorem gi_same (L : List Int32) (j v : Int32) (h0 : 0 ≤ j.toInt) (h1 : j.toInt < L.length) : gi (si L j v) j = v := by
  have q : j.toNatClampNeg < L.length := by simp only [Int32.toNatClampNeg]; omega
  simp [gi, si, q]
theorem gi_other (L : List Int32) (i j v : Int32) (h0 : 0 ≤ i.toInt) (h1 : 0 ≤ j.toInt) (hne : i.toInt ≠ j.toInt) : gi (si L j v) i = gi L i := by
  have q : j.toNatClampNeg ≠ i.toNatClampNeg := by simp only [Int32.toNatClampNeg]; omega
  simp [gi, si, List.getElem?_set, q]
theorem add_c {x k : Int32} {z : Int} (hz : k.toInt = z) (h0 : -2147483648 ≤ x.toInt + z) (h1 : x.toInt + z < 2147483648) : (x + k).toInt = x.toInt + z := by
  have h := c_iadd x k
  have r := rng32 (x + k)
  omega
theorem sub_c {x k : Int32} {z : Int} (hz : k.toInt = z) (h0 : -2147483648 ≤ x.toInt - z) (h1 : x.toInt - z < 2147483648) : (x - k).toInt = x.toInt - z := by
  have h := c_isub x k
  have r := rng32 (x - k)
  omega
theorem two_st (L : List Int32) (p q x y : Int32) (p0 : 0 ≤ p.toInt) (p1 : p.toInt < L.length) (q0 : 0 ≤ q.toInt) (q1 : q.toInt < L.length) (ne : p.toInt ≠ q.toInt) : gi (si (si L p x) q y) p = x ∧ gi (si (si L p x) q y) q = y :=
  ⟨by rw [gi_other _ _ _ _ p0 q0 ne]; exact gi_same L p x p0 p1, gi_same _ q y q0 (by rw [si_len]; exact q1)⟩
end Arith

section Code
/-- an int as a numeral -/
def E (x : Nat) : Int32 := Int32.ofInt ((x : Int) - 64)
theorem E_toInt {x : Nat} (h : x < 1073741824) : (E x).toInt = (x : Int) - 64 := by
  unfold E; rw [Int32.toInt_ofInt]
  have : ((x : Int) - 64).bmod (2 ^ 32) = (x : Int) - 64 := by
    rw [Int.bmod_def]; omega
  exact this
theorem E_lt {x y : Nat} (hx : x < 1073741824) (hy : y < 1073741824) : E x < E y ↔ x < y := by
  rw [Int32.lt_iff_toInt_lt, E_toInt hx, E_toInt hy]; omega
theorem E_eq {x y : Nat} (hx : x < 1073741824) (hy : y < 1073741824) : E x = E y ↔ x = y := by
  rw [← Int32.toInt_inj, E_toInt hx, E_toInt hy]; omega
theorem E_add {x y : Nat} (h : 64 ≤ x + y) : E x + E y = E (x + y - 64) := by
  unfold E; rw [← Int32.ofInt_add]; congr 1; omega
theorem E_sub {x y : Nat} (h : y ≤ x + 64) : E x - E y = E (x + 64 - y) := by
  unfold E; rw [← Int32.ofInt_sub]; congr 1; omega
theorem E_mul {x y : Nat} (h : 64 * (x + y) ≤ x * y + 4160) : E x * E y = E (x * y + 4160 - 64 * (x + y)) := by
  unfold E; rw [← Int32.ofInt_mul]; congr 1
  have : ((x * y : Nat) : Int) = (x : Int) * y := by push_cast; rfl
  rw [Int.sub_mul, Int.mul_sub, Int.mul_sub]
  omega
theorem E_shr {x : Nat} (h : x < 1073741824) : E x >>> ((1 : Int32) &&& 31) = E (x / 2 + 32) := by
  apply Int32.toInt_inj.mp
  rw [c_ishr (E x) 1 1 (by decide), E_toInt h, E_toInt (by omega)]
  omega
theorem xor1_half (a : Int32) : (a ^^^ 1).toInt / 2 = a.toInt / 2 := by
  have e1 := c_ishr (a ^^^ 1) 1 1 (by decide)
  have e2 := c_ishr a 1 1 (by decide)
  have e3 : (a ^^^ 1) >>> ((1 : Int32) &&& 31) = a >>> ((1 : Int32) &&& 31) := by
    apply Int32.toBitVec_inj.mp
    rw [Int32.toBitVec_shiftRight, Int32.toBitVec_shiftRight, Int32.toBitVec_xor]
    have q : (((1 : Int32) &&& 31).toBitVec.smod 32).toNat = 1 := by decide
    show ((a.toBitVec ^^^ (1 : Int32).toBitVec).sshiftRight' _) = a.toBitVec.sshiftRight' _
    unfold BitVec.sshiftRight'
    rw [q, BitVec.sshiftRight_xor_distrib]
    have z : (1 : Int32).toBitVec.sshiftRight 1 = 0#32 := by decide
    rw [z, BitVec.xor_zero]
  rw [e3, e2] at e1
  have k : ((2 ^ 1 : Nat) : Int) = 2 := by decide
  rw [k] at e1
  exact e1.symm
theorem E_xor {x : Nat} (h : x < 1073741824) : E x ^^^ (1 : Int32) = E (Nat.xor x 1) := by
  have hx : Nat.xor x 1 = if x % 2 = 0 then x + 1 else x - 1 := by
    show x ^^^ 1 = _
    have h1 : (x ^^^ 1) / 2 = x / 2 := by rw [Nat.xor_div_two]; simp
    have h2 : (x ^^^ 1) % 2 = (x + 1) % 2 := nx2 x 1
    split <;> omega
  have p := c_xor2 (E x) 1
  have q := xor1_half (E x)
  have o : (1 : Int32).toInt = 1 := by decide
  have hb : Nat.xor x 1 < 1073741824 := by rw [hx]; split <;> omega
  apply Int32.toInt_inj.mp
  rw [E_toInt hb, hx]
  rw [E_toInt h] at p q
  rw [o] at p
  split <;> omega
/-- an int[] as a numeral of 8-bit digits -/
def dg (A i : Nat) : Nat := Nat.land (Nat.shiftRight A (Nat.mul 8 i)) 255
def sd (A i x : Nat) : Nat := Nat.lor (Nat.xor A (Nat.land A (Nat.shiftLeft 255 (Nat.mul 8 i)))) (Nat.shiftLeft x (Nat.mul 8 i))
theorem dg_bit (A i k : Nat) : (dg A i).testBit k = (A.testBit (8 * i + k) && decide (k < 8)) := by
  show ((A >>> (8 * i)) &&& 255).testBit k = _
  rw [Nat.testBit_and, Nat.testBit_shiftRight]
  have : (255 : Nat).testBit k = decide (k < 8) := Nat.testBit_two_pow_sub_one 8 k
  rw [this]
theorem dg_lt (A i : Nat) : dg A i < 256 := Nat.lt_of_le_of_lt Nat.and_le_right (by decide)
theorem dg_sd (A i j x : Nat) (hx : x < 256) : dg (sd A i x) j = if j = i then x else dg A j := by
  apply Nat.eq_of_testBit_eq
  intro k
  rw [dg_bit]
  have hs : (sd A i x).testBit (8 * j + k) = ((A.testBit (8 * j + k) ^^ (A.testBit (8 * j + k) && (decide (8 * i ≤ 8 * j + k) && decide (8 * j + k - 8 * i < 8)))) || (decide (8 * i ≤ 8 * j + k) && x.testBit (8 * j + k - 8 * i))) := by
    show (((A ^^^ (A &&& (255 <<< (8 * i)))) ||| (x <<< (8 * i))) : Nat).testBit _ = _
    rw [Nat.testBit_or, Nat.testBit_xor, Nat.testBit_and, Nat.testBit_shiftLeft, Nat.testBit_shiftLeft]
    have : (255 : Nat).testBit (8 * j + k - 8 * i) = decide (8 * j + k - 8 * i < 8) := Nat.testBit_two_pow_sub_one 8 _
    rw [this]
  rw [hs]
  by_cases hk : k < 8
  · by_cases e : j = i
    · subst e
      rw [if_pos rfl]
      have : 8 * j + k - 8 * j = k := by omega
      simp [this, hk]
    · rw [if_neg e, dg_bit]
      by_cases l : i < j
      · have hxk : x.testBit (8 * j + k - 8 * i) = false := Nat.testBit_lt_two_pow (Nat.lt_of_lt_of_le hx (by
          have : (2 : Nat) ^ 8 ≤ 2 ^ (8 * j + k - 8 * i) := Nat.pow_le_pow_right (by decide) (by omega)
          exact this))
        have : ¬ 8 * j + k - 8 * i < 8 := by omega
        simp [hk, hxk, this]
      · have : ¬ 8 * i ≤ 8 * j + k := by omega
        simp [hk, this]
  · simp only [hk, decide_false, Bool.and_false]
    by_cases e : j = i
    · rw [if_pos e]
      exact (Nat.testBit_lt_two_pow (Nat.lt_of_lt_of_le hx (Nat.pow_le_pow_right (n := 2) (by decide) (by omega : 8 ≤ k)))).symm
    · rw [if_neg e]
      exact (Nat.testBit_lt_two_pow (Nat.lt_of_lt_of_le (dg_lt A j) (Nat.pow_le_pow_right (n := 2) (by decide) (by omega : 8 ≤ k)))).symm
/-- n: the length plus 64 -/
def DL (n A : Nat) : List Int32 := (List.range (n - 64)).map fun i => E (dg A i)
theorem DL_len (n A : Nat) : (DL n A).length = n - 64 := by simp [DL]
theorem E_nat {j : Nat} (h0 : 64 ≤ j) (h1 : j < 1073741824) : (E j).toNatClampNeg = j - 64 := by
  simp only [Int32.toNatClampNeg, E_toInt h1]; omega
theorem DL_get {n A j : Nat} (h0 : 64 ≤ j) (h1 : j < n) (h2 : j < 1073741824) : gi (DL n A) (E j) = E (dg A (j - 64)) := by
  unfold gi; rw [E_nat h0 h2]
  have : j - 64 < n - 64 := by omega
  simp [DL, this]
theorem DL_set {n A j x : Nat} (h0 : 64 ≤ j) (h2 : j < 1073741824) (hx : x < 256) : si (DL n A) (E j) (E x) = DL n (sd A (j - 64) x) := by
  unfold si; rw [E_nat h0 h2]
  apply List.ext_getElem?
  intro k
  rw [List.getElem?_set]
  by_cases hk : k < n - 64
  · by_cases e : j - 64 = k
    · subst e
      simp [DL, hk, dg_sd, hx]
    · have e2 : ¬ k = j - 64 := fun q => e q.symm
      simp [DL, hk, dg_sd, hx, e, e2]
  · by_cases e : j - 64 = k
    · subst e; simp [DL, hk]
    · simp [DL, hk, e]
/-- the checked operations -/
def rdN {R : Type} (A n j : Nat) (K : Nat → Option R) : Option R := Bool.casesOn (motive := fun _ => Option R) (Nat.ble 64 j) none (Bool.casesOn (motive := fun _ => Option R) (Nat.ble (Nat.add j 1) (Nat.land n 1073741823)) none (K (dg A (Nat.sub j 64))))
def wrN {R : Type} (A n j x : Nat) (K : Nat → Option R) : Option R := Bool.casesOn (motive := fun _ => Option R) (Nat.ble 64 j) none (Bool.casesOn (motive := fun _ => Option R) (Nat.ble (Nat.add j 1) (Nat.land n 1073741823)) none (Bool.casesOn (motive := fun _ => Option R) (Nat.ble x 255) none (K (sd A (Nat.sub j 64) x))))
def ltN {R : Type} (x y : Nat) (a b : Option R) : Option R := Bool.casesOn (motive := fun _ => Option R) (Nat.ble (Nat.add x y) 1073741823) none (Bool.casesOn (motive := fun _ => Option R) (Nat.ble (Nat.add x 1) y) b a)
def eqN {R : Type} (x y : Nat) (a b : Option R) : Option R := Bool.casesOn (motive := fun _ => Option R) (Nat.ble (Nat.add x y) 1073741823) none (Bool.casesOn (motive := fun _ => Option R) (Nat.beq x y) b a)
def addN {R : Type} (x y : Nat) (K : Nat → Option R) : Option R := Bool.casesOn (motive := fun _ => Option R) (Nat.ble 64 (Nat.add x y)) none (K (Nat.sub (Nat.add x y) 64))
def subN {R : Type} (x y : Nat) (K : Nat → Option R) : Option R := Bool.casesOn (motive := fun _ => Option R) (Nat.ble y (Nat.add x 64)) none (K (Nat.sub (Nat.add x 64) y))
def mulN {R : Type} (x y : Nat) (K : Nat → Option R) : Option R := bif Nat.ble (Nat.mul 64 (Nat.add x y)) (Nat.add (Nat.mul x y) 4160) then K (Nat.sub (Nat.add (Nat.mul x y) 4160) (Nat.mul 64 (Nat.add x y))) else none
def shrN {R : Type} (x : Nat) (K : Nat → Option R) : Option R := bif Nat.blt x 1073741824 then K (Nat.add (Nat.div x 2) 32) else none
def xorN {R : Type} (x : Nat) (K : Nat → Option R) : Option R := bif Nat.blt x 1073741824 then K (Nat.xor x 1) else none
def capN {R : Type} (x cap : Nat) (K : Option R) : Option R := Bool.casesOn (motive := fun _ => Option R) (Nat.ble 64 x) none (Bool.casesOn (motive := fun _ => Option R) (Nat.ble x (Nat.add cap 64)) none K)
theorem blt_iff {x y : Nat} : Nat.blt x y = true ↔ x < y := by simp [Nat.blt, Nat.lt_iff_add_one_le]
theorem ble_iff {x y : Nat} : Nat.ble x y = true ↔ x ≤ y := iff_of_eq Nat.ble_eq
theorem beq_iff {x y : Nat} : Nat.beq x y = true ↔ x = y := iff_of_eq Nat.beq_eq
theorem bif_none {R : Type} {b : Bool} {a : Option R} {r : R} (h : (bif b then a else none) = some r) : b = true ∧ a = some r := by
  cases b
  · cases h
  · exact ⟨rfl, h⟩
theorem co_none {R : Type} {b : Bool} {a : Option R} {r : R} (h : (Bool.casesOn (motive := fun _ => Option R) b none a) = some r) : b = true ∧ a = some r := by
  cases b
  · cases h
  · exact ⟨rfl, h⟩
theorem co_two {R : Type} {b : Bool} {x y : Option R} {r : R} (h : (Bool.casesOn (motive := fun _ => Option R) b y x) = some r) : (b = true ∧ x = some r) ∨ (b = false ∧ y = some r) := by
  cases b
  · exact Or.inr ⟨rfl, h⟩
  · exact Or.inl ⟨rfl, h⟩
theorem in_rng {n j : Nat} (h : Nat.ble (Nat.add j 1) (Nat.land n 1073741823) = true) : j < n ∧ j < 1073741824 := by
  have h1 : j + 1 ≤ Nat.land n 1073741823 := ble_iff.mp h
  have h2 : Nat.land n 1073741823 ≤ n := Nat.and_le_left
  have h3 : Nat.land n 1073741823 ≤ 1073741823 := Nat.and_le_right
  exact ⟨Nat.lt_of_lt_of_le h1 h2, Nat.lt_of_lt_of_le (Nat.lt_of_lt_of_le h1 h3) (by decide)⟩
theorem rdN_some {R : Type} {A n j : Nat} {K : Nat → Option R} {r : R} (h : rdN A n j K = some r) : 64 ≤ j ∧ j < n ∧ j < 1073741824 ∧ K (dg A (j - 64)) = some r := by
  obtain ⟨h1, h2⟩ := co_none h
  obtain ⟨h3, h4⟩ := co_none h2
  exact ⟨ble_iff.mp h1, (in_rng h3).1, (in_rng h3).2, h4⟩
theorem wrN_some {R : Type} {A n j x : Nat} {K : Nat → Option R} {r : R} (h : wrN A n j x K = some r) : 64 ≤ j ∧ j < n ∧ j < 1073741824 ∧ x < 256 ∧ K (sd A (j - 64) x) = some r := by
  obtain ⟨h1, h2⟩ := co_none h
  obtain ⟨h3, h4⟩ := co_none h2
  obtain ⟨h5, h6⟩ := co_none h4
  exact ⟨ble_iff.mp h1, (in_rng h3).1, (in_rng h3).2, Nat.lt_of_le_of_lt (ble_iff.mp h5) (by decide), h6⟩
theorem sm_rng {x y : Nat} (h : Nat.ble (Nat.add x y) 1073741823 = true) : x < 1073741824 ∧ y < 1073741824 := by
  have h1 : x + y ≤ 1073741823 := ble_iff.mp h
  omega
theorem ltN_some {R : Type} {x y : Nat} {a b : Option R} {r : R} (h : ltN x y a b = some r) : (E x < E y ∧ a = some r) ∨ (¬ E x < E y ∧ b = some r) := by
  obtain ⟨h1, h2⟩ := co_none h
  replace h1 := sm_rng h1
  rcases co_two h2 with ⟨q, r⟩ | ⟨q, r⟩
  · exact Or.inl ⟨(E_lt h1.1 h1.2).mpr (ble_iff.mp q), r⟩
  · refine Or.inr ⟨fun u => ?_, r⟩
    have q2 : Nat.ble (Nat.add x 1) y = true := ble_iff.mpr ((E_lt h1.1 h1.2).mp u)
    rw [q2] at q; cases q
theorem eqN_some {R : Type} {x y : Nat} {a b : Option R} {r : R} (h : eqN x y a b = some r) : (E x = E y ∧ a = some r) ∨ (¬ E x = E y ∧ b = some r) := by
  obtain ⟨h1, h2⟩ := co_none h
  replace h1 := sm_rng h1
  rcases co_two h2 with ⟨q, r⟩ | ⟨q, r⟩
  · exact Or.inl ⟨(E_eq h1.1 h1.2).mpr (beq_iff.mp q), r⟩
  · refine Or.inr ⟨fun u => ?_, r⟩
    rw [beq_iff.mpr ((E_eq h1.1 h1.2).mp u)] at q; cases q
theorem addN_some {R : Type} {x y : Nat} {K : Nat → Option R} {r : R} (h : addN x y K = some r) : ∃ z, E x + E y = E z ∧ K z = some r := by
  obtain ⟨h1, h2⟩ := co_none h
  exact ⟨_, E_add (ble_iff.mp h1), h2⟩
theorem subN_some {R : Type} {x y : Nat} {K : Nat → Option R} {r : R} (h : subN x y K = some r) : ∃ z, E x - E y = E z ∧ K z = some r := by
  obtain ⟨h1, h2⟩ := co_none h
  exact ⟨_, E_sub (ble_iff.mp h1), h2⟩
theorem mulN_some {R : Type} {x y : Nat} {K : Nat → Option R} {r : R} (h : mulN x y K = some r) : ∃ z, E x * E y = E z ∧ K z = some r := by
  obtain ⟨h1, h2⟩ := bif_none h
  exact ⟨_, E_mul (ble_iff.mp h1), h2⟩
theorem shrN_some {R : Type} {x : Nat} {K : Nat → Option R} {r : R} (h : shrN x K = some r) : ∃ z, E x >>> ((1 : Int32) &&& 31) = E z ∧ K z = some r := by
  obtain ⟨h1, h2⟩ := bif_none h
  exact ⟨_, E_shr (blt_iff.mp h1), h2⟩
theorem xorN_some {R : Type} {x : Nat} {K : Nat → Option R} {r : R} (h : xorN x K = some r) : ∃ z, E x ^^^ (1 : Int32) = E z ∧ K z = some r := by
  obtain ⟨h1, h2⟩ := bif_none h
  exact ⟨_, E_xor (blt_iff.mp h1), h2⟩
theorem capN_some {R : Type} {x cap : Nat} {K : Option R} {r : R} (h : capN x cap K = some r) : 64 ≤ x ∧ x ≤ cap + 64 ∧ K = some r := by
  obtain ⟨h1, h2⟩ := co_none h
  obtain ⟨h3, h4⟩ := co_none h2
  exact ⟨ble_iff.mp h1, ble_iff.mp h3, h4⟩
def it2 {σ : Type} (F : σ → σ) (z : σ) : σ := F (F z)
def it8 {σ : Type} (F : σ → σ) (z : σ) : σ := it2 F (it2 F (it2 F (it2 F z)))
def it32 {σ : Type} (F : σ → σ) (z : σ) : σ := it8 F (it8 F (it8 F (it8 F z)))
theorem it8_ind {σ : Type} {P : σ → Prop} {F : σ → σ} {z : σ} (h0 : P z) (hs : ∀ g, P g → P (F g)) : P (it8 F z) :=
  hs _ (hs _ (hs _ (hs _ (hs _ (hs _ (hs _ (hs _ h0)))))))
theorem it32_ind {σ : Type} {P : σ → Prop} {F : σ → σ} {z : σ} (h0 : P z) (hs : ∀ g, P g → P (F g)) : P (it32 F z) :=
  it8_ind (it8_ind (it8_ind (it8_ind h0 hs) hs) hs) hs
end Code

section Desc
variable {p : Program} {l : Launch} {e : Env} {R : Room} {s : State} {m : MethodId} {args : Array Value} {below : List Frame} {meth : Method} {c : Code} {Z : State} {n0 : Nat} {T : State} {h h' h0 : Heap} {k n : Nat} {Q : Option Value → Heap → Prop} {K N : Nat} {a0 : Array Value} {a b : Addr} {W : List Addr}
abbrev Ent : Type := Addr × ((FieldType × List Int32) ⊕ (String × List (String × String × Value)))
abbrev ia (a : Addr) (n A : Nat) : Ent := (a, .inl (.int, DL n A))
abbrev ob (a : Addr) (C : String) (F : List (String × String × Value)) : Ent := (a, .inr (C, F))
abbrev FL (F : List (String × String × Value)) (i : Nat) (f d : String) (v : Value) : Prop := F[i]? = some (f, d, v)
abbrev cA : String := "com/example/ookayama/ookayama/EdgeAddition"
abbrev cE : String := "com/example/ookayama/ookayama/EdgeEnds"
def Hold (Z : State) (a0 : Array Value) (h : Heap) (q : Ent) : Prop := match q.2 with
  | .inl x => AI Z h q.1 x.1 x.2
  | .inr x => Exa Z h q.1 x.1 ∧ (x.2.map (·.1)).Nodup ∧ ∀ f ∈ x.2, Fld Z h q.1 x.1 f.1 f.2.1 f.2.2 ∧ Laid Z a0 x.1 x.1 f.1 f.2.1 ∧ ∃ t, parseFieldDescriptor f.2.1 = some t
def HS (Z : State) (a0 : Array Value) (n0 : Nat) (h0 : Heap) (W : List Addr) (h : Heap) (D : List Ent) : Prop :=
  Keep h0 h W ∧ (D.map (·.1)).Nodup ∧ ∀ q ∈ D, Hold Z a0 h q ∧ n0 ≤ q.1 ∧ (q.1 ∈ W ∨ h0.size ≤ q.1)
variable {D : List Ent} {q : Ent}
theorem Hold.keep {ws : List Addr} (H : Hold Z a0 h q) (K : Keep h h' ws) (u : q.1 ∉ ws) : Hold Z a0 h' q := by
  obtain ⟨x, y | y⟩ := q
  · exact AI.keep H K u
  · exact ⟨Exa.keep H.1 K, H.2.1, fun f hf => ⟨Fld.keep (H.2.2 f hf).1 K u, (H.2.2 f hf).2⟩⟩
theorem Hold.lt (H : Hold Z a0 h q) : q.1 < h.size := by
  obtain ⟨x, y | y⟩ := q
  · exact AI.lt H
  · exact Exa.lt H.1
theorem idx_inj {D : List Ent} (hn : (D.map (·.1)).Nodup) {i j : Nat} {x y : Ent} (hi : D[i]? = some x) (hj : D[j]? = some y) (e : x.1 = y.1) : i = j := by
  have hl : i < D.length := (List.getElem?_eq_some_iff.mp hi).1
  refine (List.getElem?_inj (by simpa using hl) hn).mp ?_
  rw [List.getElem?_map, List.getElem?_map, hi, hj]; simp [e]
theorem HS.at (d : HS Z a0 n0 h0 W h D) {i : Nat} (hi : D[i]? = some q) : Hold Z a0 h q ∧ n0 ≤ q.1 ∧ (q.1 ∈ W ∨ h0.size ≤ q.1) := d.2.2 q (List.mem_of_getElem? hi)
theorem HS.new (d : HS Z a0 n0 h0 W h D) (K : Keep h h' []) {a' : Addr} (e : a' = h.size) (ge : n0 ≤ a') {cc : (FieldType × List Int32) ⊕ (String × List (String × String × Value))} (H : Hold Z a0 h' (a', cc)) : HS Z a0 n0 h0 W h' (D ++ [(a', cc)]) := by
  refine ⟨d.1.trans K all0, ?_, ?_⟩
  · rw [List.map_append, List.nodup_append]
    refine ⟨d.2.1, by simp, ?_⟩
    intro x hx y hy
    simp only [List.map_cons, List.map_nil, List.mem_singleton] at hy
    obtain ⟨u, hu, rfl⟩ := List.mem_map.mp hx
    subst hy
    rw [e]
    exact Nat.ne_of_lt (d.2.2 u hu).1.lt
  · intro x hx
    rcases List.mem_append.mp hx with hx | hx
    · have := d.2.2 x hx
      exact ⟨this.1.keep K nin0, this.2⟩
    · obtain rfl := List.mem_singleton.mp hx
      exact ⟨H, ge, Or.inr (by rw [show ((a', cc) : Ent).1 = a' from rfl, e]; exact d.1.1)⟩
theorem HS.set (d : HS Z a0 n0 h0 W h D) {i : Nat} {cc cc' : (FieldType × List Int32) ⊕ (String × List (String × String × Value))} (hi : D[i]? = some (a, cc)) (K : Keep h h' [a]) (H : Hold Z a0 h' (a, cc')) : HS Z a0 n0 h0 W h' (D.set i (a, cc')) := by
  have hl : i < D.length := (List.getElem?_eq_some_iff.mp hi).1
  have em : (D.set i (a, cc')).map (·.1) = D.map (·.1) := by
    apply List.ext_getElem?
    intro j
    rw [List.getElem?_map, List.getElem?_map, List.getElem?_set]
    by_cases e : i = j
    · subst e; rw [if_pos rfl, if_pos hl, hi]; rfl
    · simp [e]
  refine ⟨d.1.trans K (allS (d.at hi).2.2 all0), by rw [em]; exact d.2.1, ?_⟩
  intro x hx
  obtain ⟨j, hj⟩ := List.getElem?_of_mem hx
  rw [List.getElem?_set] at hj
  by_cases e : i = j
  · subst e
    simp only [hl, if_true, if_pos] at hj
    obtain rfl := Option.some.inj hj
    exact ⟨H, (d.at hi).2⟩
  · rw [if_neg e] at hj
    have u : x.1 ≠ a := fun q => e (idx_inj d.2.1 hi hj q.symm)
    have := d.at hj
    exact ⟨this.1.keep K (ninS u nin0), this.2⟩
theorem HS.pick (d : HS Z a0 n0 h0 W h D) : ∀ (is : List Nat) (D1 : List Ent), is.Nodup → is.map (fun i => D[i]?) = D1.map some → HS Z a0 n0 h (D1.map (·.1)) h D1 := by
  have key : ∀ (is : List Nat) (D1 : List Ent), is.Nodup → is.map (fun i => D[i]?) = D1.map some → (D1.map (·.1)).Nodup ∧ ∀ x ∈ D1, ∃ i ∈ is, D[i]? = some x := by
    intro is
    induction is with
    | nil => intro D1 _ hp; cases D1 with
      | nil => exact ⟨by simp, fun x hx => nomatch hx⟩
      | cons y t => simp at hp
    | cons i is ih => intro D1 hn hp; cases D1 with
      | nil => simp at hp
      | cons y t =>
        simp only [List.map_cons, List.cons.injEq] at hp
        obtain ⟨h1, h2⟩ := ih t (List.nodup_cons.mp hn).2 hp.2
        refine ⟨?_, ?_⟩
        · rw [List.map_cons, List.nodup_cons]
          refine ⟨fun hm => ?_, h1⟩
          obtain ⟨u, hu, eu⟩ := List.mem_map.mp hm
          obtain ⟨j, hj, ej⟩ := h2 u hu
          have := idx_inj d.2.1 hp.1 ej eu.symm
          subst this
          exact (List.nodup_cons.mp hn).1 hj
        · intro x hx
          rcases List.mem_cons.mp hx with rfl | hx
          · exact ⟨i, List.mem_cons_self .., hp.1⟩
          · obtain ⟨j, hj, ej⟩ := h2 x hx
            exact ⟨j, List.mem_cons_of_mem _ hj, ej⟩
  intro is D1 hn hp
  obtain ⟨h1, h2⟩ := key is D1 hn hp
  refine ⟨Keep.refl _ _, h1, fun x hx => ?_⟩
  obtain ⟨i, -, ei⟩ := h2 x hx
  exact ⟨(d.at ei).1, (d.at ei).2.1, Or.inl (List.mem_map_of_mem hx)⟩
def upd : List Ent → List Nat → List Ent → List Ent
  | D, i :: is, y :: t => upd (D.set i y) is t
  | D, _, _ => D
theorem upd_out : ∀ (is : List Nat) (D t : List Ent) (j : Nat), j ∉ is → (upd D is t)[j]? = D[j]? := by
  intro is
  induction is with
  | nil => intro D t j _; cases t <;> rfl
  | cons i is ih => intro D t j hj; cases t with
    | nil => rfl
    | cons y t =>
      show (upd (D.set i y) is t)[j]? = _
      rw [ih _ _ _ (fun q => hj (List.mem_cons_of_mem _ q)), List.getElem?_set, if_neg (fun q => hj (by rw [q]; exact List.mem_cons_self ..))]
theorem upd_map : ∀ (is : List Nat) (D D1 t : List Ent), is.map (fun i => (D.map (·.1))[i]?) = D1.map (fun x => some x.1) → t.map (·.1) = D1.map (·.1) → (upd D is t).map (·.1) = D.map (·.1) := by
  intro is
  induction is with
  | nil => intro D D1 t _ _; cases t <;> rfl
  | cons i is ih => intro D D1 t hp he; cases t with
    | nil => rfl
    | cons y t => cases D1 with
      | nil => simp at he
      | cons z D1 =>
        simp only [List.map_cons, List.cons.injEq] at hp he
        have hl : i < D.length := by
          have := (List.getElem?_eq_some_iff.mp hp.1).1
          simpa using this
        have em : (D.set i y).map (·.1) = D.map (·.1) := by
          apply List.ext_getElem?
          intro j
          rw [List.getElem?_map, List.getElem?_set]
          by_cases e : i = j
          · subst e; rw [if_pos rfl, if_pos hl, hp.1]; show some y.1 = some z.1; rw [he.1]
          · rw [if_neg e, List.getElem?_map]
        show (upd (D.set i y) is t).map (·.1) = _
        rw [ih (D.set i y) D1 t (by rw [em]; exact hp.2) he.2, em]
theorem upd_in : ∀ (is : List Nat) (D D1 t : List Ent), is.Nodup → is.length = t.length → (∀ i ∈ is, i < D.length) → ∀ j ∈ is, ∃ x ∈ t, (upd D is t)[j]? = some x := by
  intro is
  induction is with
  | nil => intro D D1 t _ _ _ j hj; exact nomatch hj
  | cons i is ih => intro D D1 t hn hlen hb j hj; cases t with
    | nil => simp at hlen
    | cons y t =>
      show ∃ x ∈ y :: t, (upd (D.set i y) is t)[j]? = some x
      rcases List.mem_cons.mp hj with rfl | hj
      · refine ⟨y, List.mem_cons_self .., ?_⟩
        rw [upd_out _ _ _ _ (List.nodup_cons.mp hn).1, List.getElem?_set, if_pos rfl, if_pos (hb _ (List.mem_cons_self ..))]
      · obtain ⟨x, hx, ex⟩ := ih (D.set i y) D1 t (List.nodup_cons.mp hn).2 (by simpa using hlen) (fun u hu => by rw [List.length_set]; exact hb u (List.mem_cons_of_mem _ hu)) j hj
        exact ⟨x, List.mem_cons_of_mem _ hx, ex⟩
theorem HS.call (d : HS Z a0 n0 h0 W h D) (is : List Nat) (D1 t M : List Ent) (hn : is.Nodup) (hp : is.map (fun i => D[i]?) = D1.map some) (he : t.map (·.1) = D1.map (·.1)) (d' : HS Z a0 n0 h (D1.map (·.1)) h' (t ++ M)) : HS Z a0 n0 h0 W h' (upd D is t ++ M) := by
  have hpick : ∀ x ∈ D1, ∃ i ∈ is, D[i]? = some x := by
    intro x hx
    have : some x ∈ is.map (fun i => D[i]?) := by rw [hp]; exact List.mem_map_of_mem hx
    obtain ⟨i, hi, ei⟩ := List.mem_map.mp this
    exact ⟨i, hi, ei⟩
  have hback : ∀ i ∈ is, ∃ x ∈ D1, D[i]? = some x := by
    intro i hi
    have : D[i]? ∈ D1.map some := by rw [← hp]; exact List.mem_map.mpr ⟨i, hi, rfl⟩
    obtain ⟨x, hx, ex⟩ := List.mem_map.mp this
    exact ⟨x, hx, ex.symm⟩
  have hlen : is.length = t.length := by
    have h1 := congrArg List.length hp
    have h2 := congrArg List.length he
    simp at h1 h2
    omega
  have hmap : (upd D is t).map (·.1) = D.map (·.1) := by
    refine upd_map is D D1 t ?_ he
    have := congrArg (List.map (fun o : Option Ent => o.map (·.1))) hp
    simpa [List.map_map, Function.comp_def, List.getElem?_map] using this
  refine ⟨d.1.trans d'.1 ?_, ?_, ?_⟩
  · intro x hx
    obtain ⟨u, hu, rfl⟩ := List.mem_map.mp hx
    obtain ⟨i, -, ei⟩ := hpick u hu
    exact (d.at ei).2.2
  · rw [List.map_append, List.nodup_append, hmap]
    have nd := d'.2.1
    rw [List.map_append, List.nodup_append] at nd
    refine ⟨d.2.1, nd.2.1, ?_⟩
    intro x hx y hy
    obtain ⟨u, hu, rfl⟩ := List.mem_map.mp hx
    obtain ⟨v, hv, rfl⟩ := List.mem_map.mp hy
    have hv2 := (d'.2.2 v (List.mem_append_right _ hv)).2.2
    have hnot : v.1 ∉ D1.map (·.1) := fun q => nd.2.2 _ (by rw [he]; exact q) _ (List.mem_map_of_mem hv) rfl
    have : h.size ≤ v.1 := hv2.resolve_left hnot
    exact Nat.ne_of_lt (Nat.lt_of_lt_of_le (d.2.2 u hu).1.lt this)
  · intro x hx
    rcases List.mem_append.mp hx with hx | hx
    · obtain ⟨j, hj⟩ := List.getElem?_of_mem hx
      by_cases hji : j ∈ is
      · obtain ⟨y, hy, ey⟩ := upd_in is D D1 t hn hlen (fun i hi => by obtain ⟨x, -, ex⟩ := hback i hi; exact (List.getElem?_eq_some_iff.mp ex).1) j hji
        obtain rfl := Option.some.inj (hj.symm.trans ey)
        have h1 := d'.2.2 x (List.mem_append_left _ hy)
        refine ⟨h1.1, h1.2.1, ?_⟩
        rcases h1.2.2 with q | q
        · obtain ⟨u, hu, eu⟩ := List.mem_map.mp q
          obtain ⟨i, -, ei⟩ := hpick u hu
          rw [← eu]; exact (d.at ei).2.2
        · exact Or.inr (Nat.le_trans d.1.1 q)
      · rw [upd_out _ _ _ _ hji] at hj
        have h1 := d.at hj
        refine ⟨h1.1.keep d'.1 (fun q => ?_), h1.2⟩
        obtain ⟨u, hu, eu⟩ := List.mem_map.mp q
        obtain ⟨i, hi, ei⟩ := hpick u hu
        have := idx_inj d.2.1 ei hj eu
        subst this; exact hji hi
    · have h1 := d'.2.2 x (List.mem_append_right _ hx)
      refine ⟨h1.1, h1.2.1, ?_⟩
      rcases h1.2.2 with q | q
      · obtain ⟨u, hu, eu⟩ := List.mem_map.mp q
        obtain ⟨i, -, ei⟩ := hpick u hu
        rw [← eu]; exact (d.at ei).2.2
      · exact Or.inr (Nat.le_trans d.1.1 q)
theorem HS.arr (d : HS Z a0 n0 h0 W h D) {i : Nat} {ty : FieldType} {L : List Int32} (hi : D[i]? = some (a, .inl (ty, L))) : AI Z h a ty L := (d.at hi).1
theorem HS.obj (d : HS Z a0 n0 h0 W h D) {i : Nat} {C : String} {F : List (String × String × Value)} (hi : D[i]? = some (a, .inr (C, F))) : Exa Z h a C := (d.at hi).1.1
theorem HS.fld (d : HS Z a0 n0 h0 W h D) {i : Nat} {C : String} {F : List (String × String × Value)} (hi : D[i]? = some (a, .inr (C, F))) {fi : Nat} {f dd : String} {v : Value} (hf : F[fi]? = some (f, dd, v)) : Fld Z h a C f dd v := ((d.at hi).1.2.2 _ (List.mem_of_getElem? hf)).1
def AZ : Nat := 0x404040404040404040404040404040404040404040404040
theorem AZ_dg : ∀ i, i < 24 → dg AZ i = 64 := by decide
theorem DL_zero {x : Nat} (h : x ≤ 88) : List.replicate (x - 64) (0 : Int32) = DL x AZ := by
  apply List.ext_getElem?
  intro i
  rw [List.getElem?_replicate]
  by_cases hi : i < x - 64
  · rw [if_pos hi]
    have := AZ_dg i (by omega)
    simp only [DL, List.getElem?_map, List.getElem?_range, hi, Option.map_some, this]
    rfl
  · rw [if_neg hi]; simp [DL, hi]
theorem len_E {x : Nat} (h0 : 64 ≤ x) (h1 : x < 1073741824) (A : Nat) : (DL x A).length.toInt32 = E x := by
  rw [DL_len]
  apply Int32.toInt_inj.mp
  rw [len_toInt (by omega), E_toInt h1]; omega
section Steps
variable {Rt : Type} {r : Rt}
theorem w_ald (S : WSt p l e R s m args below meth c Z n0 T h k n) (d : HS Z a0 n0 h0 W h D) {i ln A : Nat} (hi : D[i]? = some (a, .inl (.int, DL ln A))) {g : JFrame} (hg : g.method = m) (hd : decode c.code g.pc = .ok (.iaload, 1)) {j : Nat} {rest : List Value} (hs : g.stack = .int (E j) :: .ref a :: rest) {Kf : Nat → Option Rt} (hf : rdN A ln j Kf = some r)
    (nx : ∀ x, Kf x = some r → WGo p e below s n0 Q K N T { g with pc := g.pc + 1, stack := .int (E x) :: rest }) : WGo p e below s n0 Q K N T g := by
  obtain ⟨b1, b2, b3, b4⟩ := rdN_some hf
  exact w_iaload S (d.arr hi) hg hd hs (by rw [E_toInt b3]; omega) (by rw [E_toInt b3, DL_len]; omega) (DL_get b1 b2 b3) (nx _ b4)
theorem w_ast (S : WSt p l e R s m args below meth c Z n0 T h k n) (d : HS Z a0 n0 h0 W h D) {i ln A : Nat} (hi : D[i]? = some (a, .inl (.int, DL ln A))) {g : JFrame} (hg : g.method = m) (hd : decode c.code g.pc = .ok (.iastore, 1)) {j x : Nat} {rest : List Value} (hs : g.stack = .int (E x) :: .int (E j) :: .ref a :: rest) {Kf : Nat → Option Rt} (hf : wrN A ln j x Kf = some r)
    (nx : ∀ T' h' A', WSt p l e R s m args below meth c Z n0 T' h' k n → HS Z a0 n0 h0 W h' (D.set i (a, .inl (.int, DL ln A'))) → Kf A' = some r → WGo p e below s n0 Q K N T' { g with pc := g.pc + 1, stack := rest }) : WGo p e below s n0 Q K N T g := by
  obtain ⟨b1, b2, b3, b4, b5⟩ := wrN_some hf
  refine w_iastore S (d.arr hi) (d.at hi).2.1 hg hd hs (by rw [E_toInt b3]; omega) (by rw [E_toInt b3, DL_len]; omega) (DL_set b1 b3 b4) ?_
  intro T' h' S' K' A'
  exact nx T' h' _ S' (d.set hi K' A') b5
theorem w_aln (S : WSt p l e R s m args below meth c Z n0 T h k n) (d : HS Z a0 n0 h0 W h D) {i ln A : Nat} (hi : D[i]? = some (a, .inl (.int, DL ln A))) {g : JFrame} (hg : g.method = m) (hd : decode c.code g.pc = .ok (.arraylength, 1)) {rest : List Value} (hs : g.stack = .ref a :: rest) {Kf : Option Rt} (hf : capN ln 1000 Kf = some r)
    (nx : Kf = some r → WGo p e below s n0 Q K N T { g with pc := g.pc + 1, stack := .int (E ln) :: rest }) : WGo p e below s n0 Q K N T g := by
  obtain ⟨b1, b2, b3⟩ := capN_some hf
  exact w_arraylength S (d.arr hi) hg hd hs (len_E b1 (by omega) A) (nx b3)
theorem w_anw (S : WSt p l e R s m args below meth c Z n0 T h k n) (d : HS Z a0 n0 h0 W h D) {aty : ArrayType} (w : (Jvm.Cond.arrayClass (newarray.typeOf aty)).before a0 Z = true) (hty : defaultValue (newarray.typeOf aty) = .int 0) {g : JFrame} (hg : g.method = m) (hd : decode c.code g.pc = .ok (.newarray aty, 2)) {x : Nat} {rest : List Value} (hs : g.stack = .int (E x) :: rest) {cap : Nat} {Kf : Option Rt} (hf : capN x cap Kf = some r) (hcap : cap ≤ 24) (hc : k + 1 ≤ R.cells) (hl : n + cap ≤ R.slots)
    (nx : ∀ T' h' a', WSt p l e R s m args below meth c Z n0 T' h' (k + 1) (n + cap) → HS Z a0 n0 h0 W h' (D ++ [(a', .inl (newarray.typeOf aty, DL x AZ))]) → Kf = some r → WGo p e below s n0 Q K N T' { g with pc := g.pc + 2, stack := .ref a' :: rest }) : WGo p e below s n0 Q K N T g := by
  obtain ⟨b1, b2, b3⟩ := capN_some hf
  have en : (E x).toNatClampNeg = x - 64 := E_nat b1 (by omega)
  refine w_newarray S w hty hg hd hs (by rw [Int32.lt_iff_toInt_lt, E_toInt (by omega), show (0 : Int32).toInt = 0 from by decide]; omega) (cap := cap) (by rw [en]; omega) (by omega) hc hl (L := DL x AZ) (by rw [en]; exact DL_zero (by omega)) ?_
  intro T' h' a' S' K' e' g' A'
  exact nx T' h' a' S' (d.new K' e' g' A') b3
theorem w_agf (S : WSt p l e R s m args below meth c Z n0 T h k n) (d : HS Z a0 n0 h0 W h D) {own C f dd : String} {index i fi : Nat} {F : List (String × String × Value)} {v : Value} (hown : s.vm.findClass own = some m.cls) (w : (Jvm.Cond.fieldLink own index C f dd).before a0 Z = true) (hi : D[i]? = some (a, .inr (C, F))) (hf : F[fi]? = some (f, dd, v)) {g : JFrame} (hg : g.method = m) {rest : List Value} (hs : g.stack = .ref a :: rest) (hd : decode c.code g.pc = .ok (.getfield index, 3))
    (nx : ∀ T', WSt p l e R s m args below meth c Z n0 T' h k n → WGo p e below s n0 Q K N T' { g with pc := g.pc + 3, stack := v :: rest }) : WGo p e below s n0 Q K N T g :=
  w_getfield S hown w Via.refl (d.fld hi hf) hg hs hd nx
theorem w_apf (S : WSt p l e R s m args below meth c Z n0 T h k n) (d : HS Z a0 n0 h0 W h D) {own C f dd : String} {index i fi kk : Nat} {F : List (String × String × Value)} {v old : Value} {ty : FieldType} (hown : s.vm.findClass own = some m.cls) (w : (Jvm.Cond.fieldLink own index C f dd).before a0 Z = true) (hi : D[i]? = some (a, .inr (C, F))) (hf : F[fi]? = some (f, dd, old))
    (L : (Jvm.Cond.lays C C f dd).before a0 Z = true ∨ ((Jvm.Cond.laysFinal C C f dd).before a0 Z = true ∧ own = C ∧ meth.name = "<init>")) (wi : (Jvm.Cond.instantiable C kk).before a0 Z = true) (hty : parseFieldDescriptor dd = some ty) (hn : narrow ty v = v) (hfit : fits ty v = true) {g : JFrame} (hg : g.method = m) {rest : List Value} (hs : g.stack = v :: .ref a :: rest) (hd : decode c.code g.pc = .ok (.putfield index, 3))
    (nx : ∀ T' h', WSt p l e R s m args below meth c Z n0 T' h' k n → HS Z a0 n0 h0 W h' (D.set i (a, .inr (C, F.set fi (f, dd, v)))) → WGo p e below s n0 Q K N T' { g with pc := g.pc + 3, stack := rest }) : WGo p e below s n0 Q K N T g := by
  refine w_putfield S hown w Via.refl (d.fld hi hf) (d.obj hi) L wi (d.at hi).2.1 hty hn hfit hg hs hd ?_
  intro T' h' S' W' K'
  refine nx T' h' S' (d.set hi K' ?_)
  have H := (d.at hi).1
  have hl : fi < F.length := (List.getElem?_eq_some_iff.mp hf).1
  have em : (F.set fi (f, dd, v)).map (·.1) = F.map (·.1) := by
    apply List.ext_getElem?
    intro j
    rw [List.getElem?_map, List.getElem?_map, List.getElem?_set]
    by_cases e : fi = j
    · subst e; rw [if_pos rfl, if_pos hl, hf]; rfl
    · simp [e]
  refine ⟨Exa.keep H.1 K', by show ((F.set fi (f, dd, v)).map (·.1)).Nodup; rw [em]; exact H.2.1, ?_⟩
  intro x hx
  obtain ⟨j, hj⟩ := List.getElem?_of_mem hx
  replace hj : (F.set fi (f, dd, v))[j]? = some x := hj
  rw [List.getElem?_set] at hj
  have H0 := H.2.2 _ (List.mem_of_getElem? hf)
  by_cases e : fi = j
  · subst e
    rw [if_pos rfl, if_pos hl] at hj
    obtain rfl := Option.some.inj hj
    exact ⟨Fld.same W' H0.1, H0.2⟩
  · rw [if_neg e] at hj
    have Hx := H.2.2 _ (List.mem_of_getElem? hj)
    obtain ⟨tx, htx⟩ := Hx.2.2
    obtain ⟨t0, ht0⟩ := H0.2.2
    have hne : x.1 ≠ f := fun q => e (by
      have hn := H.2.1
      refine (List.getElem?_inj (l := F.map (·.1)) (by simpa using hl) hn).mp ?_
      rw [List.getElem?_map, List.getElem?_map, hf, hj]; simp [q])
    exact ⟨Fld.other W' Hx.1 (Or.inr (slot_ne Hx.2.1 H0.2.1 hne htx ht0)), Hx.2⟩
theorem w_ano (S : WSt p l e R s m args below meth c Z n0 T h k n) (d : HS Z a0 n0 h0 W h D) {own C : String} {index nn : Nat} (hown : s.vm.findClass own = some m.cls) (w : (Jvm.Cond.classLink own index C).before a0 Z = true) (wi : (Jvm.Cond.instantiable C nn).before a0 Z = true) (wz : (Jvm.Cond.initialized C).before a0 Z = true)
    {F : List (String × String × Value)} (hF : (F.map (·.1)).Nodup) (hL : ∀ f ∈ F, Laid Z a0 C C f.1 f.2.1 ∧ ∃ t, parseFieldDescriptor f.2.1 = some t ∧ defaultValue t = f.2.2)
    {g : JFrame} (hg : g.method = m) (hd : decode c.code g.pc = .ok (.new index, 3)) (hc : k + 1 ≤ R.cells) (hl : n + nn ≤ R.slots)
    (nx : ∀ T' h' a', WSt p l e R s m args below meth c Z n0 T' h' (k + 1) (n + nn) → HS Z a0 n0 h0 W h' (D ++ [(a', .inr (C, F))]) → WGo p e below s n0 Q K N T' { g with pc := g.pc + 3, stack := .ref a' :: g.stack }) : WGo p e below s n0 Q K N T g := by
  refine w_new S hown w wi wz hg hd hc hl ?_
  intro T' h' a' S' K' e' g' E' D'
  refine nx T' h' a' S' (d.new K' e' g' ⟨E', hF, fun f hf => ?_⟩)
  obtain ⟨h1, t, h2, h3⟩ := hL f hf
  have q := D' h1 h2
  rw [h3] at q
  exact ⟨q, h1, t, h2⟩
/-- reckoning -/
theorem w_addN (S : WSt p l e R s m args below meth c Z n0 T h k n) {g : JFrame} (hg : g.method = m) (hd : decode c.code g.pc = .ok (.iadd, 1)) {x y : Nat} {rest : List Value} (hs : g.stack = .int (E y) :: .int (E x) :: rest) {Kf : Nat → Option Rt} (hf : addN x y Kf = some r)
    (nx : ∀ z, Kf z = some r → WGo p e below s n0 Q K N T { g with pc := g.pc + 1, stack := .int (E z) :: rest }) : WGo p e below s n0 Q K N T g := by
  obtain ⟨z, e1, h1⟩ := addN_some hf
  obtain ⟨_, _, _, _, _, hx, _⟩ := id S
  refine WGo.st (fun _ q => XS.iadd S.here hx hg hd hs q) ?_
  rw [e1]; exact nx z h1
theorem w_subN (S : WSt p l e R s m args below meth c Z n0 T h k n) {g : JFrame} (hg : g.method = m) (hd : decode c.code g.pc = .ok (.isub, 1)) {x y : Nat} {rest : List Value} (hs : g.stack = .int (E y) :: .int (E x) :: rest) {Kf : Nat → Option Rt} (hf : subN x y Kf = some r)
    (nx : ∀ z, Kf z = some r → WGo p e below s n0 Q K N T { g with pc := g.pc + 1, stack := .int (E z) :: rest }) : WGo p e below s n0 Q K N T g := by
  obtain ⟨z, e1, h1⟩ := subN_some hf
  obtain ⟨_, _, _, _, _, hx, _⟩ := id S
  refine WGo.st (fun _ q => XS.isub S.here hx hg hd hs q) ?_
  rw [e1]; exact nx z h1
theorem w_mulN (S : WSt p l e R s m args below meth c Z n0 T h k n) {g : JFrame} (hg : g.method = m) (hd : decode c.code g.pc = .ok (.imul, 1)) {x y : Nat} {rest : List Value} (hs : g.stack = .int (E y) :: .int (E x) :: rest) {Kf : Nat → Option Rt} (hf : mulN x y Kf = some r)
    (nx : ∀ z, Kf z = some r → WGo p e below s n0 Q K N T { g with pc := g.pc + 1, stack := .int (E z) :: rest }) : WGo p e below s n0 Q K N T g := by
  obtain ⟨z, e1, h1⟩ := mulN_some hf
  obtain ⟨_, _, _, _, _, hx, _⟩ := id S
  refine WGo.st (fun _ q => XS.imul S.here hx hg hd hs q) ?_
  rw [e1]; exact nx z h1
theorem w_shrN (S : WSt p l e R s m args below meth c Z n0 T h k n) {g : JFrame} (hg : g.method = m) (hd : decode c.code g.pc = .ok (.ishr, 1)) {x : Nat} {rest : List Value} (hs : g.stack = .int (E 65) :: .int (E x) :: rest) {Kf : Nat → Option Rt} (hf : shrN x Kf = some r)
    (nx : ∀ z, Kf z = some r → WGo p e below s n0 Q K N T { g with pc := g.pc + 1, stack := .int (E z) :: rest }) : WGo p e below s n0 Q K N T g := by
  obtain ⟨z, e1, h1⟩ := shrN_some hf
  obtain ⟨_, _, _, _, _, hx, _⟩ := id S
  refine WGo.st (fun _ q => XS.ishr S.here hx hg hd hs q) ?_
  rw [show E 65 = (1 : Int32) from by decide, e1]; exact nx z h1
theorem w_xorN (S : WSt p l e R s m args below meth c Z n0 T h k n) {g : JFrame} (hg : g.method = m) (hd : decode c.code g.pc = .ok (.ixor, 1)) {x : Nat} {rest : List Value} (hs : g.stack = .int (E 65) :: .int (E x) :: rest) {Kf : Nat → Option Rt} (hf : xorN x Kf = some r)
    (nx : ∀ z, Kf z = some r → WGo p e below s n0 Q K N T { g with pc := g.pc + 1, stack := .int (E z) :: rest }) : WGo p e below s n0 Q K N T g := by
  obtain ⟨z, e1, h1⟩ := xorN_some hf
  obtain ⟨_, _, _, _, _, hx, _⟩ := id S
  refine WGo.st (fun _ q => XS.ixor S.here hx hg hd hs q) ?_
  rw [show E 65 = (1 : Int32) from by decide, e1]; exact nx z h1
theorem w_incN (S : WSt p l e R s m args below meth c Z n0 T h k n) {g : JFrame} (hg : g.method = m) {kk : Nat} {cst : Int} (hd : decode c.code g.pc = .ok (.iinc kk cst, 3)) {x y : Nat} (hy : Int32.ofInt cst = E y) (hl : g.locals[kk]? = some (.val (.int (E x)))) {l1 : Nat → Array Slot} (hl' : ∀ z, storeLocals g.locals kk (.int z) = some (g.locals.setIfInBounds kk (.val (.int z)))) (hl1 : ∀ z, g.locals.setIfInBounds kk (.val (.int (E z))) = l1 z) {Kf : Nat → Option Rt} (hf : addN x y Kf = some r)
    (nx : ∀ z, Kf z = some r → WGo p e below s n0 Q K N T { g with pc := g.pc + 3, locals := l1 z }) : WGo p e below s n0 Q K N T g := by
  obtain ⟨z, e1, h1⟩ := addN_some hf
  obtain ⟨_, _, _, _, _, hx, _⟩ := id S
  refine WGo.st (fun _ q => XS.iinc S.here hx hg hd hl (l' := l1 z) (by rw [hy, e1, hl', hl1]) q) ?_
  exact nx z h1
end Steps
end Desc
theorem if0E (cd : ClassFile.Cond) (x : Int32) : ifCond.holds cd x = if_icmp.holds cd x (E 64) := by
  rw [show E 64 = (0 : Int32) from by decide]; exact if0 cd x
theorem fset_eq {F : List (String × String × Value)} {i : Nat} {x y : String × String × Value} (h : F[i]? = some x) : (F.set i y)[i]? = some y := by
  have hl : i < F.length := (List.getElem?_eq_some_iff.mp h).1
  rw [List.getElem?_set, if_pos rfl, if_pos hl]
theorem fset_ne {F : List (String × String × Value)} {i j : Nat} {x y : String × String × Value} (h : F[j]? = some x) (hn : i ≠ j) : (F.set i y)[j]? = some x := by
  rw [List.getElem?_set, if_neg hn]; exact h
theorem fn {F : List (String × String × Value)} {i j : Nat} {x y : String × String × Value} (hn : Nat.beq i j = false) (h : F[j]? = some x) : (F.set i y)[j]? = some x :=
  fset_ne h (Nat.ne_of_beq_eq_false hn)
section Copy
variable {p : Program} {l : Launch} {e : Env} {R : Room} {s : State} {m : MethodId} {args : Array Value} {below : List Frame} {meth : Method} {c : Code} {Z : State} {n0 : Nat} {T : State} {h h' h0 : Heap} {k n : Nat} {Q : Option Value → Heap → Prop} {K N : Nat} {a0 : Array Value} {a b : Addr} {W : List Addr} {D : List Ent}
def cpN {Rt : Type} (ln lm y : Nat) (Kf : Option Rt) : Option Rt := bif (and (Nat.ble 64 lm) (and (Nat.ble lm ln) (and (Nat.blt ln 1073741824) (Nat.beq y lm)))) then Kf else none
theorem ai_arv {L : List Int32} (A : AI Z h a .int L) (hl : L.length < 2 ^ 31) : ∃ kc, Arv Z h a kc .int L.length.toInt32 (L.map Value.int) (.int 0) := by
  obtain ⟨cl, A, q⟩ := A
  have hz : ¬ L.length.toInt32 < 0 := by rw [Int32.lt_iff_toInt_lt, len_toInt hl, show (0 : Int32).toInt = 0 from rfl]; omega
  refine ⟨cl.cls, cl, A, rfl, ?_, hz, ?_, ?_⟩
  · rw [ai_size q]; simp only [Int32.toNatClampNeg, len_toInt hl]; omega
  · intro i hi
    rw [ai_size q] at hi
    rw [q]; simp [hi]
  · intro i hi
    rw [ai_size q] at hi
    simp [hi, fits]
theorem arv_ai {kc : ClassId} {z : Int32} {M : List Int32} {vs : List Value} (A : Arv Z h a kc .int z vs (.int 0)) (hv : vs = M.map Value.int) (hz : M.length = z.toNatClampNeg) : AI Z h a .int M := by
  obtain ⟨cl, A, -, hs, -, H, -⟩ := A
  refine ⟨cl, A, ?_⟩
  apply Array.ext_getElem?
  intro i
  by_cases hi : i < cl.slots.size
  · rw [H i hi, hv]
    have : i < M.length := by omega
    simp [this]
  · rw [Array.getElem?_eq_none (by omega)]
    have : ¬ i < M.length := by omega
    simp [this]
theorem w_acp {Rt : Type} {r : Rt} (S : WSt p l e R s m args below meth c Z n0 T h k n) (d : HS Z a0 n0 h0 W h D) {own : String} {index i j ln lm A B y : Nat} (hown : s.vm.findClass own = some m.cls) (w1 : (Jvm.Cond.methodLink own index Jvm.Stand.acN).before a0 Z = true) (w2 : (Jvm.Cond.native Jvm.Stand.acN).before a0 Z = true) (w3 : (Jvm.Cond.static Jvm.Stand.acN).before a0 Z = true) (w4 : (Jvm.Cond.initialized "java/lang/System").before a0 Z = true)
    (hi : D[i]? = some (a, .inl (.int, DL ln A))) (hj : D[j]? = some (b, .inl (.int, DL lm B))) {g : JFrame} (hg : g.method = m) (hsize : g.locals.size = c.maxLocals) {rest : List Value} (hs : g.stack = .int (E y) :: .int (E 64) :: .ref b :: .int (E 64) :: .ref a :: rest) (hd : decode c.code g.pc = .ok (.invokestatic index, 3))
    (hfr : 1 ≤ R.frames) {W' : Nat} (hW : 2 * g.monitorRoom + (rest.map fun v => v.category).sum ≤ W') (hlo : W' + (nativeFrameWords "java/lang/System" "arraycopy" 5 + 11) ≤ R.locals) {Kf : Option Rt} (hf : cpN ln lm y Kf = some r)
    (nx : ∀ T' h', WSt p l e R s m args below meth c Z n0 T' h' k n → HS Z a0 n0 h0 W h' (D.set j (b, .inl (.int, DL lm A))) → Kf = some r → WGo p e below s n0 Q K N T' { g with pc := g.pc + 3, stack := rest }) : WGo p e below s n0 Q K N T g := by
  obtain ⟨h1, h2⟩ := bif_none hf
  simp only [Bool.and_eq_true, blt_iff, ble_iff, beq_iff] at h1
  obtain ⟨b1, b2, b3, rfl⟩ := h1
  have la : (DL ln A).length < 2 ^ 31 := by rw [DL_len]; omega
  have lb : (DL y B).length < 2 ^ 31 := by rw [DL_len]; omega
  obtain ⟨ka, Aa⟩ := ai_arv (d.arr hi) la
  obtain ⟨kb, Ab⟩ := ai_arv (d.arr hj) lb
  have e64 : E 64 = (0 : Int32) := by decide
  have n64 : (E 64).toNatClampNeg = 0 := E_nat (by decide) (by decide)
  have ny : (E y).toNatClampNeg = y - 64 := E_nat b1 (by omega)
  have za : (DL ln A).length.toInt32.toNatClampNeg = ln - 64 := by
    show ((DL ln A).length.toInt32.toInt).toNat = _
    rw [len_toInt la, DL_len]; omega
  have zb : (DL y B).length.toInt32.toNatClampNeg = y - 64 := by
    show ((DL y B).length.toInt32.toInt).toNat = _
    rw [len_toInt lb, DL_len]; omega
  have nneg : ∀ {x : Nat}, 64 ≤ x → x < 1073741824 → ¬ E x < 0 := fun {x} u v => by
    rw [Int32.lt_iff_toInt_lt, E_toInt v, show (0 : Int32).toInt = 0 from rfl]; omega
  obtain ⟨locs, X, e1, N1, n1, hx, hZ, hlk⟩ := S
  obtain ⟨T', h', L', X', e', N', K', A', st⟩ := cpA X hx hZ hown w1 w2 w3 w4 e1 Aa Ab (Or.inl ⟨rfl, rfl⟩) (nneg (by decide) (by decide)) (nneg (by decide) (by decide)) (nneg b1 (by omega)) (by rw [n64, ny, za]; omega) (by rw [n64, ny, zb]; omega) rfl (by rw [n64, ny]; simp [DL_len]) N1 (d.at hj).2.1 hg hsize hs hd hfr hW hlo
  refine WGo.st st (nx T' h' ⟨L', X', e', N', n1, hx, hZ, hlk⟩ (d.set hj K' ?_) h2)
  refine arv_ai A' ?_ (by rw [zb, DL_len])
  rw [n64, ny]
  have hd0 : ((DL y B).map Value.int).drop (0 + (y - 64)) = [] := by
    apply List.drop_eq_nil_of_le; simp [DL_len]
  rw [hd0, List.take_zero, List.nil_append, List.append_nil]
  apply List.ext_getElem?
  intro q
  by_cases hq : q < y - 64
  · have h3 : q < ln - 64 := by omega
    simp [DL, hq, h3]
  · simp [DL, hq]
end Copy
section Sel
variable {Z : State} {n0 : Nat} {h h' h0 : Heap} {a0 : Array Value} {a : Addr} {W : List Addr} {D : List Ent}
theorem HS.take (d : HS Z a0 n0 h0 W h D) (n : Nat) : HS Z a0 n0 h0 W h (D.take n) :=
  ⟨d.1, List.Nodup.sublist ((List.take_sublist n D).map _) d.2.1, fun q hq => d.2.2 q (List.mem_of_mem_take hq)⟩
theorem HS.sel (d : HS Z a0 n0 h0 W h D) (is : List Nat) (D1 : List Ent) (hn : is.Nodup) (hp : is.map (fun i => D[i]?) = D1.map some) : HS Z a0 n0 h0 W h D1 := by
  refine ⟨d.1, (d.pick is D1 hn hp).2.1, fun x hx => ?_⟩
  have : some x ∈ is.map (fun i => D[i]?) := by rw [hp]; exact List.mem_map_of_mem hx
  obtain ⟨i, hi, ei⟩ := List.mem_map.mp this
  exact d.at ei
theorem HS.fsub (d : HS Z a0 n0 h0 W h D) {i : Nat} {C : String} {F : List (String × String × Value)} (hi : D[i]? = some (a, .inr (C, F))) (F' : List (String × String × Value)) (hn : (F'.map (·.1)).Nodup) (hs : ∀ x ∈ F', x ∈ F) : HS Z a0 n0 h0 W h (D.set i (a, .inr (C, F'))) := by
  have H := (d.at hi).1
  have hl : i < D.length := (List.getElem?_eq_some_iff.mp hi).1
  have em : (D.set i (a, .inr (C, F'))).map (·.1) = D.map (·.1) := by
    apply List.ext_getElem?
    intro j
    rw [List.getElem?_map, List.getElem?_map, List.getElem?_set]
    by_cases e : i = j
    · subst e; rw [if_pos rfl, if_pos hl, hi]; rfl
    · simp [e]
  refine ⟨d.1, by rw [em]; exact d.2.1, ?_⟩
  intro x hx
  obtain ⟨j, hj⟩ := List.getElem?_of_mem hx
  rw [List.getElem?_set] at hj
  by_cases e : i = j
  · subst e
    rw [if_pos rfl, if_pos hl] at hj
    obtain rfl := Option.some.inj hj
    exact ⟨⟨H.1, hn, fun f hf => H.2.2 f (hs f hf)⟩, (d.at hi).2⟩
  · rw [if_neg e] at hj
    exact d.at hj
def boolN {Rt : Type} (x : Nat) (Kf : Option Rt) : Option Rt := bif (or (Nat.beq x 64) (Nat.beq x 65)) then Kf else none
theorem boolN_some {Rt : Type} {x : Nat} {Kf : Option Rt} {r : Rt} (h : boolN x Kf = some r) : (E x = 0 ∨ E x = 1) ∧ Kf = some r := by
  obtain ⟨h1, h2⟩ := bif_none h
  simp only [Bool.or_eq_true, beq_iff] at h1
  refine ⟨?_, h2⟩
  rcases h1 with rfl | rfl
  · exact Or.inl (by decide)
  · exact Or.inr (by decide)
end Sel
def jn {τ Rt : Type} (K : τ) (F : τ → Option Rt) : Option Rt := F K
theorem jn_some {τ Rt : Type} {K : τ} {F : τ → Option Rt} {r : Rt} (h : jn K F = some r) : ∃ K', K' = K ∧ F K' = some r := ⟨K, rfl, h⟩
def pk (a b c d e f : Nat) : Nat := a + 256 * (b + 256 * (c + 256 * (d + 256 * (e + 256 * f))))
theorem dg_eq (A i : Nat) : dg A i = A / 2 ^ (8 * i) % 256 := by
  show (A >>> (8 * i)) &&& 255 = _
  rw [Nat.shiftRight_eq_div_pow]
  exact Nat.and_two_pow_sub_one_eq_mod _ 8
theorem DL_pk {a b c d e f : Nat} (ha : a < 256) (hb : b < 256) (hc : c < 256) (hd : d < 256) (he : e < 256) (hf : f < 256) : DL 70 (pk a b c d e f) = [E a, E b, E c, E d, E e, E f] := by
  have h0 : dg (pk a b c d e f) 0 = a := by rw [dg_eq]; unfold pk; omega
  have h1 : dg (pk a b c d e f) 1 = b := by rw [dg_eq]; unfold pk; omega
  have h2 : dg (pk a b c d e f) 2 = c := by rw [dg_eq]; unfold pk; omega
  have h3 : dg (pk a b c d e f) 3 = d := by rw [dg_eq]; unfold pk; omega
  have h4 : dg (pk a b c d e f) 4 = e := by rw [dg_eq]; unfold pk; omega
  have h5 : dg (pk a b c d e f) 5 = f := by rw [dg_eq]; unfold pk; omega
  show [E (dg (pk a b c d e f) 0), E (dg (pk a b c d e f) 1), E (dg (pk a b c d e f) 2), E (dg (pk a b c d e f) 3), E (dg (pk a b c d e f) 4), E (dg (pk a b c d e f) 5)] = _
  rw [h0, h1, h2, h3, h4, h5]
theorem to_E (q : Int32) (N : Nat) (h0 : 0 ≤ q.toInt) (h1 : q.toInt < (N : Int) - 64) : ∃ x, q = E x ∧ 64 ≤ x ∧ x < N := by
  have r := rng32 q
  refine ⟨(q.toInt + 64).toNat, ?_, by omega, by omega⟩
  unfold E
  have : (((q.toInt + 64).toNat : Nat) : Int) - 64 = q.toInt := by omega
  rw [this]; exact (Int32.ofInt_toInt q).symm
theorem rem_in (x y : Int32) (h0 : 0 ≤ x.toInt) (hy : 0 < y.toInt) : 0 ≤ (x % y).toInt ∧ (x % y).toInt < y.toInt := by
  rw [(c_irem x y _ rfl).1 h0]
  exact ⟨Int.emod_nonneg _ (by omega), Int.emod_lt_of_pos _ hy⟩
theorem HS.pw {Z : State} {n0 : Nat} {h h0 : Heap} {a0 : Array Value} {W W1 : List Addr} {D D1 : List Ent} (d : HS Z a0 n0 h0 W h D) (is : List Nat) (hn : is.Nodup) (hp : is.map (fun i => D[i]?) = D1.map some) (hW : D1.map (·.1) = W1) : HS Z a0 n0 h W1 h D1 := hW ▸ d.pick is D1 hn hp

theorem e1_0 : decode jdk_29_method_69_code 0 = .ok (.iload_n 0, 1) := by decide +kernel
theorem e1_1 : decode jdk_29_method_69_code 1 = .ok (.iload_n 1, 1) := by decide +kernel
theorem e1_2 : decode jdk_29_method_69_code 2 = .ok (.if_icmp .gt 7, 3) := by decide +kernel
theorem e1_5 : decode jdk_29_method_69_code 5 = .ok (.iload_n 0, 1) := by decide +kernel
theorem e1_6 : decode jdk_29_method_69_code 6 = .ok (.goto 4, 3) := by decide +kernel
theorem e1_9 : decode jdk_29_method_69_code 9 = .ok (.iload_n 1, 1) := by decide +kernel
theorem e1_10 : decode jdk_29_method_69_code 10 = .ok (.ireturn, 1) := by decide +kernel
abbrev R_Mi : Room := { frames := 0, cells := 0, slots := 0, locals := 0 }
def fMi {Rt : Type} (x1 : Nat) (x2 : Nat) (Kf : Nat → Option Rt) : Option Rt := ltN x2 x1 (Kf x2) (Kf x1)
def QMi {Rt : Type} (Z : State) (a0 : Array Value) (n0 : Nat) (h0 : Heap) (x1 : Nat) (x2 : Nat) (Kf : Nat → Option Rt) (r : Rt) (v : Option Value) (h : Heap) : Prop := ∃ z : Nat, v = some (.int (E z)) ∧ HS Z a0 n0 h0 [] h [] ∧ Kf z = some r
theorem ef_Mi (m : MethodId) (x1 : Nat) (x2 : Nat) : entryFrame m #[(.int (E x1)), (.int (E x2))] 2 = mkF m 0 #[.val (.int (E x1)), .val (.int (E x2))] [] := by first | (simp [entryFrame, mkF, argsToLocals, Value.category, maxLocals]; done) | rfl
set_option maxRecDepth 65536 in
set_option maxHeartbeats 40000000 in
theorem rm_Mi {Rt : Type} (l : Launch) (Z : State) (a0 : Array Value) (hw : ∀ d ∈ tables_1, d.before a0 Z = true) (n0 : Nat) (h0 : Heap) (x1 : Nat) (x2 : Nat) (Z0 : n0 ≤ h0.size)  (d0 : HS Z a0 n0 h0 [] h0 []) (Kf : Nat → Option Rt) (r : Rt) (hf : fMi x1 x2 Kf = some r) :
    WCon l Z n0 h0 (⟨"java/lang/Math", "min", "(II)I"⟩ : MethodName) jdk_29_method_69_code 2 (some .int) [] R_Mi #[(.int (E x1)), (.int (E x2))] (QMi Z a0 n0 h0 x1 x2 Kf r) := by
  refine WCon.of (by first | exact plainFor_of_name (by decide +kernel) | decide +kernel) Z0 ?_
  intro p e s m below meth c T hx hZ hby hml hown hnm hret S
  refine WGo.cast (ef_Mi m x1 x2) ?_
  rw [fMi] at hf
  show WGo _ _ _ _ _ _ _ _ T (mkF m 0 #[.val (.int (E x1)), .val (.int (E x2))] [])
  refine WGo.st (fun _ q => XS.iloadN S.here hx rfl (hb hby e1_0) rfl q) ?_
  refine WGo.st (fun _ q => XS.iloadN S.here hx rfl (hb hby e1_1) rfl q) ?_
  rcases ltN_some hf with ⟨c2, hf⟩ | ⟨c2, hf⟩
  · refine WGo.st (fun _ q => XS.icmpYes S.here hx rfl (pc0 := 2) (pc' := 9) rfl (hb hby e1_2) rfl (tlt c2).2.2.1 (by decide) (by decide) q) ?_
    show WGo _ _ _ _ _ _ _ _ T (mkF m 9 #[.val (.int (E x1)), .val (.int (E x2))] [])
    refine WGo.st (fun _ q => XS.iloadN S.here hx rfl (hb hby e1_9) rfl q) ?_
    refine w_retI S hret (hb hby e1_10) (by decide) (by decide) ?_
    exact ⟨x2, rfl, d0, hf⟩
  · refine WGo.st (fun _ q => XS.icmpNo S.here hx rfl (hb hby e1_2) rfl (flt c2).2.2.1 q) ?_
    show WGo _ _ _ _ _ _ _ _ T (mkF m 5 #[.val (.int (E x1)), .val (.int (E x2))] [])
    refine WGo.st (fun _ q => XS.iloadN S.here hx rfl (hb hby e1_5) rfl q) ?_
    refine WGo.st (fun _ q => XS.goto S.here hx rfl (pc0 := 6) (pc' := 10) rfl (hb hby e1_6) (by decide) (by decide) q) ?_
    show WGo _ _ _ _ _ _ _ _ T (mkF m 10 #[.val (.int (E x1)), .val (.int (E x2))] [(.int (E x1))])
    refine w_retI S hret (hb hby e1_10) (by decide) (by decide) ?_
    exact ⟨x1, rfl, d0, hf⟩
theorem e14_0 : decode jdk_29_method_65_code 0 = .ok (.iload_n 0, 1) := by decide +kernel
theorem e14_1 : decode jdk_29_method_65_code 1 = .ok (.iload_n 1, 1) := by decide +kernel
theorem e14_2 : decode jdk_29_method_65_code 2 = .ok (.if_icmp .lt 7, 3) := by decide +kernel
theorem e14_5 : decode jdk_29_method_65_code 5 = .ok (.iload_n 0, 1) := by decide +kernel
theorem e14_6 : decode jdk_29_method_65_code 6 = .ok (.goto 4, 3) := by decide +kernel
theorem e14_9 : decode jdk_29_method_65_code 9 = .ok (.iload_n 1, 1) := by decide +kernel
theorem e14_10 : decode jdk_29_method_65_code 10 = .ok (.ireturn, 1) := by decide +kernel
abbrev R_Mx : Room := { frames := 0, cells := 0, slots := 0, locals := 0 }
def fMx {Rt : Type} (x1 : Nat) (x2 : Nat) (Kf : Nat → Option Rt) : Option Rt := ltN x1 x2 (Kf x2) (Kf x1)
def QMx {Rt : Type} (Z : State) (a0 : Array Value) (n0 : Nat) (h0 : Heap) (x1 : Nat) (x2 : Nat) (Kf : Nat → Option Rt) (r : Rt) (v : Option Value) (h : Heap) : Prop := ∃ z : Nat, v = some (.int (E z)) ∧ HS Z a0 n0 h0 [] h [] ∧ Kf z = some r
theorem ef_Mx (m : MethodId) (x1 : Nat) (x2 : Nat) : entryFrame m #[(.int (E x1)), (.int (E x2))] 2 = mkF m 0 #[.val (.int (E x1)), .val (.int (E x2))] [] := by first | (simp [entryFrame, mkF, argsToLocals, Value.category, maxLocals]; done) | rfl
set_option maxRecDepth 65536 in
set_option maxHeartbeats 40000000 in
theorem rm_Mx {Rt : Type} (l : Launch) (Z : State) (a0 : Array Value) (hw : ∀ d ∈ tables_1, d.before a0 Z = true) (n0 : Nat) (h0 : Heap) (x1 : Nat) (x2 : Nat) (Z0 : n0 ≤ h0.size)  (d0 : HS Z a0 n0 h0 [] h0 []) (Kf : Nat → Option Rt) (r : Rt) (hf : fMx x1 x2 Kf = some r) :
    WCon l Z n0 h0 (⟨"java/lang/Math", "max", "(II)I"⟩ : MethodName) jdk_29_method_65_code 2 (some .int) [] R_Mx #[(.int (E x1)), (.int (E x2))] (QMx Z a0 n0 h0 x1 x2 Kf r) := by
  refine WCon.of (by first | exact plainFor_of_name (by decide +kernel) | decide +kernel) Z0 ?_
  intro p e s m below meth c T hx hZ hby hml hown hnm hret S
  refine WGo.cast (ef_Mx m x1 x2) ?_
  rw [fMx] at hf
  show WGo _ _ _ _ _ _ _ _ T (mkF m 0 #[.val (.int (E x1)), .val (.int (E x2))] [])
  refine WGo.st (fun _ q => XS.iloadN S.here hx rfl (hb hby e14_0) rfl q) ?_
  refine WGo.st (fun _ q => XS.iloadN S.here hx rfl (hb hby e14_1) rfl q) ?_
  rcases ltN_some hf with ⟨c2, hf⟩ | ⟨c2, hf⟩
  · refine WGo.st (fun _ q => XS.icmpYes S.here hx rfl (pc0 := 2) (pc' := 9) rfl (hb hby e14_2) rfl (tlt c2).1 (by decide) (by decide) q) ?_
    show WGo _ _ _ _ _ _ _ _ T (mkF m 9 #[.val (.int (E x1)), .val (.int (E x2))] [])
    refine WGo.st (fun _ q => XS.iloadN S.here hx rfl (hb hby e14_9) rfl q) ?_
    refine w_retI S hret (hb hby e14_10) (by decide) (by decide) ?_
    exact ⟨x2, rfl, d0, hf⟩
  · refine WGo.st (fun _ q => XS.icmpNo S.here hx rfl (hb hby e14_2) rfl (flt c2).1 q) ?_
    show WGo _ _ _ _ _ _ _ _ T (mkF m 5 #[.val (.int (E x1)), .val (.int (E x2))] [])
    refine WGo.st (fun _ q => XS.iloadN S.here hx rfl (hb hby e14_5) rfl q) ?_
    refine WGo.st (fun _ q => XS.goto S.here hx rfl (pc0 := 6) (pc' := 10) rfl (hb hby e14_6) (by decide) (by decide) q) ?_
    show WGo _ _ _ _ _ _ _ _ T (mkF m 10 #[.val (.int (E x1)), .val (.int (E x2))] [(.int (E x1))])
    refine w_retI S hret (hb hby e14_10) (by decide) (by decide) ?_
    exact ⟨x1, rfl, d0, hf⟩
theorem e0_0 : decode method_2_code 0 = .ok (.aload_n 0, 1) := by decide +kernel
theorem e0_1 : decode method_2_code 1 = .ok (.iload_n 1, 1) := by decide +kernel
theorem e0_2 : decode method_2_code 2 = .ok (.iaload, 1) := by decide +kernel
theorem e0_3 : decode method_2_code 3 = .ok (.aload_n 0, 1) := by decide +kernel
theorem e0_4 : decode method_2_code 4 = .ok (.iload_n 2, 1) := by decide +kernel
theorem e0_5 : decode method_2_code 5 = .ok (.iaload, 1) := by decide +kernel
theorem e0_6 : decode method_2_code 6 = .ok (.invokestatic 7, 3) := by decide +kernel
theorem e0_9 : decode method_2_code 9 = .ok (.istore_n 3, 1) := by decide +kernel
theorem e0_10 : decode method_2_code 10 = .ok (.aload_n 0, 1) := by decide +kernel
theorem e0_11 : decode method_2_code 11 = .ok (.iload_n 1, 1) := by decide +kernel
theorem e0_12 : decode method_2_code 12 = .ok (.iload_n 3, 1) := by decide +kernel
theorem e0_13 : decode method_2_code 13 = .ok (.iastore, 1) := by decide +kernel
theorem e0_14 : decode method_2_code 14 = .ok (.aload_n 0, 1) := by decide +kernel
theorem e0_15 : decode method_2_code 15 = .ok (.iload_n 2, 1) := by decide +kernel
theorem e0_16 : decode method_2_code 16 = .ok (.iload_n 3, 1) := by decide +kernel
theorem e0_17 : decode method_2_code 17 = .ok (.iastore, 1) := by decide +kernel
theorem e0_18 : decode method_2_code 18 = .ok (.return_, 1) := by decide +kernel
abbrev R_Rx : Room := { frames := 1, cells := 0, slots := 0, locals := 16 }
def fRx {Rt : Type} (A1 : Nat) (x1 : Nat) (x2 : Nat) (Kf : Nat → Option Rt) : Option Rt := rdN A1 68 x1 fun x101 => (rdN A1 68 x2 fun x102 => (fMi x101 x102 fun y110 => (wrN A1 68 x1 y110 fun A111 => (wrN A111 68 x2 y110 fun A116 => (Kf A116)))))
def QRx {Rt : Type} (Z : State) (a0 : Array Value) (n0 : Nat) (h0 : Heap) (b1 : Addr) (A1 : Nat) (x1 : Nat) (x2 : Nat) (Kf : Nat → Option Rt) (r : Rt) (v : Option Value) (h : Heap) : Prop := ∃ B1 : Nat, v = none ∧ HS Z a0 n0 h0 [b1] h [ia b1 68 B1] ∧ Kf B1 = some r
theorem ef_Rx (m : MethodId) (b1 : Addr) (x1 : Nat) (x2 : Nat) : entryFrame m #[(.ref b1), (.int (E x1)), (.int (E x2))] 4 = mkF m 0 #[.val (.ref b1), .val (.int (E x1)), .val (.int (E x2)), .unset] [] := by first | (simp [entryFrame, mkF, argsToLocals, Value.category, maxLocals]; done) | rfl
set_option maxRecDepth 65536 in
set_option maxHeartbeats 40000000 in
theorem rm_Rx {Rt : Type} (l : Launch) (Z : State) (a0 : Array Value) (hw : ∀ d ∈ tables_1, d.before a0 Z = true) (n0 : Nat) (h0 : Heap) (b1 : Addr) (A1 : Nat) (x1 : Nat) (x2 : Nat) (Z0 : n0 ≤ h0.size)  (d0 : HS Z a0 n0 h0 [b1] h0 [ia b1 68 A1]) (Kf : Nat → Option Rt) (r : Rt) (hf : fRx A1 x1 x2 Kf = some r) :
    WCon l Z n0 h0 (⟨"com/example/ookayama/ookayama/EdgeAdditionSearchRootsPinLaw", "relax", "([III)V"⟩ : MethodName) method_2_code 4 none [] R_Rx #[(.ref b1), (.int (E x1)), (.int (E x2))] (QRx Z a0 n0 h0 b1 A1 x1 x2 Kf r) := by
  refine WCon.of (by first | exact plainFor_of_name (by decide +kernel) | decide +kernel) Z0 ?_
  intro p e s m below meth c T hx hZ hby hml hown hnm hret S
  refine WGo.cast (ef_Rx m b1 x1 x2) ?_
  rw [fRx] at hf
  show WGo _ _ _ _ _ _ _ _ T (mkF m 0 #[.val (.ref b1), .val (.int (E x1)), .val (.int (E x2)), .unset] [])
  refine WGo.st (fun _ q => XS.aloadN S.here hx rfl (hb hby e0_0) rfl rfl q) ?_
  refine WGo.st (fun _ q => XS.iloadN S.here hx rfl (hb hby e0_1) rfl q) ?_
  refine w_ald S d0 (i := 0) rfl rfl (hb hby e0_2) rfl hf ?_
  intro x101 hf
  show WGo _ _ _ _ _ _ _ _ T (mkF m 3 #[.val (.ref b1), .val (.int (E x1)), .val (.int (E x2)), .unset] [(.int (E x101))])
  refine WGo.st (fun _ q => XS.aloadN S.here hx rfl (hb hby e0_3) rfl rfl q) ?_
  refine WGo.st (fun _ q => XS.iloadN S.here hx rfl (hb hby e0_4) rfl q) ?_
  refine w_ald S d0 (i := 0) rfl rfl (hb hby e0_5) rfl hf ?_
  intro x102 hf
  show WGo _ _ _ _ _ _ _ _ T (mkF m 6 #[.val (.ref b1), .val (.int (E x1)), .val (.int (E x2)), .unset] [(.int (E x102)), (.int (E x101))])
  refine w_static S (y := (⟨"java/lang/Math", "min", "(II)I"⟩ : MethodName)) hown (hwi hw 5 rfl) (hwi hw 6 rfl) (hwi hw 7 rfl) (hwi hw 8 rfl) (by decide) (rm_Mi l Z a0 hw n0 h0 x101 x102 S.ge  (HS.pw d0 [] (by decide) rfl rfl) _ _ hf) (W := 0) (by decide) (by decide) (by decide) (by decide) rfl (by rw [hml]; rfl) (argsL := [(.int (E x101)), (.int (E x102))]) (rest := []) (ps := [.int, .int]) (rt := (some .int)) (by decide) rfl rfl rfl (by show 2 * 0 + _ ≤ _; exact Nat.le_of_eq rfl) (hb hby e0_6) ?_
  intro T103 h105 w106 S104 q107
  obtain ⟨y110, rfl, d108, hf⟩ := q107
  have d109 : HS Z a0 n0 h0 [b1] h105 [ia b1 68 A1] := HS.call d0 [] [] [] [] (by decide) rfl rfl d108
  show WGo _ _ _ _ _ _ _ _ T103 (mkF m 9 #[.val (.ref b1), .val (.int (E x1)), .val (.int (E x2)), .unset] [(.int (E y110))])
  refine WGo.st (fun _ q => XS.istoreN S104.here hx rfl (hb hby e0_9) rfl (l' := #[.val (.ref b1), .val (.int (E x1)), .val (.int (E x2)), .val (.int (E y110))]) rfl q) ?_
  show WGo _ _ _ _ _ _ _ _ T103 (mkF m 10 #[.val (.ref b1), .val (.int (E x1)), .val (.int (E x2)), .val (.int (E y110))] [])
  refine WGo.st (fun _ q => XS.aloadN S104.here hx rfl (hb hby e0_10) rfl rfl q) ?_
  refine WGo.st (fun _ q => XS.iloadN S104.here hx rfl (hb hby e0_11) rfl q) ?_
  refine WGo.st (fun _ q => XS.iloadN S104.here hx rfl (hb hby e0_12) rfl q) ?_
  refine w_ast S104 d109 (i := 0) rfl rfl (hb hby e0_13) rfl hf ?_
  intro T112 h113 A111 S114 d115 hf
  show WGo _ _ _ _ _ _ _ _ T112 (mkF m 14 #[.val (.ref b1), .val (.int (E x1)), .val (.int (E x2)), .val (.int (E y110))] [])
  refine WGo.st (fun _ q => XS.aloadN S114.here hx rfl (hb hby e0_14) rfl rfl q) ?_
  refine WGo.st (fun _ q => XS.iloadN S114.here hx rfl (hb hby e0_15) rfl q) ?_
  refine WGo.st (fun _ q => XS.iloadN S114.here hx rfl (hb hby e0_16) rfl q) ?_
  refine w_ast S114 d115 (i := 0) rfl rfl (hb hby e0_17) rfl hf ?_
  intro T117 h118 A116 S119 d120 hf
  show WGo _ _ _ _ _ _ _ _ T117 (mkF m 18 #[.val (.ref b1), .val (.int (E x1)), .val (.int (E x2)), .val (.int (E y110))] [])
  refine w_retV S119 hret (hb hby e0_18) (by decide) (by decide) ?_
  exact ⟨A116, rfl, d120, hf⟩
theorem e8_0 : decode jdk_65_method_103_code 0 = .ok (.iconst 0, 1) := by decide +kernel
theorem e8_1 : decode jdk_65_method_103_code 1 = .ok (.istore_n 2, 1) := by decide +kernel
theorem e8_2 : decode jdk_65_method_103_code 2 = .ok (.aload_n 0, 1) := by decide +kernel
theorem e8_3 : decode jdk_65_method_103_code 3 = .ok (.arraylength, 1) := by decide +kernel
theorem e8_4 : decode jdk_65_method_103_code 4 = .ok (.istore_n 3, 1) := by decide +kernel
theorem e8_5 : decode jdk_65_method_103_code 5 = .ok (.iload_n 2, 1) := by decide +kernel
theorem e8_6 : decode jdk_65_method_103_code 6 = .ok (.iload_n 3, 1) := by decide +kernel
theorem e8_7 : decode jdk_65_method_103_code 7 = .ok (.if_icmp .ge 13, 3) := by decide +kernel
theorem e8_10 : decode jdk_65_method_103_code 10 = .ok (.aload_n 0, 1) := by decide +kernel
theorem e8_11 : decode jdk_65_method_103_code 11 = .ok (.iload_n 2, 1) := by decide +kernel
theorem e8_12 : decode jdk_65_method_103_code 12 = .ok (.iload_n 1, 1) := by decide +kernel
theorem e8_13 : decode jdk_65_method_103_code 13 = .ok (.iastore, 1) := by decide +kernel
theorem e8_14 : decode jdk_65_method_103_code 14 = .ok (.iinc 2 1, 3) := by decide +kernel
theorem e8_17 : decode jdk_65_method_103_code 17 = .ok (.goto (-12), 3) := by decide +kernel
theorem e8_20 : decode jdk_65_method_103_code 20 = .ok (.return_, 1) := by decide +kernel
abbrev R_Fi : Room := { frames := 0, cells := 0, slots := 0, locals := 0 }
def fFi_L5b {Rt : Type} (n1 : Nat) (x1 : Nat) (Kx5 : Nat → Nat → Option Rt) (gv5 : Nat → Nat → Option Rt) (i105 : Nat) (A106 : Nat) : Option Rt := ltN i105 n1 (wrN A106 n1 i105 x1 fun A107 => (addN i105 65 fun z112 => (gv5 z112 A107))) (Kx5 i105 A106)
def fFi_L5 {Rt : Type} (n1 : Nat) (x1 : Nat) (Kx5 : Nat → Nat → Option Rt) : Nat → Nat → Option Rt := it32 (fFi_L5b n1 x1 Kx5) (fun _ _ => none)
def fFi {Rt : Type} (n1 : Nat) (A1 : Nat) (x1 : Nat) (Kf : Nat → Option Rt) : Option Rt := capN n1 1000 (fFi_L5 n1 x1 (fun i105 A106 => Kf A106) 64 A1)
def QFi {Rt : Type} (Z : State) (a0 : Array Value) (n0 : Nat) (h0 : Heap) (b1 : Addr) (n1 : Nat) (A1 : Nat) (x1 : Nat) (Kf : Nat → Option Rt) (r : Rt) (v : Option Value) (h : Heap) : Prop := ∃ B1 : Nat, v = none ∧ HS Z a0 n0 h0 [b1] h [ia b1 n1 B1] ∧ Kf B1 = some r
theorem ef_Fi (m : MethodId) (b1 : Addr) (x1 : Nat) : entryFrame m #[(.ref b1), (.int (E x1))] 4 = mkF m 0 #[.val (.ref b1), .val (.int (E x1)), .unset, .unset] [] := by first | (simp [entryFrame, mkF, argsToLocals, Value.category, maxLocals]; done) | rfl
set_option maxRecDepth 65536 in
set_option maxHeartbeats 40000000 in
theorem rm_Fi {Rt : Type} (l : Launch) (Z : State) (a0 : Array Value) (hw : ∀ d ∈ tables_1, d.before a0 Z = true) (n0 : Nat) (h0 : Heap) (b1 : Addr) (n1 : Nat) (A1 : Nat) (x1 : Nat) (Z0 : n0 ≤ h0.size)  (d0 : HS Z a0 n0 h0 [b1] h0 [ia b1 n1 A1]) (Kf : Nat → Option Rt) (r : Rt) (hf : fFi n1 A1 x1 Kf = some r) :
    WCon l Z n0 h0 (⟨"java/util/Arrays", "fill", "([II)V"⟩ : MethodName) jdk_65_method_103_code 4 none [] R_Fi #[(.ref b1), (.int (E x1))] (QFi Z a0 n0 h0 b1 n1 A1 x1 Kf r) := by
  refine WCon.of (by first | exact plainFor_of_name (by decide +kernel) | decide +kernel) Z0 ?_
  intro p e s m below meth c T hx hZ hby hml hown hnm hret S
  refine WGo.cast (ef_Fi m b1 x1) ?_
  rw [fFi] at hf
  show WGo _ _ _ _ _ _ _ _ T (mkF m 0 #[.val (.ref b1), .val (.int (E x1)), .unset, .unset] [])
  refine WGo.st (fun _ q => XS.iconst S.here hx rfl (hb hby e8_0) q) ?_
  refine WGo.st (fun _ q => XS.istoreN S.here hx rfl (hb hby e8_1) rfl (l' := #[.val (.ref b1), .val (.int (E x1)), .val (.int (E 64)), .unset]) rfl q) ?_
  show WGo _ _ _ _ _ _ _ _ T (mkF m 2 #[.val (.ref b1), .val (.int (E x1)), .val (.int (E 64)), .unset] [])
  refine WGo.st (fun _ q => XS.aloadN S.here hx rfl (hb hby e8_2) rfl rfl q) ?_
  refine w_aln S d0 (i := 0) rfl rfl (hb hby e8_3) rfl hf ?_
  intro hf
  show WGo _ _ _ _ _ _ _ _ T (mkF m 4 #[.val (.ref b1), .val (.int (E x1)), .val (.int (E 64)), .unset] [(.int (E n1))])
  refine WGo.st (fun _ q => XS.istoreN S.here hx rfl (hb hby e8_4) rfl (l' := #[.val (.ref b1), .val (.int (E x1)), .val (.int (E 64)), .val (.int (E n1))]) rfl q) ?_
  show WGo _ _ _ _ _ _ _ _ T (mkF m 5 #[.val (.ref b1), .val (.int (E x1)), .val (.int (E 64)), .val (.int (E n1))] [])
  obtain ⟨Kx5, eKx5⟩ : ∃ K : Nat → Nat → Option Rt, K = (fun i105 A106 => Kf A106) := ⟨_, rfl⟩
  rw [← eKx5] at hf
  have hK5 : ∀ (T101 : State) (h102 : Heap) (i105 : Nat) (A106 : Nat), WSt p l e R_Fi s m #[(.ref b1), (.int (E x1))] below meth c Z n0 T101 h102 (0) (0) → HS Z a0 n0 h0 [b1] h102 [ia b1 n1 A106] → Kx5 i105 A106 = some r → WGo p e below s n0 (QFi Z a0 n0 h0 b1 n1 A1 x1 Kf r) R_Fi.cells R_Fi.slots T101 (mkF m 20 #[.val (.ref b1), .val (.int (E x1)), .val (.int (E i105)), .val (.int (E n1))] []) := by
    intro T101 h102  i105 A106 S103  d104 hf
    rw [eKx5] at hf
    show WGo _ _ _ _ _ _ _ _ T101 (mkF m 20 #[.val (.ref b1), .val (.int (E x1)), .val (.int (E i105)), .val (.int (E n1))] [])
    refine w_retV S103 hret (hb hby e8_20) (by decide) (by decide) ?_
    exact ⟨A106, rfl, d104, hf⟩
  have hL5 : ∀ (T101 : State) (h102 : Heap) (i105 : Nat) (A106 : Nat), WSt p l e R_Fi s m #[(.ref b1), (.int (E x1))] below meth c Z n0 T101 h102 (0) (0) → HS Z a0 n0 h0 [b1] h102 [ia b1 n1 A106] → fFi_L5 n1 x1 Kx5 i105 A106 = some r → WGo p e below s n0 (QFi Z a0 n0 h0 b1 n1 A1 x1 Kf r) R_Fi.cells R_Fi.slots T101 (mkF m 5 #[.val (.ref b1), .val (.int (E x1)), .val (.int (E i105)), .val (.int (E n1))] []) := by
    refine it32_ind (F := fFi_L5b n1 x1 Kx5) (P := fun (gv5 : Nat → Nat → Option Rt) => ∀ (T101 : State) (h102 : Heap) (i105 : Nat) (A106 : Nat), WSt p l e R_Fi s m #[(.ref b1), (.int (E x1))] below meth c Z n0 T101 h102 (0) (0) → HS Z a0 n0 h0 [b1] h102 [ia b1 n1 A106] → gv5 i105 A106 = some r → WGo p e below s n0 (QFi Z a0 n0 h0 b1 n1 A1 x1 Kf r) R_Fi.cells R_Fi.slots T101 (mkF m 5 #[.val (.ref b1), .val (.int (E x1)), .val (.int (E i105)), .val (.int (E n1))] [])) ?_ ?_
    · intro T101 h102  i105 A106 S103  d104 hf
      cases (show (none : Option _) = some r from hf)
    · intro gv5 ih T101 h102  i105 A106 S103  d104 hf
      rw [fFi_L5b] at hf
      show WGo _ _ _ _ _ _ _ _ T101 (mkF m 5 #[.val (.ref b1), .val (.int (E x1)), .val (.int (E i105)), .val (.int (E n1))] [])
      refine WGo.st (fun _ q => XS.iloadN S103.here hx rfl (hb hby e8_5) rfl q) ?_
      refine WGo.st (fun _ q => XS.iloadN S103.here hx rfl (hb hby e8_6) rfl q) ?_
      rcases ltN_some hf with ⟨c7, hf⟩ | ⟨c7, hf⟩
      · refine WGo.st (fun _ q => XS.icmpNo S103.here hx rfl (hb hby e8_7) rfl (tlt c7).2.1 q) ?_
        show WGo _ _ _ _ _ _ _ _ T101 (mkF m 10 #[.val (.ref b1), .val (.int (E x1)), .val (.int (E i105)), .val (.int (E n1))] [])
        refine WGo.st (fun _ q => XS.aloadN S103.here hx rfl (hb hby e8_10) rfl rfl q) ?_
        refine WGo.st (fun _ q => XS.iloadN S103.here hx rfl (hb hby e8_11) rfl q) ?_
        refine WGo.st (fun _ q => XS.iloadN S103.here hx rfl (hb hby e8_12) rfl q) ?_
        refine w_ast S103 d104 (i := 0) rfl rfl (hb hby e8_13) rfl hf ?_
        intro T108 h109 A107 S110 d111 hf
        show WGo _ _ _ _ _ _ _ _ T108 (mkF m 14 #[.val (.ref b1), .val (.int (E x1)), .val (.int (E i105)), .val (.int (E n1))] [])
        refine w_incN S110 rfl (hb hby e8_14) (y := 65) (by decide) rfl (l1 := fun z0 => #[.val (.ref b1), .val (.int (E x1)), .val (.int (E z0)), .val (.int (E n1))]) (fun _ => rfl) (fun _ => rfl) hf ?_
        intro z112 hf
        show WGo _ _ _ _ _ _ _ _ T108 (mkF m 17 #[.val (.ref b1), .val (.int (E x1)), .val (.int (E z112)), .val (.int (E n1))] [])
        refine WGo.st (fun _ q => XS.goto S110.here hx rfl (pc0 := 17) (pc' := 5) rfl (hb hby e8_17) (by decide) (by decide) q) ?_
        show WGo _ _ _ _ _ _ _ _ T108 (mkF m 5 #[.val (.ref b1), .val (.int (E x1)), .val (.int (E z112)), .val (.int (E n1))] [])
        exact ih T108 h109  z112 A107 S110  d111  hf
      · refine WGo.st (fun _ q => XS.icmpYes S103.here hx rfl (pc0 := 7) (pc' := 20) rfl (hb hby e8_7) rfl (flt c7).2.1 (by decide) (by decide) q) ?_
        show WGo _ _ _ _ _ _ _ _ T101 (mkF m 20 #[.val (.ref b1), .val (.int (E x1)), .val (.int (E i105)), .val (.int (E n1))] [])
        exact hK5 T101 h102  i105 A106 S103  d104 hf
  exact hL5 T h0  64 A1 S  d0 hf
theorem e5_0 : decode prog_29_method_4_code 0 = .ok (.aload_n 0, 1) := by decide +kernel
theorem e5_1 : decode prog_29_method_4_code 1 = .ok (.getfield 26, 3) := by decide +kernel
theorem e5_4 : decode prog_29_method_4_code 4 = .ok (.arraylength, 1) := by decide +kernel
theorem e5_5 : decode prog_29_method_4_code 5 = .ok (.iconst 1, 1) := by decide +kernel
theorem e5_6 : decode prog_29_method_4_code 6 = .ok (.isub, 1) := by decide +kernel
theorem e5_7 : decode prog_29_method_4_code 7 = .ok (.ireturn, 1) := by decide +kernel
abbrev R_Vc : Room := { frames := 0, cells := 0, slots := 0, locals := 0 }
def fVc {Rt : Type} (n1 : Nat) (A1 : Nat) (Kf : Nat → Option Rt) : Option Rt := capN n1 1000 (subN n1 65 fun z103 => (Kf z103))
def QVc {Rt : Type} (Z : State) (a0 : Array Value) (n0 : Nat) (h0 : Heap) (a1 : Addr) (aF : Addr) (F : List (String × String × Value)) (n1 : Nat) (A1 : Nat) (Kf : Nat → Option Rt) (r : Rt) (v : Option Value) (h : Heap) : Prop := ∃ z : Nat, v = some (.int (E z)) ∧ HS Z a0 n0 h0 [a1, aF] h [ob a1 cE F, ia aF n1 A1] ∧ Kf z = some r
theorem ef_Vc (m : MethodId) (a1 : Addr) : entryFrame m #[(.ref a1)] 1 = mkF m 0 #[.val (.ref a1)] [] := by first | (simp [entryFrame, mkF, argsToLocals, Value.category, maxLocals]; done) | rfl
set_option maxRecDepth 65536 in
set_option maxHeartbeats 40000000 in
theorem rm_Vc {Rt : Type} (l : Launch) (Z : State) (a0 : Array Value) (hw : ∀ d ∈ tables_1, d.before a0 Z = true) (n0 : Nat) (h0 : Heap) (a1 : Addr) (aF : Addr) (F : List (String × String × Value)) (n1 : Nat) (A1 : Nat) (Z0 : n0 ≤ h0.size) (hF1 : FL F 1 "first" "[I" (.ref aF)) (d0 : HS Z a0 n0 h0 [a1, aF] h0 [ob a1 cE F, ia aF n1 A1]) (Kf : Nat → Option Rt) (r : Rt) (hf : fVc n1 A1 Kf = some r) :
    WCon l Z n0 h0 (⟨"com/example/ookayama/ookayama/EdgeEnds", "vertexCount", "()I"⟩ : MethodName) prog_29_method_4_code 1 (some .int) [] R_Vc #[(.ref a1)] (QVc Z a0 n0 h0 a1 aF F n1 A1 Kf r) := by
  refine WCon.of (by first | exact plainFor_of_name (by decide +kernel) | decide +kernel) Z0 ?_
  intro p e s m below meth c T hx hZ hby hml hown hnm hret S
  refine WGo.cast (ef_Vc m a1) ?_
  rw [fVc] at hf
  show WGo _ _ _ _ _ _ _ _ T (mkF m 0 #[.val (.ref a1)] [])
  refine WGo.st (fun _ q => XS.aloadN S.here hx rfl (hb hby e5_0) rfl rfl q) ?_
  refine w_agf S d0 (i := 0) (fi := 1) hown (hwi hw 23 rfl) rfl hF1 rfl rfl (hb hby e5_1) ?_
  intro T101 S102
  show WGo _ _ _ _ _ _ _ _ T101 (mkF m 4 #[.val (.ref a1)] [(.ref aF)])
  refine w_aln S102 d0 (i := 1) rfl rfl (hb hby e5_4) rfl hf ?_
  intro hf
  show WGo _ _ _ _ _ _ _ _ T101 (mkF m 5 #[.val (.ref a1)] [(.int (E n1))])
  refine WGo.st (fun _ q => XS.iconst S102.here hx rfl (hb hby e5_5) q) ?_
  refine w_subN S102 rfl (hb hby e5_6) rfl hf ?_
  intro z103 hf
  show WGo _ _ _ _ _ _ _ _ T101 (mkF m 7 #[.val (.ref a1)] [(.int (E z103))])
  refine w_retI S102 hret (hb hby e5_7) (by decide) (by decide) ?_
  exact ⟨z103, rfl, d0, hf⟩
theorem e6_0 : decode prog_29_method_5_code 0 = .ok (.aload_n 0, 1) := by decide +kernel
theorem e6_1 : decode prog_29_method_5_code 1 = .ok (.getfield 22, 3) := by decide +kernel
theorem e6_4 : decode prog_29_method_5_code 4 = .ok (.arraylength, 1) := by decide +kernel
theorem e6_5 : decode prog_29_method_5_code 5 = .ok (.iconst 2, 1) := by decide +kernel
theorem e6_6 : decode prog_29_method_5_code 6 = .ok (.idiv, 1) := by decide +kernel
theorem e6_7 : decode prog_29_method_5_code 7 = .ok (.ireturn, 1) := by decide +kernel
abbrev R_Ec : Room := { frames := 0, cells := 0, slots := 0, locals := 0 }
def fEc {Rt : Type} (A1 : Nat) (Kf : Option Rt) : Option Rt := capN 70 1000 (Kf )
def QEc {Rt : Type} (Z : State) (a0 : Array Value) (n0 : Nat) (h0 : Heap) (a1 : Addr) (aV : Addr) (F : List (String × String × Value)) (A1 : Nat) (Kf : Option Rt) (r : Rt) (v : Option Value) (h : Heap) : Prop := v = some (.int (E 67)) ∧ HS Z a0 n0 h0 [a1, aV] h [ob a1 cE F, ia aV 70 A1] ∧ Kf  = some r
theorem ef_Ec (m : MethodId) (a1 : Addr) : entryFrame m #[(.ref a1)] 1 = mkF m 0 #[.val (.ref a1)] [] := by first | (simp [entryFrame, mkF, argsToLocals, Value.category, maxLocals]; done) | rfl
set_option maxRecDepth 65536 in
set_option maxHeartbeats 40000000 in
theorem rm_Ec {Rt : Type} (l : Launch) (Z : State) (a0 : Array Value) (hw : ∀ d ∈ tables_1, d.before a0 Z = true) (n0 : Nat) (h0 : Heap) (a1 : Addr) (aV : Addr) (F : List (String × String × Value)) (A1 : Nat) (Z0 : n0 ≤ h0.size) (hF0 : FL F 0 "vertexAt" "[I" (.ref aV)) (d0 : HS Z a0 n0 h0 [a1, aV] h0 [ob a1 cE F, ia aV 70 A1]) (Kf : Option Rt) (r : Rt) (hf : fEc A1 Kf = some r) :
    WCon l Z n0 h0 (⟨"com/example/ookayama/ookayama/EdgeEnds", "edgeCount", "()I"⟩ : MethodName) prog_29_method_5_code 1 (some .int) [] R_Ec #[(.ref a1)] (QEc Z a0 n0 h0 a1 aV F A1 Kf r) := by
  refine WCon.of (by first | exact plainFor_of_name (by decide +kernel) | decide +kernel) Z0 ?_
  intro p e s m below meth c T hx hZ hby hml hown hnm hret S
  refine WGo.cast (ef_Ec m a1) ?_
  rw [fEc] at hf
  show WGo _ _ _ _ _ _ _ _ T (mkF m 0 #[.val (.ref a1)] [])
  refine WGo.st (fun _ q => XS.aloadN S.here hx rfl (hb hby e6_0) rfl rfl q) ?_
  refine w_agf S d0 (i := 0) (fi := 0) hown (hwi hw 21 rfl) rfl hF0 rfl rfl (hb hby e6_1) ?_
  intro T101 S102
  show WGo _ _ _ _ _ _ _ _ T101 (mkF m 4 #[.val (.ref a1)] [(.ref aV)])
  refine w_aln S102 d0 (i := 1) rfl rfl (hb hby e6_4) rfl hf ?_
  intro hf
  show WGo _ _ _ _ _ _ _ _ T101 (mkF m 5 #[.val (.ref a1)] [(.int (E 70))])
  refine WGo.st (fun _ q => XS.iconst S102.here hx rfl (hb hby e6_5) q) ?_
  refine WGo.st (fun _ q => XS.idiv S102.here hx rfl (hb hby e6_6) rfl (by decide) q) ?_
  show WGo _ _ _ _ _ _ _ _ T101 (mkF m 7 #[.val (.ref a1)] [(.int (E 67))])
  refine w_retI S102 hret (hb hby e6_7) (by decide) (by decide) ?_
  exact ⟨rfl, d0, hf⟩
theorem e9_0 : decode prog_29_method_6_code 0 = .ok (.aload_n 0, 1) := by decide +kernel
theorem e9_1 : decode prog_29_method_6_code 1 = .ok (.getfield 26, 3) := by decide +kernel
theorem e9_4 : decode prog_29_method_6_code 4 = .ok (.iload_n 1, 1) := by decide +kernel
theorem e9_5 : decode prog_29_method_6_code 5 = .ok (.iconst 1, 1) := by decide +kernel
theorem e9_6 : decode prog_29_method_6_code 6 = .ok (.iadd, 1) := by decide +kernel
theorem e9_7 : decode prog_29_method_6_code 7 = .ok (.iaload, 1) := by decide +kernel
theorem e9_8 : decode prog_29_method_6_code 8 = .ok (.aload_n 0, 1) := by decide +kernel
theorem e9_9 : decode prog_29_method_6_code 9 = .ok (.getfield 26, 3) := by decide +kernel
theorem e9_12 : decode prog_29_method_6_code 12 = .ok (.iload_n 1, 1) := by decide +kernel
theorem e9_13 : decode prog_29_method_6_code 13 = .ok (.iaload, 1) := by decide +kernel
theorem e9_14 : decode prog_29_method_6_code 14 = .ok (.isub, 1) := by decide +kernel
theorem e9_15 : decode prog_29_method_6_code 15 = .ok (.ireturn, 1) := by decide +kernel
abbrev R_Dg : Room := { frames := 0, cells := 0, slots := 0, locals := 0 }
def fDg {Rt : Type} (n1 : Nat) (A1 : Nat) (x1 : Nat) (Kf : Nat → Option Rt) : Option Rt := addN x1 65 fun z103 => (rdN A1 n1 z103 fun x104 => (rdN A1 n1 x1 fun x107 => (subN x104 x107 fun z108 => (Kf z108))))
def QDg {Rt : Type} (Z : State) (a0 : Array Value) (n0 : Nat) (h0 : Heap) (a1 : Addr) (aF : Addr) (F : List (String × String × Value)) (n1 : Nat) (A1 : Nat) (x1 : Nat) (Kf : Nat → Option Rt) (r : Rt) (v : Option Value) (h : Heap) : Prop := ∃ z : Nat, v = some (.int (E z)) ∧ HS Z a0 n0 h0 [a1, aF] h [ob a1 cE F, ia aF n1 A1] ∧ Kf z = some r
theorem ef_Dg (m : MethodId) (a1 : Addr) (x1 : Nat) : entryFrame m #[(.ref a1), (.int (E x1))] 2 = mkF m 0 #[.val (.ref a1), .val (.int (E x1))] [] := by first | (simp [entryFrame, mkF, argsToLocals, Value.category, maxLocals]; done) | rfl
set_option maxRecDepth 65536 in
set_option maxHeartbeats 40000000 in
theorem rm_Dg {Rt : Type} (l : Launch) (Z : State) (a0 : Array Value) (hw : ∀ d ∈ tables_1, d.before a0 Z = true) (n0 : Nat) (h0 : Heap) (a1 : Addr) (aF : Addr) (F : List (String × String × Value)) (n1 : Nat) (A1 : Nat) (x1 : Nat) (Z0 : n0 ≤ h0.size) (hF1 : FL F 1 "first" "[I" (.ref aF)) (d0 : HS Z a0 n0 h0 [a1, aF] h0 [ob a1 cE F, ia aF n1 A1]) (Kf : Nat → Option Rt) (r : Rt) (hf : fDg n1 A1 x1 Kf = some r) :
    WCon l Z n0 h0 (⟨"com/example/ookayama/ookayama/EdgeEnds", "degree", "(I)I"⟩ : MethodName) prog_29_method_6_code 2 (some .int) [] R_Dg #[(.ref a1), (.int (E x1))] (QDg Z a0 n0 h0 a1 aF F n1 A1 x1 Kf r) := by
  refine WCon.of (by first | exact plainFor_of_name (by decide +kernel) | decide +kernel) Z0 ?_
  intro p e s m below meth c T hx hZ hby hml hown hnm hret S
  refine WGo.cast (ef_Dg m a1 x1) ?_
  rw [fDg] at hf
  show WGo _ _ _ _ _ _ _ _ T (mkF m 0 #[.val (.ref a1), .val (.int (E x1))] [])
  refine WGo.st (fun _ q => XS.aloadN S.here hx rfl (hb hby e9_0) rfl rfl q) ?_
  refine w_agf S d0 (i := 0) (fi := 1) hown (hwi hw 23 rfl) rfl hF1 rfl rfl (hb hby e9_1) ?_
  intro T101 S102
  show WGo _ _ _ _ _ _ _ _ T101 (mkF m 4 #[.val (.ref a1), .val (.int (E x1))] [(.ref aF)])
  refine WGo.st (fun _ q => XS.iloadN S102.here hx rfl (hb hby e9_4) rfl q) ?_
  refine WGo.st (fun _ q => XS.iconst S102.here hx rfl (hb hby e9_5) q) ?_
  refine w_addN S102 rfl (hb hby e9_6) rfl hf ?_
  intro z103 hf
  show WGo _ _ _ _ _ _ _ _ T101 (mkF m 7 #[.val (.ref a1), .val (.int (E x1))] [(.int (E z103)), (.ref aF)])
  refine w_ald S102 d0 (i := 1) rfl rfl (hb hby e9_7) rfl hf ?_
  intro x104 hf
  show WGo _ _ _ _ _ _ _ _ T101 (mkF m 8 #[.val (.ref a1), .val (.int (E x1))] [(.int (E x104))])
  refine WGo.st (fun _ q => XS.aloadN S102.here hx rfl (hb hby e9_8) rfl rfl q) ?_
  refine w_agf S102 d0 (i := 0) (fi := 1) hown (hwi hw 23 rfl) rfl hF1 rfl rfl (hb hby e9_9) ?_
  intro T105 S106
  show WGo _ _ _ _ _ _ _ _ T105 (mkF m 12 #[.val (.ref a1), .val (.int (E x1))] [(.ref aF), (.int (E x104))])
  refine WGo.st (fun _ q => XS.iloadN S106.here hx rfl (hb hby e9_12) rfl q) ?_
  refine w_ald S106 d0 (i := 1) rfl rfl (hb hby e9_13) rfl hf ?_
  intro x107 hf
  show WGo _ _ _ _ _ _ _ _ T105 (mkF m 14 #[.val (.ref a1), .val (.int (E x1))] [(.int (E x107)), (.int (E x104))])
  refine w_subN S106 rfl (hb hby e9_14) rfl hf ?_
  intro z108 hf
  show WGo _ _ _ _ _ _ _ _ T105 (mkF m 15 #[.val (.ref a1), .val (.int (E x1))] [(.int (E z108))])
  refine w_retI S106 hret (hb hby e9_15) (by decide) (by decide) ?_
  exact ⟨z108, rfl, d0, hf⟩
theorem e10_0 : decode prog_29_method_7_code 0 = .ok (.iload_n 2, 1) := by decide +kernel
theorem e10_1 : decode prog_29_method_7_code 1 = .ok (.aload_n 0, 1) := by decide +kernel
theorem e10_2 : decode prog_29_method_7_code 2 = .ok (.iload_n 1, 1) := by decide +kernel
theorem e10_3 : decode prog_29_method_7_code 3 = .ok (.invokevirtual 45, 3) := by decide +kernel
theorem e10_6 : decode prog_29_method_7_code 6 = .ok (.if_icmp .ge 19, 3) := by decide +kernel
theorem e10_9 : decode prog_29_method_7_code 9 = .ok (.aload_n 0, 1) := by decide +kernel
theorem e10_10 : decode prog_29_method_7_code 10 = .ok (.getfield 29, 3) := by decide +kernel
theorem e10_13 : decode prog_29_method_7_code 13 = .ok (.aload_n 0, 1) := by decide +kernel
theorem e10_14 : decode prog_29_method_7_code 14 = .ok (.getfield 26, 3) := by decide +kernel
theorem e10_17 : decode prog_29_method_7_code 17 = .ok (.iload_n 1, 1) := by decide +kernel
theorem e10_18 : decode prog_29_method_7_code 18 = .ok (.iaload, 1) := by decide +kernel
theorem e10_19 : decode prog_29_method_7_code 19 = .ok (.iload_n 2, 1) := by decide +kernel
theorem e10_20 : decode prog_29_method_7_code 20 = .ok (.iadd, 1) := by decide +kernel
theorem e10_21 : decode prog_29_method_7_code 21 = .ok (.iaload, 1) := by decide +kernel
theorem e10_22 : decode prog_29_method_7_code 22 = .ok (.goto 4, 3) := by decide +kernel
theorem e10_25 : decode prog_29_method_7_code 25 = .ok (.iconst (-1), 1) := by decide +kernel
theorem e10_26 : decode prog_29_method_7_code 26 = .ok (.ireturn, 1) := by decide +kernel
abbrev R_Ea : Room := { frames := 1, cells := 0, slots := 0, locals := 14 }
def fEa {Rt : Type} (n1 : Nat) (A1 : Nat) (A2 : Nat) (x1 : Nat) (x2 : Nat) (Kf : Nat → Option Rt) : Option Rt := fDg n1 A1 x1 fun y108 => (ltN x2 y108 (rdN A1 n1 x1 fun x113 => (addN x113 x2 fun z114 => (rdN A2 70 z114 fun x115 => (Kf x115)))) (Kf 63))
def QEa {Rt : Type} (Z : State) (a0 : Array Value) (n0 : Nat) (h0 : Heap) (a1 : Addr) (aF : Addr) (aE : Addr) (F : List (String × String × Value)) (n1 : Nat) (A1 : Nat) (A2 : Nat) (x1 : Nat) (x2 : Nat) (Kf : Nat → Option Rt) (r : Rt) (v : Option Value) (h : Heap) : Prop := ∃ z : Nat, v = some (.int (E z)) ∧ HS Z a0 n0 h0 [a1, aF, aE] h [ob a1 cE F, ia aF n1 A1, ia aE 70 A2] ∧ Kf z = some r
theorem ef_Ea (m : MethodId) (a1 : Addr) (x1 : Nat) (x2 : Nat) : entryFrame m #[(.ref a1), (.int (E x1)), (.int (E x2))] 3 = mkF m 0 #[.val (.ref a1), .val (.int (E x1)), .val (.int (E x2))] [] := by first | (simp [entryFrame, mkF, argsToLocals, Value.category, maxLocals]; done) | rfl
set_option maxRecDepth 65536 in
set_option maxHeartbeats 40000000 in
theorem rm_Ea {Rt : Type} (l : Launch) (Z : State) (a0 : Array Value) (hw : ∀ d ∈ tables_1, d.before a0 Z = true) (n0 : Nat) (h0 : Heap) (a1 : Addr) (aF : Addr) (aE : Addr) (F : List (String × String × Value)) (n1 : Nat) (A1 : Nat) (A2 : Nat) (x1 : Nat) (x2 : Nat) (Z0 : n0 ≤ h0.size) (hF1 : FL F 1 "first" "[I" (.ref aF)) (hF2 : FL F 2 "endsAt" "[I" (.ref aE)) (d0 : HS Z a0 n0 h0 [a1, aF, aE] h0 [ob a1 cE F, ia aF n1 A1, ia aE 70 A2]) (Kf : Nat → Option Rt) (r : Rt) (hf : fEa n1 A1 A2 x1 x2 Kf = some r) :
    WCon l Z n0 h0 (⟨"com/example/ookayama/ookayama/EdgeEnds", "endAt", "(II)I"⟩ : MethodName) prog_29_method_7_code 3 (some .int) [] R_Ea #[(.ref a1), (.int (E x1)), (.int (E x2))] (QEa Z a0 n0 h0 a1 aF aE F n1 A1 A2 x1 x2 Kf r) := by
  refine WCon.of (by first | exact plainFor_of_name (by decide +kernel) | decide +kernel) Z0 ?_
  intro p e s m below meth c T hx hZ hby hml hown hnm hret S
  refine WGo.cast (ef_Ea m a1 x1 x2) ?_
  rw [fEa] at hf
  show WGo _ _ _ _ _ _ _ _ T (mkF m 0 #[.val (.ref a1), .val (.int (E x1)), .val (.int (E x2))] [])
  refine WGo.st (fun _ q => XS.iloadN S.here hx rfl (hb hby e10_0) rfl q) ?_
  refine WGo.st (fun _ q => XS.aloadN S.here hx rfl (hb hby e10_1) rfl rfl q) ?_
  refine WGo.st (fun _ q => XS.iloadN S.here hx rfl (hb hby e10_2) rfl q) ?_
  refine w_virtual S (y := (⟨"com/example/ookayama/ookayama/EdgeEnds", "degree", "(I)I"⟩ : MethodName)) hown (hwi hw 70 rfl) (hwi hw 61 rfl) (hwi hw 63 rfl) (hwi hw 62 rfl) (hwi hw 14 rfl) (hwi hw 64 rfl) (by decide) (HS.obj d0 (i := 0) rfl) (rm_Dg l Z a0 hw n0 h0 a1 aF (F) n1 A1 x1 S.ge (hF1) (HS.pw d0 [0, 1] (by decide) rfl rfl) _ _ hf) (W := 1) (by decide) (by decide) (by decide) (by decide) rfl (by rw [hml]; rfl) (argsL := [(.int (E x1))]) (rest := [(.int (E x2))]) (ps := [.int]) (rt := (some .int)) (by decide) rfl rfl rfl (by show 2 * 0 + _ ≤ _; exact Nat.le_of_eq rfl) (hb hby e10_3) ?_
  intro T101 h103 w104 S102 q105
  obtain ⟨y108, rfl, d106, hf⟩ := q105
  have d107 : HS Z a0 n0 h0 [a1, aF, aE] h103 [ob a1 cE F, ia aF n1 A1, ia aE 70 A2] := HS.call d0 [0, 1] [ob a1 cE F, ia aF n1 A1] [ob a1 cE F, ia aF n1 A1] [] (by decide) rfl rfl d106
  show WGo _ _ _ _ _ _ _ _ T101 (mkF m 6 #[.val (.ref a1), .val (.int (E x1)), .val (.int (E x2))] [(.int (E y108)), (.int (E x2))])
  rcases ltN_some hf with ⟨c6, hf⟩ | ⟨c6, hf⟩
  · refine WGo.st (fun _ q => XS.icmpNo S102.here hx rfl (hb hby e10_6) rfl (tlt c6).2.1 q) ?_
    show WGo _ _ _ _ _ _ _ _ T101 (mkF m 9 #[.val (.ref a1), .val (.int (E x1)), .val (.int (E x2))] [])
    refine WGo.st (fun _ q => XS.aloadN S102.here hx rfl (hb hby e10_9) rfl rfl q) ?_
    refine w_agf S102 d107 (i := 0) (fi := 2) hown (hwi hw 25 rfl) rfl hF2 rfl rfl (hb hby e10_10) ?_
    intro T109 S110
    show WGo _ _ _ _ _ _ _ _ T109 (mkF m 13 #[.val (.ref a1), .val (.int (E x1)), .val (.int (E x2))] [(.ref aE)])
    refine WGo.st (fun _ q => XS.aloadN S110.here hx rfl (hb hby e10_13) rfl rfl q) ?_
    refine w_agf S110 d107 (i := 0) (fi := 1) hown (hwi hw 23 rfl) rfl hF1 rfl rfl (hb hby e10_14) ?_
    intro T111 S112
    show WGo _ _ _ _ _ _ _ _ T111 (mkF m 17 #[.val (.ref a1), .val (.int (E x1)), .val (.int (E x2))] [(.ref aF), (.ref aE)])
    refine WGo.st (fun _ q => XS.iloadN S112.here hx rfl (hb hby e10_17) rfl q) ?_
    refine w_ald S112 d107 (i := 1) rfl rfl (hb hby e10_18) rfl hf ?_
    intro x113 hf
    show WGo _ _ _ _ _ _ _ _ T111 (mkF m 19 #[.val (.ref a1), .val (.int (E x1)), .val (.int (E x2))] [(.int (E x113)), (.ref aE)])
    refine WGo.st (fun _ q => XS.iloadN S112.here hx rfl (hb hby e10_19) rfl q) ?_
    refine w_addN S112 rfl (hb hby e10_20) rfl hf ?_
    intro z114 hf
    show WGo _ _ _ _ _ _ _ _ T111 (mkF m 21 #[.val (.ref a1), .val (.int (E x1)), .val (.int (E x2))] [(.int (E z114)), (.ref aE)])
    refine w_ald S112 d107 (i := 2) rfl rfl (hb hby e10_21) rfl hf ?_
    intro x115 hf
    show WGo _ _ _ _ _ _ _ _ T111 (mkF m 22 #[.val (.ref a1), .val (.int (E x1)), .val (.int (E x2))] [(.int (E x115))])
    refine WGo.st (fun _ q => XS.goto S112.here hx rfl (pc0 := 22) (pc' := 26) rfl (hb hby e10_22) (by decide) (by decide) q) ?_
    show WGo _ _ _ _ _ _ _ _ T111 (mkF m 26 #[.val (.ref a1), .val (.int (E x1)), .val (.int (E x2))] [(.int (E x115))])
    refine w_retI S112 hret (hb hby e10_26) (by decide) (by decide) ?_
    exact ⟨x115, rfl, d107, hf⟩
  · refine WGo.st (fun _ q => XS.icmpYes S102.here hx rfl (pc0 := 6) (pc' := 25) rfl (hb hby e10_6) rfl (flt c6).2.1 (by decide) (by decide) q) ?_
    show WGo _ _ _ _ _ _ _ _ T101 (mkF m 25 #[.val (.ref a1), .val (.int (E x1)), .val (.int (E x2))] [])
    refine WGo.st (fun _ q => XS.iconst S102.here hx rfl (hb hby e10_25) q) ?_
    refine w_retI S102 hret (hb hby e10_26) (by decide) (by decide) ?_
    exact ⟨63, rfl, d107, hf⟩
theorem e11_0 : decode prog_29_method_10_code 0 = .ok (.iload_n 2, 1) := by decide +kernel
theorem e11_1 : decode prog_29_method_10_code 1 = .ok (.aload_n 0, 1) := by decide +kernel
theorem e11_2 : decode prog_29_method_10_code 2 = .ok (.iload_n 1, 1) := by decide +kernel
theorem e11_3 : decode prog_29_method_10_code 3 = .ok (.invokevirtual 45, 3) := by decide +kernel
theorem e11_6 : decode prog_29_method_10_code 6 = .ok (.if_icmp .lt 18, 3) := by decide +kernel
theorem e11_24 : decode prog_29_method_10_code 24 = .ok (.aload_n 0, 1) := by decide +kernel
theorem e11_25 : decode prog_29_method_10_code 25 = .ok (.getfield 32, 3) := by decide +kernel
theorem e11_28 : decode prog_29_method_10_code 28 = .ok (.aload_n 0, 1) := by decide +kernel
theorem e11_29 : decode prog_29_method_10_code 29 = .ok (.getfield 26, 3) := by decide +kernel
theorem e11_32 : decode prog_29_method_10_code 32 = .ok (.iload_n 1, 1) := by decide +kernel
theorem e11_33 : decode prog_29_method_10_code 33 = .ok (.iaload, 1) := by decide +kernel
theorem e11_34 : decode prog_29_method_10_code 34 = .ok (.iload_n 2, 1) := by decide +kernel
theorem e11_35 : decode prog_29_method_10_code 35 = .ok (.iadd, 1) := by decide +kernel
theorem e11_36 : decode prog_29_method_10_code 36 = .ok (.iaload, 1) := by decide +kernel
theorem e11_37 : decode prog_29_method_10_code 37 = .ok (.ireturn, 1) := by decide +kernel
abbrev R_Nb : Room := { frames := 1, cells := 0, slots := 0, locals := 14 }
def fNb {Rt : Type} (n1 : Nat) (A1 : Nat) (A2 : Nat) (x1 : Nat) (x2 : Nat) (Kf : Nat → Option Rt) : Option Rt := fDg n1 A1 x1 fun y108 => (ltN x2 y108 (rdN A1 n1 x1 fun x113 => (addN x113 x2 fun z114 => (rdN A2 70 z114 fun x115 => (Kf x115)))) (none))
def QNb {Rt : Type} (Z : State) (a0 : Array Value) (n0 : Nat) (h0 : Heap) (a1 : Addr) (aF : Addr) (aN : Addr) (F : List (String × String × Value)) (n1 : Nat) (A1 : Nat) (A2 : Nat) (x1 : Nat) (x2 : Nat) (Kf : Nat → Option Rt) (r : Rt) (v : Option Value) (h : Heap) : Prop := ∃ z : Nat, v = some (.int (E z)) ∧ HS Z a0 n0 h0 [a1, aF, aN] h [ob a1 cE F, ia aF n1 A1, ia aN 70 A2] ∧ Kf z = some r
theorem ef_Nb (m : MethodId) (a1 : Addr) (x1 : Nat) (x2 : Nat) : entryFrame m #[(.ref a1), (.int (E x1)), (.int (E x2))] 3 = mkF m 0 #[.val (.ref a1), .val (.int (E x1)), .val (.int (E x2))] [] := by first | (simp [entryFrame, mkF, argsToLocals, Value.category, maxLocals]; done) | rfl
set_option maxRecDepth 65536 in
set_option maxHeartbeats 40000000 in
theorem rm_Nb {Rt : Type} (l : Launch) (Z : State) (a0 : Array Value) (hw : ∀ d ∈ tables_1, d.before a0 Z = true) (n0 : Nat) (h0 : Heap) (a1 : Addr) (aF : Addr) (aN : Addr) (F : List (String × String × Value)) (n1 : Nat) (A1 : Nat) (A2 : Nat) (x1 : Nat) (x2 : Nat) (Z0 : n0 ≤ h0.size) (hF1 : FL F 1 "first" "[I" (.ref aF)) (hF3 : FL F 3 "neighbourAt" "[I" (.ref aN)) (d0 : HS Z a0 n0 h0 [a1, aF, aN] h0 [ob a1 cE F, ia aF n1 A1, ia aN 70 A2]) (Kf : Nat → Option Rt) (r : Rt) (hf : fNb n1 A1 A2 x1 x2 Kf = some r) :
    WCon l Z n0 h0 (⟨"com/example/ookayama/ookayama/EdgeEnds", "neighbour", "(II)I"⟩ : MethodName) prog_29_method_10_code 3 (some .int) [] R_Nb #[(.ref a1), (.int (E x1)), (.int (E x2))] (QNb Z a0 n0 h0 a1 aF aN F n1 A1 A2 x1 x2 Kf r) := by
  refine WCon.of (by first | exact plainFor_of_name (by decide +kernel) | decide +kernel) Z0 ?_
  intro p e s m below meth c T hx hZ hby hml hown hnm hret S
  refine WGo.cast (ef_Nb m a1 x1 x2) ?_
  rw [fNb] at hf
  show WGo _ _ _ _ _ _ _ _ T (mkF m 0 #[.val (.ref a1), .val (.int (E x1)), .val (.int (E x2))] [])
  refine WGo.st (fun _ q => XS.iloadN S.here hx rfl (hb hby e11_0) rfl q) ?_
  refine WGo.st (fun _ q => XS.aloadN S.here hx rfl (hb hby e11_1) rfl rfl q) ?_
  refine WGo.st (fun _ q => XS.iloadN S.here hx rfl (hb hby e11_2) rfl q) ?_
  refine w_virtual S (y := (⟨"com/example/ookayama/ookayama/EdgeEnds", "degree", "(I)I"⟩ : MethodName)) hown (hwi hw 70 rfl) (hwi hw 61 rfl) (hwi hw 63 rfl) (hwi hw 62 rfl) (hwi hw 14 rfl) (hwi hw 64 rfl) (by decide) (HS.obj d0 (i := 0) rfl) (rm_Dg l Z a0 hw n0 h0 a1 aF (F) n1 A1 x1 S.ge (hF1) (HS.pw d0 [0, 1] (by decide) rfl rfl) _ _ hf) (W := 1) (by decide) (by decide) (by decide) (by decide) rfl (by rw [hml]; rfl) (argsL := [(.int (E x1))]) (rest := [(.int (E x2))]) (ps := [.int]) (rt := (some .int)) (by decide) rfl rfl rfl (by show 2 * 0 + _ ≤ _; exact Nat.le_of_eq rfl) (hb hby e11_3) ?_
  intro T101 h103 w104 S102 q105
  obtain ⟨y108, rfl, d106, hf⟩ := q105
  have d107 : HS Z a0 n0 h0 [a1, aF, aN] h103 [ob a1 cE F, ia aF n1 A1, ia aN 70 A2] := HS.call d0 [0, 1] [ob a1 cE F, ia aF n1 A1] [ob a1 cE F, ia aF n1 A1] [] (by decide) rfl rfl d106
  show WGo _ _ _ _ _ _ _ _ T101 (mkF m 6 #[.val (.ref a1), .val (.int (E x1)), .val (.int (E x2))] [(.int (E y108)), (.int (E x2))])
  rcases ltN_some hf with ⟨c6, hf⟩ | ⟨c6, hf⟩
  · refine WGo.st (fun _ q => XS.icmpYes S102.here hx rfl (pc0 := 6) (pc' := 24) rfl (hb hby e11_6) rfl (tlt c6).1 (by decide) (by decide) q) ?_
    show WGo _ _ _ _ _ _ _ _ T101 (mkF m 24 #[.val (.ref a1), .val (.int (E x1)), .val (.int (E x2))] [])
    refine WGo.st (fun _ q => XS.aloadN S102.here hx rfl (hb hby e11_24) rfl rfl q) ?_
    refine w_agf S102 d107 (i := 0) (fi := 3) hown (hwi hw 27 rfl) rfl hF3 rfl rfl (hb hby e11_25) ?_
    intro T109 S110
    show WGo _ _ _ _ _ _ _ _ T109 (mkF m 28 #[.val (.ref a1), .val (.int (E x1)), .val (.int (E x2))] [(.ref aN)])
    refine WGo.st (fun _ q => XS.aloadN S110.here hx rfl (hb hby e11_28) rfl rfl q) ?_
    refine w_agf S110 d107 (i := 0) (fi := 1) hown (hwi hw 23 rfl) rfl hF1 rfl rfl (hb hby e11_29) ?_
    intro T111 S112
    show WGo _ _ _ _ _ _ _ _ T111 (mkF m 32 #[.val (.ref a1), .val (.int (E x1)), .val (.int (E x2))] [(.ref aF), (.ref aN)])
    refine WGo.st (fun _ q => XS.iloadN S112.here hx rfl (hb hby e11_32) rfl q) ?_
    refine w_ald S112 d107 (i := 1) rfl rfl (hb hby e11_33) rfl hf ?_
    intro x113 hf
    show WGo _ _ _ _ _ _ _ _ T111 (mkF m 34 #[.val (.ref a1), .val (.int (E x1)), .val (.int (E x2))] [(.int (E x113)), (.ref aN)])
    refine WGo.st (fun _ q => XS.iloadN S112.here hx rfl (hb hby e11_34) rfl q) ?_
    refine w_addN S112 rfl (hb hby e11_35) rfl hf ?_
    intro z114 hf
    show WGo _ _ _ _ _ _ _ _ T111 (mkF m 36 #[.val (.ref a1), .val (.int (E x1)), .val (.int (E x2))] [(.int (E z114)), (.ref aN)])
    refine w_ald S112 d107 (i := 2) rfl rfl (hb hby e11_36) rfl hf ?_
    intro x115 hf
    show WGo _ _ _ _ _ _ _ _ T111 (mkF m 37 #[.val (.ref a1), .val (.int (E x1)), .val (.int (E x2))] [(.int (E x115))])
    refine w_retI S112 hret (hb hby e11_37) (by decide) (by decide) ?_
    exact ⟨x115, rfl, d107, hf⟩
  · refine WGo.st (fun _ q => XS.icmpNo S102.here hx rfl (hb hby e11_6) rfl (flt c6).1 q) ?_
    show WGo _ _ _ _ _ _ _ _ T101 (mkF m 9 #[.val (.ref a1), .val (.int (E x1)), .val (.int (E x2))] [])
    cases hf
theorem e2_0 : decode prog_29_method_2_code 0 = .ok (.aload_n 0, 1) := by decide +kernel
theorem e2_1 : decode prog_29_method_2_code 1 = .ok (.invokespecial 17, 3) := by decide +kernel
theorem e2_4 : decode prog_29_method_2_code 4 = .ok (.aload_n 0, 1) := by decide +kernel
theorem e2_5 : decode prog_29_method_2_code 5 = .ok (.aload_n 2, 1) := by decide +kernel
theorem e2_6 : decode prog_29_method_2_code 6 = .ok (.putfield 22, 3) := by decide +kernel
theorem e2_9 : decode prog_29_method_2_code 9 = .ok (.aload_n 0, 1) := by decide +kernel
theorem e2_10 : decode prog_29_method_2_code 10 = .ok (.iload_n 1, 1) := by decide +kernel
theorem e2_11 : decode prog_29_method_2_code 11 = .ok (.iconst 1, 1) := by decide +kernel
theorem e2_12 : decode prog_29_method_2_code 12 = .ok (.iadd, 1) := by decide +kernel
theorem e2_13 : decode prog_29_method_2_code 13 = .ok (.newarray .int, 2) := by decide +kernel
theorem e2_15 : decode prog_29_method_2_code 15 = .ok (.putfield 26, 3) := by decide +kernel
theorem e2_18 : decode prog_29_method_2_code 18 = .ok (.aload_n 2, 1) := by decide +kernel
theorem e2_19 : decode prog_29_method_2_code 19 = .ok (.astore_n 3, 1) := by decide +kernel
theorem e2_20 : decode prog_29_method_2_code 20 = .ok (.aload_n 3, 1) := by decide +kernel
theorem e2_21 : decode prog_29_method_2_code 21 = .ok (.arraylength, 1) := by decide +kernel
theorem e2_22 : decode prog_29_method_2_code 22 = .ok (.istore 4, 2) := by decide +kernel
theorem e2_24 : decode prog_29_method_2_code 24 = .ok (.iconst 0, 1) := by decide +kernel
theorem e2_25 : decode prog_29_method_2_code 25 = .ok (.istore 5, 2) := by decide +kernel
theorem e2_27 : decode prog_29_method_2_code 27 = .ok (.iload 5, 2) := by decide +kernel
theorem e2_29 : decode prog_29_method_2_code 29 = .ok (.iload 4, 2) := by decide +kernel
theorem e2_31 : decode prog_29_method_2_code 31 = .ok (.if_icmp .ge 28, 3) := by decide +kernel
theorem e2_34 : decode prog_29_method_2_code 34 = .ok (.aload_n 3, 1) := by decide +kernel
theorem e2_35 : decode prog_29_method_2_code 35 = .ok (.iload 5, 2) := by decide +kernel
theorem e2_37 : decode prog_29_method_2_code 37 = .ok (.iaload, 1) := by decide +kernel
theorem e2_38 : decode prog_29_method_2_code 38 = .ok (.istore 6, 2) := by decide +kernel
theorem e2_40 : decode prog_29_method_2_code 40 = .ok (.aload_n 0, 1) := by decide +kernel
theorem e2_41 : decode prog_29_method_2_code 41 = .ok (.getfield 26, 3) := by decide +kernel
theorem e2_44 : decode prog_29_method_2_code 44 = .ok (.iload 6, 2) := by decide +kernel
theorem e2_46 : decode prog_29_method_2_code 46 = .ok (.iconst 1, 1) := by decide +kernel
theorem e2_47 : decode prog_29_method_2_code 47 = .ok (.iadd, 1) := by decide +kernel
theorem e2_48 : decode prog_29_method_2_code 48 = .ok (.dup2, 1) := by decide +kernel
theorem e2_49 : decode prog_29_method_2_code 49 = .ok (.iaload, 1) := by decide +kernel
theorem e2_50 : decode prog_29_method_2_code 50 = .ok (.iconst 1, 1) := by decide +kernel
theorem e2_51 : decode prog_29_method_2_code 51 = .ok (.iadd, 1) := by decide +kernel
theorem e2_52 : decode prog_29_method_2_code 52 = .ok (.iastore, 1) := by decide +kernel
theorem e2_53 : decode prog_29_method_2_code 53 = .ok (.iinc 5 1, 3) := by decide +kernel
theorem e2_56 : decode prog_29_method_2_code 56 = .ok (.goto (-29), 3) := by decide +kernel
theorem e2_59 : decode prog_29_method_2_code 59 = .ok (.iconst 0, 1) := by decide +kernel
theorem e2_60 : decode prog_29_method_2_code 60 = .ok (.istore_n 3, 1) := by decide +kernel
theorem e2_61 : decode prog_29_method_2_code 61 = .ok (.iload_n 3, 1) := by decide +kernel
theorem e2_62 : decode prog_29_method_2_code 62 = .ok (.iload_n 1, 1) := by decide +kernel
theorem e2_63 : decode prog_29_method_2_code 63 = .ok (.if_icmp .ge 26, 3) := by decide +kernel
theorem e2_66 : decode prog_29_method_2_code 66 = .ok (.aload_n 0, 1) := by decide +kernel
theorem e2_67 : decode prog_29_method_2_code 67 = .ok (.getfield 26, 3) := by decide +kernel
theorem e2_70 : decode prog_29_method_2_code 70 = .ok (.iload_n 3, 1) := by decide +kernel
theorem e2_71 : decode prog_29_method_2_code 71 = .ok (.iconst 1, 1) := by decide +kernel
theorem e2_72 : decode prog_29_method_2_code 72 = .ok (.iadd, 1) := by decide +kernel
theorem e2_73 : decode prog_29_method_2_code 73 = .ok (.dup2, 1) := by decide +kernel
theorem e2_74 : decode prog_29_method_2_code 74 = .ok (.iaload, 1) := by decide +kernel
theorem e2_75 : decode prog_29_method_2_code 75 = .ok (.aload_n 0, 1) := by decide +kernel
theorem e2_76 : decode prog_29_method_2_code 76 = .ok (.getfield 26, 3) := by decide +kernel
theorem e2_79 : decode prog_29_method_2_code 79 = .ok (.iload_n 3, 1) := by decide +kernel
theorem e2_80 : decode prog_29_method_2_code 80 = .ok (.iaload, 1) := by decide +kernel
theorem e2_81 : decode prog_29_method_2_code 81 = .ok (.iadd, 1) := by decide +kernel
theorem e2_82 : decode prog_29_method_2_code 82 = .ok (.iastore, 1) := by decide +kernel
theorem e2_83 : decode prog_29_method_2_code 83 = .ok (.iinc 3 1, 3) := by decide +kernel
theorem e2_86 : decode prog_29_method_2_code 86 = .ok (.goto (-25), 3) := by decide +kernel
theorem e2_89 : decode prog_29_method_2_code 89 = .ok (.aload_n 0, 1) := by decide +kernel
theorem e2_90 : decode prog_29_method_2_code 90 = .ok (.aload_n 2, 1) := by decide +kernel
theorem e2_91 : decode prog_29_method_2_code 91 = .ok (.arraylength, 1) := by decide +kernel
theorem e2_92 : decode prog_29_method_2_code 92 = .ok (.newarray .int, 2) := by decide +kernel
theorem e2_94 : decode prog_29_method_2_code 94 = .ok (.putfield 29, 3) := by decide +kernel
theorem e2_97 : decode prog_29_method_2_code 97 = .ok (.aload_n 0, 1) := by decide +kernel
theorem e2_98 : decode prog_29_method_2_code 98 = .ok (.aload_n 2, 1) := by decide +kernel
theorem e2_99 : decode prog_29_method_2_code 99 = .ok (.arraylength, 1) := by decide +kernel
theorem e2_100 : decode prog_29_method_2_code 100 = .ok (.newarray .int, 2) := by decide +kernel
theorem e2_102 : decode prog_29_method_2_code 102 = .ok (.putfield 32, 3) := by decide +kernel
theorem e2_105 : decode prog_29_method_2_code 105 = .ok (.iload_n 1, 1) := by decide +kernel
theorem e2_106 : decode prog_29_method_2_code 106 = .ok (.newarray .int, 2) := by decide +kernel
theorem e2_108 : decode prog_29_method_2_code 108 = .ok (.astore_n 3, 1) := by decide +kernel
theorem e2_109 : decode prog_29_method_2_code 109 = .ok (.iconst 0, 1) := by decide +kernel
theorem e2_110 : decode prog_29_method_2_code 110 = .ok (.istore 4, 2) := by decide +kernel
theorem e2_112 : decode prog_29_method_2_code 112 = .ok (.iload 4, 2) := by decide +kernel
theorem e2_114 : decode prog_29_method_2_code 114 = .ok (.aload_n 2, 1) := by decide +kernel
theorem e2_115 : decode prog_29_method_2_code 115 = .ok (.arraylength, 1) := by decide +kernel
theorem e2_116 : decode prog_29_method_2_code 116 = .ok (.if_icmp .ge 56, 3) := by decide +kernel
theorem e2_119 : decode prog_29_method_2_code 119 = .ok (.aload_n 2, 1) := by decide +kernel
theorem e2_120 : decode prog_29_method_2_code 120 = .ok (.iload 4, 2) := by decide +kernel
theorem e2_122 : decode prog_29_method_2_code 122 = .ok (.iaload, 1) := by decide +kernel
theorem e2_123 : decode prog_29_method_2_code 123 = .ok (.istore 5, 2) := by decide +kernel
theorem e2_125 : decode prog_29_method_2_code 125 = .ok (.aload_n 0, 1) := by decide +kernel
theorem e2_126 : decode prog_29_method_2_code 126 = .ok (.getfield 26, 3) := by decide +kernel
theorem e2_129 : decode prog_29_method_2_code 129 = .ok (.iload 5, 2) := by decide +kernel
theorem e2_131 : decode prog_29_method_2_code 131 = .ok (.iaload, 1) := by decide +kernel
theorem e2_132 : decode prog_29_method_2_code 132 = .ok (.aload_n 3, 1) := by decide +kernel
theorem e2_133 : decode prog_29_method_2_code 133 = .ok (.iload 5, 2) := by decide +kernel
theorem e2_135 : decode prog_29_method_2_code 135 = .ok (.dup2, 1) := by decide +kernel
theorem e2_136 : decode prog_29_method_2_code 136 = .ok (.iaload, 1) := by decide +kernel
theorem e2_137 : decode prog_29_method_2_code 137 = .ok (.dup_x2, 1) := by decide +kernel
theorem e2_138 : decode prog_29_method_2_code 138 = .ok (.iconst 1, 1) := by decide +kernel
theorem e2_139 : decode prog_29_method_2_code 139 = .ok (.iadd, 1) := by decide +kernel
theorem e2_140 : decode prog_29_method_2_code 140 = .ok (.iastore, 1) := by decide +kernel
theorem e2_141 : decode prog_29_method_2_code 141 = .ok (.iadd, 1) := by decide +kernel
theorem e2_142 : decode prog_29_method_2_code 142 = .ok (.istore 6, 2) := by decide +kernel
theorem e2_144 : decode prog_29_method_2_code 144 = .ok (.aload_n 0, 1) := by decide +kernel
theorem e2_145 : decode prog_29_method_2_code 145 = .ok (.getfield 29, 3) := by decide +kernel
theorem e2_148 : decode prog_29_method_2_code 148 = .ok (.iload 6, 2) := by decide +kernel
theorem e2_150 : decode prog_29_method_2_code 150 = .ok (.iload 4, 2) := by decide +kernel
theorem e2_152 : decode prog_29_method_2_code 152 = .ok (.iastore, 1) := by decide +kernel
theorem e2_153 : decode prog_29_method_2_code 153 = .ok (.aload_n 0, 1) := by decide +kernel
theorem e2_154 : decode prog_29_method_2_code 154 = .ok (.getfield 32, 3) := by decide +kernel
theorem e2_157 : decode prog_29_method_2_code 157 = .ok (.iload 6, 2) := by decide +kernel
theorem e2_159 : decode prog_29_method_2_code 159 = .ok (.aload_n 2, 1) := by decide +kernel
theorem e2_160 : decode prog_29_method_2_code 160 = .ok (.iload 4, 2) := by decide +kernel
theorem e2_162 : decode prog_29_method_2_code 162 = .ok (.iconst 1, 1) := by decide +kernel
theorem e2_163 : decode prog_29_method_2_code 163 = .ok (.ixor, 1) := by decide +kernel
theorem e2_164 : decode prog_29_method_2_code 164 = .ok (.iaload, 1) := by decide +kernel
theorem e2_165 : decode prog_29_method_2_code 165 = .ok (.iastore, 1) := by decide +kernel
theorem e2_166 : decode prog_29_method_2_code 166 = .ok (.iinc 4 1, 3) := by decide +kernel
theorem e2_169 : decode prog_29_method_2_code 169 = .ok (.goto (-57), 3) := by decide +kernel
theorem e2_172 : decode prog_29_method_2_code 172 = .ok (.return_, 1) := by decide +kernel
abbrev R_Ei : Room := { frames := 1, cells := 4, slots := 21, locals := 12 }
def fEi_L112b {Rt : Type} (x1 : Nat) (A1 : Nat) (z107 : Nat) (A129 : Nat) (Kx112 : Nat → Nat → Nat → Nat → Option Rt) (gv112 : Nat → Nat → Nat → Nat → Option Rt) (i157 : Nat) (A158 : Nat) (A159 : Nat) (A160 : Nat) : Option Rt := capN 70 1000 (ltN i157 70 (rdN A1 70 i157 fun x163 => (rdN A129 z107 x163 fun x166 => (rdN A160 x1 x163 fun x167 => (addN x167 65 fun z168 => (wrN A160 x1 x163 z168 fun A169 => (addN x166 x167 fun z174 => (wrN A158 70 z174 i157 fun A177 => (xorN i157 fun z184 => (rdN A1 70 z184 fun x185 => (wrN A159 70 z174 x185 fun A186 => (addN i157 65 fun z191 => (gv112 z191 A177 A186 A169)))))))))))) (Kx112 i157 A158 A159 A160))
def fEi_L112 {Rt : Type} (x1 : Nat) (A1 : Nat) (z107 : Nat) (A129 : Nat) (Kx112 : Nat → Nat → Nat → Nat → Option Rt) : Nat → Nat → Nat → Nat → Option Rt := it8 (fEi_L112b x1 A1 z107 A129 Kx112) (fun _ _ _ _ => none)
def fEi_L61b {Rt : Type} (x1 : Nat) (z107 : Nat) (Kx61 : Nat → Nat → Option Rt) (gv61 : Nat → Nat → Option Rt) (i128 : Nat) (A129 : Nat) : Option Rt := ltN i128 x1 (addN i128 65 fun z194 => (rdN A129 z107 z194 fun x195 => (rdN A129 z107 i128 fun x198 => (addN x195 x198 fun z199 => (wrN A129 z107 z194 z199 fun A200 => (addN i128 65 fun z205 => (gv61 z205 A200))))))) (Kx61 i128 A129)
def fEi_L61 {Rt : Type} (x1 : Nat) (z107 : Nat) (Kx61 : Nat → Nat → Option Rt) : Nat → Nat → Option Rt := it8 (fEi_L61b x1 z107 Kx61) (fun _ _ => none)
def fEi_L27b {Rt : Type} (A1 : Nat) (z107 : Nat) (Kx27 : Nat → Nat → Option Rt) (gv27 : Nat → Nat → Option Rt) (i121 : Nat) (A122 : Nat) : Option Rt := ltN i121 70 (rdN A1 70 i121 fun x206 => (addN x206 65 fun z209 => (rdN A122 z107 z209 fun x210 => (addN x210 65 fun z211 => (wrN A122 z107 z209 z211 fun A212 => (addN i121 65 fun z217 => (gv27 z217 A212))))))) (Kx27 i121 A122)
def fEi_L27 {Rt : Type} (A1 : Nat) (z107 : Nat) (Kx27 : Nat → Nat → Option Rt) : Nat → Nat → Option Rt := it8 (fEi_L27b A1 z107 Kx27) (fun _ _ => none)
def fEi {Rt : Type} (x1 : Nat) (A1 : Nat) (Kf : Nat → Nat → Nat → Nat → Option Rt) : Option Rt := addN x1 65 fun z107 => (capN z107 5 (capN 70 1000 (fEi_L27 A1 z107 (fun i121 A122 => fEi_L61 x1 z107 (fun i128 A129 => capN 70 1000 (capN 70 6 (capN 70 1000 (capN 70 6 (capN x1 4 (fEi_L112 x1 A1 z107 A129 (fun i157 A158 A159 A160 => Kf A129 A158 A159 z107) 64 AZ AZ AZ)))))) 64 A122) 64 AZ)))
def QEi {Rt : Type} (Z : State) (a0 : Array Value) (n0 : Nat) (h0 : Heap) (a1 : Addr) (aV : Addr) (x1 : Nat) (A1 : Nat) (Kf : Nat → Nat → Nat → Nat → Option Rt) (r : Rt) (v : Option Value) (h : Heap) : Prop := ∃ b1 : Addr, ∃ b2 : Addr, ∃ b3 : Addr, ∃ B1 : Nat, ∃ B2 : Nat, ∃ B3 : Nat, ∃ nf : Nat, v = none ∧ HS Z a0 n0 h0 [a1, aV] h [ob a1 cE [("vertexAt", "[I", (.ref aV)), ("first", "[I", (.ref b1)), ("endsAt", "[I", (.ref b2)), ("neighbourAt", "[I", (.ref b3))], ia aV 70 A1, ia b1 nf B1, ia b2 70 B2, ia b3 70 B3] ∧ Kf B1 B2 B3 nf = some r
theorem ef_Ei (m : MethodId) (a1 : Addr) (aV : Addr) (x1 : Nat) : entryFrame m #[(.ref a1), (.int (E x1)), (.ref aV)] 7 = mkF m 0 #[.val (.ref a1), .val (.int (E x1)), .val (.ref aV), .unset, .unset, .unset, .unset] [] := by first | (simp [entryFrame, mkF, argsToLocals, Value.category, maxLocals]; done) | rfl
set_option maxRecDepth 65536 in
set_option maxHeartbeats 40000000 in
theorem rm_Ei {Rt : Type} (l : Launch) (Z : State) (a0 : Array Value) (hw : ∀ d ∈ tables_1, d.before a0 Z = true) (n0 : Nat) (h0 : Heap) (a1 : Addr) (aV : Addr) (x1 : Nat) (A1 : Nat) (Z0 : n0 ≤ h0.size)  (d0 : HS Z a0 n0 h0 [a1, aV] h0 [ob a1 cE [("vertexAt", "[I", (.null)), ("first", "[I", (.null)), ("endsAt", "[I", (.null)), ("neighbourAt", "[I", (.null))], ia aV 70 A1]) (Kf : Nat → Nat → Nat → Nat → Option Rt) (r : Rt) (hf : fEi x1 A1 Kf = some r) :
    WCon l Z n0 h0 (⟨"com/example/ookayama/ookayama/EdgeEnds", "<init>", "(I[I)V"⟩ : MethodName) prog_29_method_2_code 7 none [] R_Ei #[(.ref a1), (.int (E x1)), (.ref aV)] (QEi Z a0 n0 h0 a1 aV x1 A1 Kf r) := by
  refine WCon.of (by first | exact plainFor_of_name (by decide +kernel) | decide +kernel) Z0 ?_
  intro p e s m below meth c T hx hZ hby hml hown hnm hret S
  refine WGo.cast (ef_Ei m a1 aV x1) ?_
  rw [fEi] at hf
  show WGo _ _ _ _ _ _ _ _ T (mkF m 0 #[.val (.ref a1), .val (.int (E x1)), .val (.ref aV), .unset, .unset, .unset, .unset] [])
  refine WGo.st (fun _ q => XS.aloadN S.here hx rfl (hb hby e2_0) rfl rfl q) ?_
  refine w_objinit S hown (hwi hw 18 rfl) (hwi hw 19 rfl) (hwi hw 20 rfl) rfl (by rw [hml]; rfl) rfl (hb hby e2_1) (by decide) (W := 0) (by show 2 * 0 + _ ≤ _; exact Nat.le_of_eq rfl) (by decide) ?_
  intro T101 S102
  show WGo _ _ _ _ _ _ _ _ T101 (mkF m 4 #[.val (.ref a1), .val (.int (E x1)), .val (.ref aV), .unset, .unset, .unset, .unset] [])
  refine WGo.st (fun _ q => XS.aloadN S102.here hx rfl (hb hby e2_4) rfl rfl q) ?_
  refine WGo.st (fun _ q => XS.aloadN S102.here hx rfl (hb hby e2_5) rfl rfl q) ?_
  refine w_apf S102 d0 (i := 0) (fi := 0) hown (hwi hw 21 rfl) rfl rfl (Or.inr ⟨(hwi hw 22 rfl), rfl, hnm⟩) (hwi hw 13 rfl) (ty := (.array .int)) (by decide) rfl rfl rfl rfl (hb hby e2_6) ?_
  intro T103 h104 S105 d106
  show WGo _ _ _ _ _ _ _ _ T103 (mkF m 9 #[.val (.ref a1), .val (.int (E x1)), .val (.ref aV), .unset, .unset, .unset, .unset] [])
  refine WGo.st (fun _ q => XS.aloadN S105.here hx rfl (hb hby e2_9) rfl rfl q) ?_
  refine WGo.st (fun _ q => XS.iloadN S105.here hx rfl (hb hby e2_10) rfl q) ?_
  refine WGo.st (fun _ q => XS.iconst S105.here hx rfl (hb hby e2_11) q) ?_
  refine w_addN S105 rfl (hb hby e2_12) rfl hf ?_
  intro z107 hf
  show WGo _ _ _ _ _ _ _ _ T103 (mkF m 13 #[.val (.ref a1), .val (.int (E x1)), .val (.ref aV), .unset, .unset, .unset, .unset] [(.int (E z107)), (.ref a1)])
  refine w_anw S105 d106 (hwi hw 0 rfl) rfl rfl (hb hby e2_13) rfl (cap := 5) hf (by decide) (by decide) (by decide) ?_
  intro T109 h110 a108 S111 d112 hf
  show WGo _ _ _ _ _ _ _ _ T109 (mkF m 15 #[.val (.ref a1), .val (.int (E x1)), .val (.ref aV), .unset, .unset, .unset, .unset] [(.ref a108), (.ref a1)])
  refine w_apf S111 d112 (i := 0) (fi := 1) hown (hwi hw 23 rfl) rfl rfl (Or.inr ⟨(hwi hw 24 rfl), rfl, hnm⟩) (hwi hw 13 rfl) (ty := (.array .int)) (by decide) rfl rfl rfl rfl (hb hby e2_15) ?_
  intro T113 h114 S115 d116
  show WGo _ _ _ _ _ _ _ _ T113 (mkF m 18 #[.val (.ref a1), .val (.int (E x1)), .val (.ref aV), .unset, .unset, .unset, .unset] [])
  refine WGo.st (fun _ q => XS.aloadN S115.here hx rfl (hb hby e2_18) rfl rfl q) ?_
  refine WGo.st (fun _ q => XS.astoreN S115.here hx rfl (hb hby e2_19) rfl rfl (l' := #[.val (.ref a1), .val (.int (E x1)), .val (.ref aV), .val (.ref aV), .unset, .unset, .unset]) rfl q) ?_
  show WGo _ _ _ _ _ _ _ _ T113 (mkF m 20 #[.val (.ref a1), .val (.int (E x1)), .val (.ref aV), .val (.ref aV), .unset, .unset, .unset] [])
  refine WGo.st (fun _ q => XS.aloadN S115.here hx rfl (hb hby e2_20) rfl rfl q) ?_
  refine w_aln S115 d116 (i := 1) rfl rfl (hb hby e2_21) rfl hf ?_
  intro hf
  show WGo _ _ _ _ _ _ _ _ T113 (mkF m 22 #[.val (.ref a1), .val (.int (E x1)), .val (.ref aV), .val (.ref aV), .unset, .unset, .unset] [(.int (E 70))])
  refine WGo.st (fun _ q => XS.istore S115.here hx rfl (hb hby e2_22) rfl (l' := #[.val (.ref a1), .val (.int (E x1)), .val (.ref aV), .val (.ref aV), .val (.int (E 70)), .unset, .unset]) rfl q) ?_
  show WGo _ _ _ _ _ _ _ _ T113 (mkF m 24 #[.val (.ref a1), .val (.int (E x1)), .val (.ref aV), .val (.ref aV), .val (.int (E 70)), .unset, .unset] [])
  refine WGo.st (fun _ q => XS.iconst S115.here hx rfl (hb hby e2_24) q) ?_
  refine WGo.st (fun _ q => XS.istore S115.here hx rfl (hb hby e2_25) rfl (l' := #[.val (.ref a1), .val (.int (E x1)), .val (.ref aV), .val (.ref aV), .val (.int (E 70)), .val (.int (E 64)), .unset]) rfl q) ?_
  show WGo _ _ _ _ _ _ _ _ T113 (mkF m 27 #[.val (.ref a1), .val (.int (E x1)), .val (.ref aV), .val (.ref aV), .val (.int (E 70)), .val (.int (E 64)), .unset] [])
  obtain ⟨Kx27, eKx27⟩ : ∃ K : Nat → Nat → Option Rt, K = (fun i121 A122 => fEi_L61 x1 z107 (fun i128 A129 => capN 70 1000 (capN 70 6 (capN 70 1000 (capN 70 6 (capN x1 4 (fEi_L112 x1 A1 z107 A129 (fun i157 A158 A159 A160 => Kf A129 A158 A159 z107) 64 AZ AZ AZ)))))) 64 A122) := ⟨_, rfl⟩
  rw [← eKx27] at hf
  have hK27 : ∀ (T117 : State) (h118 : Heap) (u123 : Slot) (i121 : Nat) (A122 : Nat), WSt p l e R_Ei s m #[(.ref a1), (.int (E x1)), (.ref aV)] below meth c Z n0 T117 h118 (1) (5) → One u123 → HS Z a0 n0 h0 [a1, aV] h118 [ob a1 cE [("vertexAt", "[I", (.ref aV)), ("first", "[I", (.ref a108)), ("endsAt", "[I", (.null)), ("neighbourAt", "[I", (.null))], ia aV 70 A1, ia a108 z107 A122] → Kx27 i121 A122 = some r → WGo p e below s n0 (QEi Z a0 n0 h0 a1 aV x1 A1 Kf r) R_Ei.cells R_Ei.slots T117 (mkF m 59 #[.val (.ref a1), .val (.int (E x1)), .val (.ref aV), .val (.ref aV), .val (.int (E 70)), .val (.int (E i121)), u123] []) := by
    intro T117 h118 u123 i121 A122 S119 hu123 d120 hf
    rw [eKx27] at hf
    show WGo _ _ _ _ _ _ _ _ T117 (mkF m 59 #[.val (.ref a1), .val (.int (E x1)), .val (.ref aV), .val (.ref aV), .val (.int (E 70)), .val (.int (E i121)), u123] [])
    refine WGo.st (fun _ q => XS.iconst S119.here hx rfl (hb hby e2_59) q) ?_
    refine WGo.st (fun _ q => XS.istoreN S119.here hx rfl (hb hby e2_60) rfl (l' := #[.val (.ref a1), .val (.int (E x1)), .val (.ref aV), .val (.int (E 64)), .val (.int (E 70)), .val (.int (E i121)), u123]) rfl q) ?_
    show WGo _ _ _ _ _ _ _ _ T117 (mkF m 61 #[.val (.ref a1), .val (.int (E x1)), .val (.ref aV), .val (.int (E 64)), .val (.int (E 70)), .val (.int (E i121)), u123] [])
    obtain ⟨Kx61, eKx61⟩ : ∃ K : Nat → Nat → Option Rt, K = (fun i128 A129 => capN 70 1000 (capN 70 6 (capN 70 1000 (capN 70 6 (capN x1 4 (fEi_L112 x1 A1 z107 A129 (fun i157 A158 A159 A160 => Kf A129 A158 A159 z107) 64 AZ AZ AZ)))))) := ⟨_, rfl⟩
    rw [← eKx61] at hf
    have hK61 : ∀ (T124 : State) (h125 : Heap) (i128 : Nat) (A129 : Nat), WSt p l e R_Ei s m #[(.ref a1), (.int (E x1)), (.ref aV)] below meth c Z n0 T124 h125 (1) (5) → HS Z a0 n0 h0 [a1, aV] h125 [ob a1 cE [("vertexAt", "[I", (.ref aV)), ("first", "[I", (.ref a108)), ("endsAt", "[I", (.null)), ("neighbourAt", "[I", (.null))], ia aV 70 A1, ia a108 z107 A129] → Kx61 i128 A129 = some r → WGo p e below s n0 (QEi Z a0 n0 h0 a1 aV x1 A1 Kf r) R_Ei.cells R_Ei.slots T124 (mkF m 89 #[.val (.ref a1), .val (.int (E x1)), .val (.ref aV), .val (.int (E i128)), .val (.int (E 70)), .val (.int (E i121)), u123] []) := by
      intro T124 h125  i128 A129 S126  d127 hf
      rw [eKx61] at hf
      show WGo _ _ _ _ _ _ _ _ T124 (mkF m 89 #[.val (.ref a1), .val (.int (E x1)), .val (.ref aV), .val (.int (E i128)), .val (.int (E 70)), .val (.int (E i121)), u123] [])
      refine WGo.st (fun _ q => XS.aloadN S126.here hx rfl (hb hby e2_89) rfl rfl q) ?_
      refine WGo.st (fun _ q => XS.aloadN S126.here hx rfl (hb hby e2_90) rfl rfl q) ?_
      refine w_aln S126 d127 (i := 1) rfl rfl (hb hby e2_91) rfl hf ?_
      intro hf
      show WGo _ _ _ _ _ _ _ _ T124 (mkF m 92 #[.val (.ref a1), .val (.int (E x1)), .val (.ref aV), .val (.int (E i128)), .val (.int (E 70)), .val (.int (E i121)), u123] [(.int (E 70)), (.ref a1)])
      refine w_anw S126 d127 (hwi hw 0 rfl) rfl rfl (hb hby e2_92) rfl (cap := 6) hf (by decide) (by decide) (by decide) ?_
      intro T131 h132 a130 S133 d134 hf
      show WGo _ _ _ _ _ _ _ _ T131 (mkF m 94 #[.val (.ref a1), .val (.int (E x1)), .val (.ref aV), .val (.int (E i128)), .val (.int (E 70)), .val (.int (E i121)), u123] [(.ref a130), (.ref a1)])
      refine w_apf S133 d134 (i := 0) (fi := 2) hown (hwi hw 25 rfl) rfl rfl (Or.inr ⟨(hwi hw 26 rfl), rfl, hnm⟩) (hwi hw 13 rfl) (ty := (.array .int)) (by decide) rfl rfl rfl rfl (hb hby e2_94) ?_
      intro T135 h136 S137 d138
      show WGo _ _ _ _ _ _ _ _ T135 (mkF m 97 #[.val (.ref a1), .val (.int (E x1)), .val (.ref aV), .val (.int (E i128)), .val (.int (E 70)), .val (.int (E i121)), u123] [])
      refine WGo.st (fun _ q => XS.aloadN S137.here hx rfl (hb hby e2_97) rfl rfl q) ?_
      refine WGo.st (fun _ q => XS.aloadN S137.here hx rfl (hb hby e2_98) rfl rfl q) ?_
      refine w_aln S137 d138 (i := 1) rfl rfl (hb hby e2_99) rfl hf ?_
      intro hf
      show WGo _ _ _ _ _ _ _ _ T135 (mkF m 100 #[.val (.ref a1), .val (.int (E x1)), .val (.ref aV), .val (.int (E i128)), .val (.int (E 70)), .val (.int (E i121)), u123] [(.int (E 70)), (.ref a1)])
      refine w_anw S137 d138 (hwi hw 0 rfl) rfl rfl (hb hby e2_100) rfl (cap := 6) hf (by decide) (by decide) (by decide) ?_
      intro T140 h141 a139 S142 d143 hf
      show WGo _ _ _ _ _ _ _ _ T140 (mkF m 102 #[.val (.ref a1), .val (.int (E x1)), .val (.ref aV), .val (.int (E i128)), .val (.int (E 70)), .val (.int (E i121)), u123] [(.ref a139), (.ref a1)])
      refine w_apf S142 d143 (i := 0) (fi := 3) hown (hwi hw 27 rfl) rfl rfl (Or.inr ⟨(hwi hw 28 rfl), rfl, hnm⟩) (hwi hw 13 rfl) (ty := (.array .int)) (by decide) rfl rfl rfl rfl (hb hby e2_102) ?_
      intro T144 h145 S146 d147
      show WGo _ _ _ _ _ _ _ _ T144 (mkF m 105 #[.val (.ref a1), .val (.int (E x1)), .val (.ref aV), .val (.int (E i128)), .val (.int (E 70)), .val (.int (E i121)), u123] [])
      refine WGo.st (fun _ q => XS.iloadN S146.here hx rfl (hb hby e2_105) rfl q) ?_
      refine w_anw S146 d147 (hwi hw 0 rfl) rfl rfl (hb hby e2_106) rfl (cap := 4) hf (by decide) (by decide) (by decide) ?_
      intro T149 h150 a148 S151 d152 hf
      show WGo _ _ _ _ _ _ _ _ T149 (mkF m 108 #[.val (.ref a1), .val (.int (E x1)), .val (.ref aV), .val (.int (E i128)), .val (.int (E 70)), .val (.int (E i121)), u123] [(.ref a148)])
      refine WGo.st (fun _ q => XS.astoreN S151.here hx rfl (hb hby e2_108) rfl rfl (l' := #[.val (.ref a1), .val (.int (E x1)), .val (.ref aV), .val (.ref a148), .val (.int (E 70)), .val (.int (E i121)), u123]) rfl q) ?_
      show WGo _ _ _ _ _ _ _ _ T149 (mkF m 109 #[.val (.ref a1), .val (.int (E x1)), .val (.ref aV), .val (.ref a148), .val (.int (E 70)), .val (.int (E i121)), u123] [])
      refine WGo.st (fun _ q => XS.iconst S151.here hx rfl (hb hby e2_109) q) ?_
      refine WGo.st (fun _ q => XS.istore S151.here hx rfl (hb hby e2_110) rfl (l' := #[.val (.ref a1), .val (.int (E x1)), .val (.ref aV), .val (.ref a148), .val (.int (E 64)), .val (.int (E i121)), u123]) rfl q) ?_
      show WGo _ _ _ _ _ _ _ _ T149 (mkF m 112 #[.val (.ref a1), .val (.int (E x1)), .val (.ref aV), .val (.ref a148), .val (.int (E 64)), .val (.int (E i121)), u123] [])
      obtain ⟨Kx112, eKx112⟩ : ∃ K : Nat → Nat → Nat → Nat → Option Rt, K = (fun i157 A158 A159 A160 => Kf A129 A158 A159 z107) := ⟨_, rfl⟩
      rw [← eKx112] at hf
      have hK112 : ∀ (T153 : State) (h154 : Heap) (u161 : Slot) (u162 : Slot) (i157 : Nat) (A158 : Nat) (A159 : Nat) (A160 : Nat), WSt p l e R_Ei s m #[(.ref a1), (.int (E x1)), (.ref aV)] below meth c Z n0 T153 h154 (4) (21) → One u161 → One u162 → HS Z a0 n0 h0 [a1, aV] h154 [ob a1 cE [("vertexAt", "[I", (.ref aV)), ("first", "[I", (.ref a108)), ("endsAt", "[I", (.ref a130)), ("neighbourAt", "[I", (.ref a139))], ia aV 70 A1, ia a108 z107 A129, ia a130 70 A158, ia a139 70 A159, ia a148 x1 A160] → Kx112 i157 A158 A159 A160 = some r → WGo p e below s n0 (QEi Z a0 n0 h0 a1 aV x1 A1 Kf r) R_Ei.cells R_Ei.slots T153 (mkF m 172 #[.val (.ref a1), .val (.int (E x1)), .val (.ref aV), .val (.ref a148), .val (.int (E i157)), u161, u162] []) := by
        intro T153 h154 u161 u162 i157 A158 A159 A160 S155 hu161 hu162 d156 hf
        rw [eKx112] at hf
        show WGo _ _ _ _ _ _ _ _ T153 (mkF m 172 #[.val (.ref a1), .val (.int (E x1)), .val (.ref aV), .val (.ref a148), .val (.int (E i157)), u161, u162] [])
        refine w_retV S155 hret (hb hby e2_172) (by decide) (by decide) ?_
        exact ⟨a108, a130, a139, A129, A158, A159, z107, rfl, HS.take d156 5, hf⟩
      have hL112 : ∀ (T153 : State) (h154 : Heap) (u161 : Slot) (u162 : Slot) (i157 : Nat) (A158 : Nat) (A159 : Nat) (A160 : Nat), WSt p l e R_Ei s m #[(.ref a1), (.int (E x1)), (.ref aV)] below meth c Z n0 T153 h154 (4) (21) → One u161 → One u162 → HS Z a0 n0 h0 [a1, aV] h154 [ob a1 cE [("vertexAt", "[I", (.ref aV)), ("first", "[I", (.ref a108)), ("endsAt", "[I", (.ref a130)), ("neighbourAt", "[I", (.ref a139))], ia aV 70 A1, ia a108 z107 A129, ia a130 70 A158, ia a139 70 A159, ia a148 x1 A160] → fEi_L112 x1 A1 z107 A129 Kx112 i157 A158 A159 A160 = some r → WGo p e below s n0 (QEi Z a0 n0 h0 a1 aV x1 A1 Kf r) R_Ei.cells R_Ei.slots T153 (mkF m 112 #[.val (.ref a1), .val (.int (E x1)), .val (.ref aV), .val (.ref a148), .val (.int (E i157)), u161, u162] []) := by
        refine it8_ind (F := fEi_L112b x1 A1 z107 A129 Kx112) (P := fun (gv112 : Nat → Nat → Nat → Nat → Option Rt) => ∀ (T153 : State) (h154 : Heap) (u161 : Slot) (u162 : Slot) (i157 : Nat) (A158 : Nat) (A159 : Nat) (A160 : Nat), WSt p l e R_Ei s m #[(.ref a1), (.int (E x1)), (.ref aV)] below meth c Z n0 T153 h154 (4) (21) → One u161 → One u162 → HS Z a0 n0 h0 [a1, aV] h154 [ob a1 cE [("vertexAt", "[I", (.ref aV)), ("first", "[I", (.ref a108)), ("endsAt", "[I", (.ref a130)), ("neighbourAt", "[I", (.ref a139))], ia aV 70 A1, ia a108 z107 A129, ia a130 70 A158, ia a139 70 A159, ia a148 x1 A160] → gv112 i157 A158 A159 A160 = some r → WGo p e below s n0 (QEi Z a0 n0 h0 a1 aV x1 A1 Kf r) R_Ei.cells R_Ei.slots T153 (mkF m 112 #[.val (.ref a1), .val (.int (E x1)), .val (.ref aV), .val (.ref a148), .val (.int (E i157)), u161, u162] [])) ?_ ?_
        · intro T153 h154 u161 u162 i157 A158 A159 A160 S155 hu161 hu162 d156 hf
          cases (show (none : Option _) = some r from hf)
        · intro gv112 ih T153 h154 u161 u162 i157 A158 A159 A160 S155 hu161 hu162 d156 hf
          rw [fEi_L112b] at hf
          show WGo _ _ _ _ _ _ _ _ T153 (mkF m 112 #[.val (.ref a1), .val (.int (E x1)), .val (.ref aV), .val (.ref a148), .val (.int (E i157)), u161, u162] [])
          refine WGo.st (fun _ q => XS.iload S155.here hx rfl (hb hby e2_112) rfl q) ?_
          refine WGo.st (fun _ q => XS.aloadN S155.here hx rfl (hb hby e2_114) rfl rfl q) ?_
          refine w_aln S155 d156 (i := 1) rfl rfl (hb hby e2_115) rfl hf ?_
          intro hf
          show WGo _ _ _ _ _ _ _ _ T153 (mkF m 116 #[.val (.ref a1), .val (.int (E x1)), .val (.ref aV), .val (.ref a148), .val (.int (E i157)), u161, u162] [(.int (E 70)), (.int (E i157))])
          rcases ltN_some hf with ⟨c116, hf⟩ | ⟨c116, hf⟩
          · refine WGo.st (fun _ q => XS.icmpNo S155.here hx rfl (hb hby e2_116) rfl (tlt c116).2.1 q) ?_
            show WGo _ _ _ _ _ _ _ _ T153 (mkF m 119 #[.val (.ref a1), .val (.int (E x1)), .val (.ref aV), .val (.ref a148), .val (.int (E i157)), u161, u162] [])
            refine WGo.st (fun _ q => XS.aloadN S155.here hx rfl (hb hby e2_119) rfl rfl q) ?_
            refine WGo.st (fun _ q => XS.iload S155.here hx rfl (hb hby e2_120) rfl q) ?_
            refine w_ald S155 d156 (i := 1) rfl rfl (hb hby e2_122) rfl hf ?_
            intro x163 hf
            show WGo _ _ _ _ _ _ _ _ T153 (mkF m 123 #[.val (.ref a1), .val (.int (E x1)), .val (.ref aV), .val (.ref a148), .val (.int (E i157)), u161, u162] [(.int (E x163))])
            refine WGo.st (fun _ q => XS.istoreS S155.here hx rfl (hb hby e2_123) rfl rfl hu161 q) ?_
            show WGo _ _ _ _ _ _ _ _ T153 (mkF m 125 #[.val (.ref a1), .val (.int (E x1)), .val (.ref aV), .val (.ref a148), .val (.int (E i157)), .val (.int (E x163)), u162] [])
            refine WGo.st (fun _ q => XS.aloadN S155.here hx rfl (hb hby e2_125) rfl rfl q) ?_
            refine w_agf S155 d156 (i := 0) (fi := 1) hown (hwi hw 23 rfl) rfl rfl rfl rfl (hb hby e2_126) ?_
            intro T164 S165
            show WGo _ _ _ _ _ _ _ _ T164 (mkF m 129 #[.val (.ref a1), .val (.int (E x1)), .val (.ref aV), .val (.ref a148), .val (.int (E i157)), .val (.int (E x163)), u162] [(.ref a108)])
            refine WGo.st (fun _ q => XS.iload S165.here hx rfl (hb hby e2_129) rfl q) ?_
            refine w_ald S165 d156 (i := 2) rfl rfl (hb hby e2_131) rfl hf ?_
            intro x166 hf
            show WGo _ _ _ _ _ _ _ _ T164 (mkF m 132 #[.val (.ref a1), .val (.int (E x1)), .val (.ref aV), .val (.ref a148), .val (.int (E i157)), .val (.int (E x163)), u162] [(.int (E x166))])
            refine WGo.st (fun _ q => XS.aloadN S165.here hx rfl (hb hby e2_132) rfl rfl q) ?_
            refine WGo.st (fun _ q => XS.iload S165.here hx rfl (hb hby e2_133) rfl q) ?_
            refine WGo.st (fun _ q => Jvm.Free.XT.dup2 S165.here hx rfl (hb hby e2_135) rfl rfl rfl q) ?_
            refine w_ald S165 d156 (i := 5) rfl rfl (hb hby e2_136) rfl hf ?_
            intro x167 hf
            show WGo _ _ _ _ _ _ _ _ T164 (mkF m 137 #[.val (.ref a1), .val (.int (E x1)), .val (.ref aV), .val (.ref a148), .val (.int (E i157)), .val (.int (E x163)), u162] [(.int (E x167)), (.int (E x163)), (.ref a148), (.int (E x166))])
            refine WGo.st (fun _ q => w_dupX2 S165.here hx rfl (hb hby e2_137) rfl rfl rfl rfl q) ?_
            refine WGo.st (fun _ q => XS.iconst S165.here hx rfl (hb hby e2_138) q) ?_
            refine w_addN S165 rfl (hb hby e2_139) rfl hf ?_
            intro z168 hf
            show WGo _ _ _ _ _ _ _ _ T164 (mkF m 140 #[.val (.ref a1), .val (.int (E x1)), .val (.ref aV), .val (.ref a148), .val (.int (E i157)), .val (.int (E x163)), u162] [(.int (E z168)), (.int (E x163)), (.ref a148), (.int (E x167)), (.int (E x166))])
            refine w_ast S165 d156 (i := 5) rfl rfl (hb hby e2_140) rfl hf ?_
            intro T170 h171 A169 S172 d173 hf
            show WGo _ _ _ _ _ _ _ _ T170 (mkF m 141 #[.val (.ref a1), .val (.int (E x1)), .val (.ref aV), .val (.ref a148), .val (.int (E i157)), .val (.int (E x163)), u162] [(.int (E x167)), (.int (E x166))])
            refine w_addN S172 rfl (hb hby e2_141) rfl hf ?_
            intro z174 hf
            show WGo _ _ _ _ _ _ _ _ T170 (mkF m 142 #[.val (.ref a1), .val (.int (E x1)), .val (.ref aV), .val (.ref a148), .val (.int (E i157)), .val (.int (E x163)), u162] [(.int (E z174))])
            refine WGo.st (fun _ q => XS.istoreS S172.here hx rfl (hb hby e2_142) rfl rfl hu162 q) ?_
            show WGo _ _ _ _ _ _ _ _ T170 (mkF m 144 #[.val (.ref a1), .val (.int (E x1)), .val (.ref aV), .val (.ref a148), .val (.int (E i157)), .val (.int (E x163)), .val (.int (E z174))] [])
            refine WGo.st (fun _ q => XS.aloadN S172.here hx rfl (hb hby e2_144) rfl rfl q) ?_
            refine w_agf S172 d173 (i := 0) (fi := 2) hown (hwi hw 25 rfl) rfl rfl rfl rfl (hb hby e2_145) ?_
            intro T175 S176
            show WGo _ _ _ _ _ _ _ _ T175 (mkF m 148 #[.val (.ref a1), .val (.int (E x1)), .val (.ref aV), .val (.ref a148), .val (.int (E i157)), .val (.int (E x163)), .val (.int (E z174))] [(.ref a130)])
            refine WGo.st (fun _ q => XS.iload S176.here hx rfl (hb hby e2_148) rfl q) ?_
            refine WGo.st (fun _ q => XS.iload S176.here hx rfl (hb hby e2_150) rfl q) ?_
            refine w_ast S176 d173 (i := 3) rfl rfl (hb hby e2_152) rfl hf ?_
            intro T178 h179 A177 S180 d181 hf
            show WGo _ _ _ _ _ _ _ _ T178 (mkF m 153 #[.val (.ref a1), .val (.int (E x1)), .val (.ref aV), .val (.ref a148), .val (.int (E i157)), .val (.int (E x163)), .val (.int (E z174))] [])
            refine WGo.st (fun _ q => XS.aloadN S180.here hx rfl (hb hby e2_153) rfl rfl q) ?_
            refine w_agf S180 d181 (i := 0) (fi := 3) hown (hwi hw 27 rfl) rfl rfl rfl rfl (hb hby e2_154) ?_
            intro T182 S183
            show WGo _ _ _ _ _ _ _ _ T182 (mkF m 157 #[.val (.ref a1), .val (.int (E x1)), .val (.ref aV), .val (.ref a148), .val (.int (E i157)), .val (.int (E x163)), .val (.int (E z174))] [(.ref a139)])
            refine WGo.st (fun _ q => XS.iload S183.here hx rfl (hb hby e2_157) rfl q) ?_
            refine WGo.st (fun _ q => XS.aloadN S183.here hx rfl (hb hby e2_159) rfl rfl q) ?_
            refine WGo.st (fun _ q => XS.iload S183.here hx rfl (hb hby e2_160) rfl q) ?_
            refine WGo.st (fun _ q => XS.iconst S183.here hx rfl (hb hby e2_162) q) ?_
            refine w_xorN S183 rfl (hb hby e2_163) rfl hf ?_
            intro z184 hf
            show WGo _ _ _ _ _ _ _ _ T182 (mkF m 164 #[.val (.ref a1), .val (.int (E x1)), .val (.ref aV), .val (.ref a148), .val (.int (E i157)), .val (.int (E x163)), .val (.int (E z174))] [(.int (E z184)), (.ref aV), (.int (E z174)), (.ref a139)])
            refine w_ald S183 d181 (i := 1) rfl rfl (hb hby e2_164) rfl hf ?_
            intro x185 hf
            show WGo _ _ _ _ _ _ _ _ T182 (mkF m 165 #[.val (.ref a1), .val (.int (E x1)), .val (.ref aV), .val (.ref a148), .val (.int (E i157)), .val (.int (E x163)), .val (.int (E z174))] [(.int (E x185)), (.int (E z174)), (.ref a139)])
            refine w_ast S183 d181 (i := 4) rfl rfl (hb hby e2_165) rfl hf ?_
            intro T187 h188 A186 S189 d190 hf
            show WGo _ _ _ _ _ _ _ _ T187 (mkF m 166 #[.val (.ref a1), .val (.int (E x1)), .val (.ref aV), .val (.ref a148), .val (.int (E i157)), .val (.int (E x163)), .val (.int (E z174))] [])
            refine w_incN S189 rfl (hb hby e2_166) (y := 65) (by decide) rfl (l1 := fun z0 => #[.val (.ref a1), .val (.int (E x1)), .val (.ref aV), .val (.ref a148), .val (.int (E z0)), .val (.int (E x163)), .val (.int (E z174))]) (fun _ => rfl) (fun _ => rfl) hf ?_
            intro z191 hf
            show WGo _ _ _ _ _ _ _ _ T187 (mkF m 169 #[.val (.ref a1), .val (.int (E x1)), .val (.ref aV), .val (.ref a148), .val (.int (E z191)), .val (.int (E x163)), .val (.int (E z174))] [])
            refine WGo.st (fun _ q => XS.goto S189.here hx rfl (pc0 := 169) (pc' := 112) rfl (hb hby e2_169) (by decide) (by decide) q) ?_
            show WGo _ _ _ _ _ _ _ _ T187 (mkF m 112 #[.val (.ref a1), .val (.int (E x1)), .val (.ref aV), .val (.ref a148), .val (.int (E z191)), .val (.int (E x163)), .val (.int (E z174))] [])
            exact ih T187 h188 (.val (.int (E x163))) (.val (.int (E z174))) z191 A177 A186 A169 S189 (One.val rfl) (One.val rfl) d190  hf
          · refine WGo.st (fun _ q => XS.icmpYes S155.here hx rfl (pc0 := 116) (pc' := 172) rfl (hb hby e2_116) rfl (flt c116).2.1 (by decide) (by decide) q) ?_
            show WGo _ _ _ _ _ _ _ _ T153 (mkF m 172 #[.val (.ref a1), .val (.int (E x1)), .val (.ref aV), .val (.ref a148), .val (.int (E i157)), u161, u162] [])
            exact hK112 T153 h154 u161 u162 i157 A158 A159 A160 S155 hu161 hu162 d156 hf
      exact hL112 T149 h150 (.val (.int (E i121))) u123 64 AZ AZ AZ S151 (One.val rfl) hu123 d152 hf
    have hL61 : ∀ (T124 : State) (h125 : Heap) (i128 : Nat) (A129 : Nat), WSt p l e R_Ei s m #[(.ref a1), (.int (E x1)), (.ref aV)] below meth c Z n0 T124 h125 (1) (5) → HS Z a0 n0 h0 [a1, aV] h125 [ob a1 cE [("vertexAt", "[I", (.ref aV)), ("first", "[I", (.ref a108)), ("endsAt", "[I", (.null)), ("neighbourAt", "[I", (.null))], ia aV 70 A1, ia a108 z107 A129] → fEi_L61 x1 z107 Kx61 i128 A129 = some r → WGo p e below s n0 (QEi Z a0 n0 h0 a1 aV x1 A1 Kf r) R_Ei.cells R_Ei.slots T124 (mkF m 61 #[.val (.ref a1), .val (.int (E x1)), .val (.ref aV), .val (.int (E i128)), .val (.int (E 70)), .val (.int (E i121)), u123] []) := by
      refine it8_ind (F := fEi_L61b x1 z107 Kx61) (P := fun (gv61 : Nat → Nat → Option Rt) => ∀ (T124 : State) (h125 : Heap) (i128 : Nat) (A129 : Nat), WSt p l e R_Ei s m #[(.ref a1), (.int (E x1)), (.ref aV)] below meth c Z n0 T124 h125 (1) (5) → HS Z a0 n0 h0 [a1, aV] h125 [ob a1 cE [("vertexAt", "[I", (.ref aV)), ("first", "[I", (.ref a108)), ("endsAt", "[I", (.null)), ("neighbourAt", "[I", (.null))], ia aV 70 A1, ia a108 z107 A129] → gv61 i128 A129 = some r → WGo p e below s n0 (QEi Z a0 n0 h0 a1 aV x1 A1 Kf r) R_Ei.cells R_Ei.slots T124 (mkF m 61 #[.val (.ref a1), .val (.int (E x1)), .val (.ref aV), .val (.int (E i128)), .val (.int (E 70)), .val (.int (E i121)), u123] [])) ?_ ?_
      · intro T124 h125  i128 A129 S126  d127 hf
        cases (show (none : Option _) = some r from hf)
      · intro gv61 ih T124 h125  i128 A129 S126  d127 hf
        rw [fEi_L61b] at hf
        show WGo _ _ _ _ _ _ _ _ T124 (mkF m 61 #[.val (.ref a1), .val (.int (E x1)), .val (.ref aV), .val (.int (E i128)), .val (.int (E 70)), .val (.int (E i121)), u123] [])
        refine WGo.st (fun _ q => XS.iloadN S126.here hx rfl (hb hby e2_61) rfl q) ?_
        refine WGo.st (fun _ q => XS.iloadN S126.here hx rfl (hb hby e2_62) rfl q) ?_
        rcases ltN_some hf with ⟨c63, hf⟩ | ⟨c63, hf⟩
        · refine WGo.st (fun _ q => XS.icmpNo S126.here hx rfl (hb hby e2_63) rfl (tlt c63).2.1 q) ?_
          show WGo _ _ _ _ _ _ _ _ T124 (mkF m 66 #[.val (.ref a1), .val (.int (E x1)), .val (.ref aV), .val (.int (E i128)), .val (.int (E 70)), .val (.int (E i121)), u123] [])
          refine WGo.st (fun _ q => XS.aloadN S126.here hx rfl (hb hby e2_66) rfl rfl q) ?_
          refine w_agf S126 d127 (i := 0) (fi := 1) hown (hwi hw 23 rfl) rfl rfl rfl rfl (hb hby e2_67) ?_
          intro T192 S193
          show WGo _ _ _ _ _ _ _ _ T192 (mkF m 70 #[.val (.ref a1), .val (.int (E x1)), .val (.ref aV), .val (.int (E i128)), .val (.int (E 70)), .val (.int (E i121)), u123] [(.ref a108)])
          refine WGo.st (fun _ q => XS.iloadN S193.here hx rfl (hb hby e2_70) rfl q) ?_
          refine WGo.st (fun _ q => XS.iconst S193.here hx rfl (hb hby e2_71) q) ?_
          refine w_addN S193 rfl (hb hby e2_72) rfl hf ?_
          intro z194 hf
          show WGo _ _ _ _ _ _ _ _ T192 (mkF m 73 #[.val (.ref a1), .val (.int (E x1)), .val (.ref aV), .val (.int (E i128)), .val (.int (E 70)), .val (.int (E i121)), u123] [(.int (E z194)), (.ref a108)])
          refine WGo.st (fun _ q => Jvm.Free.XT.dup2 S193.here hx rfl (hb hby e2_73) rfl rfl rfl q) ?_
          refine w_ald S193 d127 (i := 2) rfl rfl (hb hby e2_74) rfl hf ?_
          intro x195 hf
          show WGo _ _ _ _ _ _ _ _ T192 (mkF m 75 #[.val (.ref a1), .val (.int (E x1)), .val (.ref aV), .val (.int (E i128)), .val (.int (E 70)), .val (.int (E i121)), u123] [(.int (E x195)), (.int (E z194)), (.ref a108)])
          refine WGo.st (fun _ q => XS.aloadN S193.here hx rfl (hb hby e2_75) rfl rfl q) ?_
          refine w_agf S193 d127 (i := 0) (fi := 1) hown (hwi hw 23 rfl) rfl rfl rfl rfl (hb hby e2_76) ?_
          intro T196 S197
          show WGo _ _ _ _ _ _ _ _ T196 (mkF m 79 #[.val (.ref a1), .val (.int (E x1)), .val (.ref aV), .val (.int (E i128)), .val (.int (E 70)), .val (.int (E i121)), u123] [(.ref a108), (.int (E x195)), (.int (E z194)), (.ref a108)])
          refine WGo.st (fun _ q => XS.iloadN S197.here hx rfl (hb hby e2_79) rfl q) ?_
          refine w_ald S197 d127 (i := 2) rfl rfl (hb hby e2_80) rfl hf ?_
          intro x198 hf
          show WGo _ _ _ _ _ _ _ _ T196 (mkF m 81 #[.val (.ref a1), .val (.int (E x1)), .val (.ref aV), .val (.int (E i128)), .val (.int (E 70)), .val (.int (E i121)), u123] [(.int (E x198)), (.int (E x195)), (.int (E z194)), (.ref a108)])
          refine w_addN S197 rfl (hb hby e2_81) rfl hf ?_
          intro z199 hf
          show WGo _ _ _ _ _ _ _ _ T196 (mkF m 82 #[.val (.ref a1), .val (.int (E x1)), .val (.ref aV), .val (.int (E i128)), .val (.int (E 70)), .val (.int (E i121)), u123] [(.int (E z199)), (.int (E z194)), (.ref a108)])
          refine w_ast S197 d127 (i := 2) rfl rfl (hb hby e2_82) rfl hf ?_
          intro T201 h202 A200 S203 d204 hf
          show WGo _ _ _ _ _ _ _ _ T201 (mkF m 83 #[.val (.ref a1), .val (.int (E x1)), .val (.ref aV), .val (.int (E i128)), .val (.int (E 70)), .val (.int (E i121)), u123] [])
          refine w_incN S203 rfl (hb hby e2_83) (y := 65) (by decide) rfl (l1 := fun z0 => #[.val (.ref a1), .val (.int (E x1)), .val (.ref aV), .val (.int (E z0)), .val (.int (E 70)), .val (.int (E i121)), u123]) (fun _ => rfl) (fun _ => rfl) hf ?_
          intro z205 hf
          show WGo _ _ _ _ _ _ _ _ T201 (mkF m 86 #[.val (.ref a1), .val (.int (E x1)), .val (.ref aV), .val (.int (E z205)), .val (.int (E 70)), .val (.int (E i121)), u123] [])
          refine WGo.st (fun _ q => XS.goto S203.here hx rfl (pc0 := 86) (pc' := 61) rfl (hb hby e2_86) (by decide) (by decide) q) ?_
          show WGo _ _ _ _ _ _ _ _ T201 (mkF m 61 #[.val (.ref a1), .val (.int (E x1)), .val (.ref aV), .val (.int (E z205)), .val (.int (E 70)), .val (.int (E i121)), u123] [])
          exact ih T201 h202  z205 A200 S203  d204  hf
        · refine WGo.st (fun _ q => XS.icmpYes S126.here hx rfl (pc0 := 63) (pc' := 89) rfl (hb hby e2_63) rfl (flt c63).2.1 (by decide) (by decide) q) ?_
          show WGo _ _ _ _ _ _ _ _ T124 (mkF m 89 #[.val (.ref a1), .val (.int (E x1)), .val (.ref aV), .val (.int (E i128)), .val (.int (E 70)), .val (.int (E i121)), u123] [])
          exact hK61 T124 h125  i128 A129 S126  d127 hf
    exact hL61 T117 h118  64 A122 S119  d120 hf
  have hL27 : ∀ (T117 : State) (h118 : Heap) (u123 : Slot) (i121 : Nat) (A122 : Nat), WSt p l e R_Ei s m #[(.ref a1), (.int (E x1)), (.ref aV)] below meth c Z n0 T117 h118 (1) (5) → One u123 → HS Z a0 n0 h0 [a1, aV] h118 [ob a1 cE [("vertexAt", "[I", (.ref aV)), ("first", "[I", (.ref a108)), ("endsAt", "[I", (.null)), ("neighbourAt", "[I", (.null))], ia aV 70 A1, ia a108 z107 A122] → fEi_L27 A1 z107 Kx27 i121 A122 = some r → WGo p e below s n0 (QEi Z a0 n0 h0 a1 aV x1 A1 Kf r) R_Ei.cells R_Ei.slots T117 (mkF m 27 #[.val (.ref a1), .val (.int (E x1)), .val (.ref aV), .val (.ref aV), .val (.int (E 70)), .val (.int (E i121)), u123] []) := by
    refine it8_ind (F := fEi_L27b A1 z107 Kx27) (P := fun (gv27 : Nat → Nat → Option Rt) => ∀ (T117 : State) (h118 : Heap) (u123 : Slot) (i121 : Nat) (A122 : Nat), WSt p l e R_Ei s m #[(.ref a1), (.int (E x1)), (.ref aV)] below meth c Z n0 T117 h118 (1) (5) → One u123 → HS Z a0 n0 h0 [a1, aV] h118 [ob a1 cE [("vertexAt", "[I", (.ref aV)), ("first", "[I", (.ref a108)), ("endsAt", "[I", (.null)), ("neighbourAt", "[I", (.null))], ia aV 70 A1, ia a108 z107 A122] → gv27 i121 A122 = some r → WGo p e below s n0 (QEi Z a0 n0 h0 a1 aV x1 A1 Kf r) R_Ei.cells R_Ei.slots T117 (mkF m 27 #[.val (.ref a1), .val (.int (E x1)), .val (.ref aV), .val (.ref aV), .val (.int (E 70)), .val (.int (E i121)), u123] [])) ?_ ?_
    · intro T117 h118 u123 i121 A122 S119 hu123 d120 hf
      cases (show (none : Option _) = some r from hf)
    · intro gv27 ih T117 h118 u123 i121 A122 S119 hu123 d120 hf
      rw [fEi_L27b] at hf
      show WGo _ _ _ _ _ _ _ _ T117 (mkF m 27 #[.val (.ref a1), .val (.int (E x1)), .val (.ref aV), .val (.ref aV), .val (.int (E 70)), .val (.int (E i121)), u123] [])
      refine WGo.st (fun _ q => XS.iload S119.here hx rfl (hb hby e2_27) rfl q) ?_
      refine WGo.st (fun _ q => XS.iload S119.here hx rfl (hb hby e2_29) rfl q) ?_
      rcases ltN_some hf with ⟨c31, hf⟩ | ⟨c31, hf⟩
      · refine WGo.st (fun _ q => XS.icmpNo S119.here hx rfl (hb hby e2_31) rfl (tlt c31).2.1 q) ?_
        show WGo _ _ _ _ _ _ _ _ T117 (mkF m 34 #[.val (.ref a1), .val (.int (E x1)), .val (.ref aV), .val (.ref aV), .val (.int (E 70)), .val (.int (E i121)), u123] [])
        refine WGo.st (fun _ q => XS.aloadN S119.here hx rfl (hb hby e2_34) rfl rfl q) ?_
        refine WGo.st (fun _ q => XS.iload S119.here hx rfl (hb hby e2_35) rfl q) ?_
        refine w_ald S119 d120 (i := 1) rfl rfl (hb hby e2_37) rfl hf ?_
        intro x206 hf
        show WGo _ _ _ _ _ _ _ _ T117 (mkF m 38 #[.val (.ref a1), .val (.int (E x1)), .val (.ref aV), .val (.ref aV), .val (.int (E 70)), .val (.int (E i121)), u123] [(.int (E x206))])
        refine WGo.st (fun _ q => XS.istoreS S119.here hx rfl (hb hby e2_38) rfl rfl hu123 q) ?_
        show WGo _ _ _ _ _ _ _ _ T117 (mkF m 40 #[.val (.ref a1), .val (.int (E x1)), .val (.ref aV), .val (.ref aV), .val (.int (E 70)), .val (.int (E i121)), .val (.int (E x206))] [])
        refine WGo.st (fun _ q => XS.aloadN S119.here hx rfl (hb hby e2_40) rfl rfl q) ?_
        refine w_agf S119 d120 (i := 0) (fi := 1) hown (hwi hw 23 rfl) rfl rfl rfl rfl (hb hby e2_41) ?_
        intro T207 S208
        show WGo _ _ _ _ _ _ _ _ T207 (mkF m 44 #[.val (.ref a1), .val (.int (E x1)), .val (.ref aV), .val (.ref aV), .val (.int (E 70)), .val (.int (E i121)), .val (.int (E x206))] [(.ref a108)])
        refine WGo.st (fun _ q => XS.iload S208.here hx rfl (hb hby e2_44) rfl q) ?_
        refine WGo.st (fun _ q => XS.iconst S208.here hx rfl (hb hby e2_46) q) ?_
        refine w_addN S208 rfl (hb hby e2_47) rfl hf ?_
        intro z209 hf
        show WGo _ _ _ _ _ _ _ _ T207 (mkF m 48 #[.val (.ref a1), .val (.int (E x1)), .val (.ref aV), .val (.ref aV), .val (.int (E 70)), .val (.int (E i121)), .val (.int (E x206))] [(.int (E z209)), (.ref a108)])
        refine WGo.st (fun _ q => Jvm.Free.XT.dup2 S208.here hx rfl (hb hby e2_48) rfl rfl rfl q) ?_
        refine w_ald S208 d120 (i := 2) rfl rfl (hb hby e2_49) rfl hf ?_
        intro x210 hf
        show WGo _ _ _ _ _ _ _ _ T207 (mkF m 50 #[.val (.ref a1), .val (.int (E x1)), .val (.ref aV), .val (.ref aV), .val (.int (E 70)), .val (.int (E i121)), .val (.int (E x206))] [(.int (E x210)), (.int (E z209)), (.ref a108)])
        refine WGo.st (fun _ q => XS.iconst S208.here hx rfl (hb hby e2_50) q) ?_
        refine w_addN S208 rfl (hb hby e2_51) rfl hf ?_
        intro z211 hf
        show WGo _ _ _ _ _ _ _ _ T207 (mkF m 52 #[.val (.ref a1), .val (.int (E x1)), .val (.ref aV), .val (.ref aV), .val (.int (E 70)), .val (.int (E i121)), .val (.int (E x206))] [(.int (E z211)), (.int (E z209)), (.ref a108)])
        refine w_ast S208 d120 (i := 2) rfl rfl (hb hby e2_52) rfl hf ?_
        intro T213 h214 A212 S215 d216 hf
        show WGo _ _ _ _ _ _ _ _ T213 (mkF m 53 #[.val (.ref a1), .val (.int (E x1)), .val (.ref aV), .val (.ref aV), .val (.int (E 70)), .val (.int (E i121)), .val (.int (E x206))] [])
        refine w_incN S215 rfl (hb hby e2_53) (y := 65) (by decide) rfl (l1 := fun z0 => #[.val (.ref a1), .val (.int (E x1)), .val (.ref aV), .val (.ref aV), .val (.int (E 70)), .val (.int (E z0)), .val (.int (E x206))]) (fun _ => rfl) (fun _ => rfl) hf ?_
        intro z217 hf
        show WGo _ _ _ _ _ _ _ _ T213 (mkF m 56 #[.val (.ref a1), .val (.int (E x1)), .val (.ref aV), .val (.ref aV), .val (.int (E 70)), .val (.int (E z217)), .val (.int (E x206))] [])
        refine WGo.st (fun _ q => XS.goto S215.here hx rfl (pc0 := 56) (pc' := 27) rfl (hb hby e2_56) (by decide) (by decide) q) ?_
        show WGo _ _ _ _ _ _ _ _ T213 (mkF m 27 #[.val (.ref a1), .val (.int (E x1)), .val (.ref aV), .val (.ref aV), .val (.int (E 70)), .val (.int (E z217)), .val (.int (E x206))] [])
        exact ih T213 h214 (.val (.int (E x206))) z217 A212 S215 (One.val rfl) d216  hf
      · refine WGo.st (fun _ q => XS.icmpYes S119.here hx rfl (pc0 := 31) (pc' := 59) rfl (hb hby e2_31) rfl (flt c31).2.1 (by decide) (by decide) q) ?_
        show WGo _ _ _ _ _ _ _ _ T117 (mkF m 59 #[.val (.ref a1), .val (.int (E x1)), .val (.ref aV), .val (.ref aV), .val (.int (E 70)), .val (.int (E i121)), u123] [])
        exact hK27 T117 h118 u123 i121 A122 S119 hu123 d120 hf
  exact hL27 T113 h114 (.unset) 64 AZ S115 One.u d116 hf
theorem e7_0 : decode prog_27_method_2_code 0 = .ok (.aload_n 0, 1) := by decide +kernel
theorem e7_1 : decode prog_27_method_2_code 1 = .ok (.invokevirtual 33, 3) := by decide +kernel
theorem e7_4 : decode prog_27_method_2_code 4 = .ok (.istore_n 1, 1) := by decide +kernel
theorem e7_5 : decode prog_27_method_2_code 5 = .ok (.iload_n 1, 1) := by decide +kernel
theorem e7_6 : decode prog_27_method_2_code 6 = .ok (.newarray .int, 2) := by decide +kernel
theorem e7_8 : decode prog_27_method_2_code 8 = .ok (.astore_n 2, 1) := by decide +kernel
theorem e7_9 : decode prog_27_method_2_code 9 = .ok (.aload_n 0, 1) := by decide +kernel
theorem e7_10 : decode prog_27_method_2_code 10 = .ok (.invokevirtual 24, 3) := by decide +kernel
theorem e7_13 : decode prog_27_method_2_code 13 = .ok (.newarray .int, 2) := by decide +kernel
theorem e7_15 : decode prog_27_method_2_code 15 = .ok (.astore_n 3, 1) := by decide +kernel
theorem e7_16 : decode prog_27_method_2_code 16 = .ok (.aload_n 0, 1) := by decide +kernel
theorem e7_17 : decode prog_27_method_2_code 17 = .ok (.invokevirtual 24, 3) := by decide +kernel
theorem e7_20 : decode prog_27_method_2_code 20 = .ok (.newarray .int, 2) := by decide +kernel
theorem e7_22 : decode prog_27_method_2_code 22 = .ok (.astore 4, 2) := by decide +kernel
theorem e7_24 : decode prog_27_method_2_code 24 = .ok (.aload 4, 2) := by decide +kernel
theorem e7_26 : decode prog_27_method_2_code 26 = .ok (.iconst (-1), 1) := by decide +kernel
theorem e7_27 : decode prog_27_method_2_code 27 = .ok (.invokestatic 129, 3) := by decide +kernel
theorem e7_30 : decode prog_27_method_2_code 30 = .ok (.iconst 0, 1) := by decide +kernel
theorem e7_31 : decode prog_27_method_2_code 31 = .ok (.istore 5, 2) := by decide +kernel
theorem e7_33 : decode prog_27_method_2_code 33 = .ok (.iload 5, 2) := by decide +kernel
theorem e7_35 : decode prog_27_method_2_code 35 = .ok (.aload_n 0, 1) := by decide +kernel
theorem e7_36 : decode prog_27_method_2_code 36 = .ok (.invokevirtual 24, 3) := by decide +kernel
theorem e7_39 : decode prog_27_method_2_code 39 = .ok (.if_icmp .ge 82, 3) := by decide +kernel
theorem e7_42 : decode prog_27_method_2_code 42 = .ok (.iconst 0, 1) := by decide +kernel
theorem e7_43 : decode prog_27_method_2_code 43 = .ok (.istore 6, 2) := by decide +kernel
theorem e7_45 : decode prog_27_method_2_code 45 = .ok (.iload 6, 2) := by decide +kernel
theorem e7_47 : decode prog_27_method_2_code 47 = .ok (.aload_n 0, 1) := by decide +kernel
theorem e7_48 : decode prog_27_method_2_code 48 = .ok (.iload 5, 2) := by decide +kernel
theorem e7_50 : decode prog_27_method_2_code 50 = .ok (.invokevirtual 145, 3) := by decide +kernel
theorem e7_53 : decode prog_27_method_2_code 53 = .ok (.if_icmp .ge 62, 3) := by decide +kernel
theorem e7_56 : decode prog_27_method_2_code 56 = .ok (.aload_n 0, 1) := by decide +kernel
theorem e7_57 : decode prog_27_method_2_code 57 = .ok (.iload 5, 2) := by decide +kernel
theorem e7_59 : decode prog_27_method_2_code 59 = .ok (.iload 6, 2) := by decide +kernel
theorem e7_61 : decode prog_27_method_2_code 61 = .ok (.invokevirtual 149, 3) := by decide +kernel
theorem e7_64 : decode prog_27_method_2_code 64 = .ok (.iconst 1, 1) := by decide +kernel
theorem e7_65 : decode prog_27_method_2_code 65 = .ok (.ishr, 1) := by decide +kernel
theorem e7_66 : decode prog_27_method_2_code 66 = .ok (.istore 7, 2) := by decide +kernel
theorem e7_68 : decode prog_27_method_2_code 68 = .ok (.aload_n 0, 1) := by decide +kernel
theorem e7_69 : decode prog_27_method_2_code 69 = .ok (.iload 5, 2) := by decide +kernel
theorem e7_71 : decode prog_27_method_2_code 71 = .ok (.iload 6, 2) := by decide +kernel
theorem e7_73 : decode prog_27_method_2_code 73 = .ok (.invokevirtual 153, 3) := by decide +kernel
theorem e7_76 : decode prog_27_method_2_code 76 = .ok (.istore 8, 2) := by decide +kernel
theorem e7_78 : decode prog_27_method_2_code 78 = .ok (.aload 4, 2) := by decide +kernel
theorem e7_80 : decode prog_27_method_2_code 80 = .ok (.iload 8, 2) := by decide +kernel
theorem e7_82 : decode prog_27_method_2_code 82 = .ok (.iaload, 1) := by decide +kernel
theorem e7_83 : decode prog_27_method_2_code 83 = .ok (.iload 5, 2) := by decide +kernel
theorem e7_85 : decode prog_27_method_2_code 85 = .ok (.if_icmp .eq 16, 3) := by decide +kernel
theorem e7_88 : decode prog_27_method_2_code 88 = .ok (.aload 4, 2) := by decide +kernel
theorem e7_90 : decode prog_27_method_2_code 90 = .ok (.iload 8, 2) := by decide +kernel
theorem e7_92 : decode prog_27_method_2_code 92 = .ok (.iload 5, 2) := by decide +kernel
theorem e7_94 : decode prog_27_method_2_code 94 = .ok (.iastore, 1) := by decide +kernel
theorem e7_95 : decode prog_27_method_2_code 95 = .ok (.aload_n 3, 1) := by decide +kernel
theorem e7_96 : decode prog_27_method_2_code 96 = .ok (.iload 8, 2) := by decide +kernel
theorem e7_98 : decode prog_27_method_2_code 98 = .ok (.iload 7, 2) := by decide +kernel
theorem e7_100 : decode prog_27_method_2_code 100 = .ok (.iastore, 1) := by decide +kernel
theorem e7_101 : decode prog_27_method_2_code 101 = .ok (.aload_n 2, 1) := by decide +kernel
theorem e7_102 : decode prog_27_method_2_code 102 = .ok (.iload 7, 2) := by decide +kernel
theorem e7_104 : decode prog_27_method_2_code 104 = .ok (.aload_n 3, 1) := by decide +kernel
theorem e7_105 : decode prog_27_method_2_code 105 = .ok (.iload 8, 2) := by decide +kernel
theorem e7_107 : decode prog_27_method_2_code 107 = .ok (.iaload, 1) := by decide +kernel
theorem e7_108 : decode prog_27_method_2_code 108 = .ok (.iastore, 1) := by decide +kernel
theorem e7_109 : decode prog_27_method_2_code 109 = .ok (.iinc 6 1, 3) := by decide +kernel
theorem e7_112 : decode prog_27_method_2_code 112 = .ok (.goto (-67), 3) := by decide +kernel
theorem e7_115 : decode prog_27_method_2_code 115 = .ok (.iinc 5 1, 3) := by decide +kernel
theorem e7_118 : decode prog_27_method_2_code 118 = .ok (.goto (-85), 3) := by decide +kernel
theorem e7_121 : decode prog_27_method_2_code 121 = .ok (.aload_n 2, 1) := by decide +kernel
theorem e7_122 : decode prog_27_method_2_code 122 = .ok (.areturn, 1) := by decide +kernel
abbrev R_Rp : Room := { frames := 2, cells := 3, slots := 11, locals := 60 }
def fRp_L45b {Rt : Type} (n1 : Nat) (A2 : Nat) (A3 : Nat) (A4 : Nat) (y120 : Nat) (y133 : Nat) (i151 : Nat) (Kx45 : Nat → Nat → Nat → Nat → Option Rt) (gv45 : Nat → Nat → Nat → Nat → Option Rt) (i170 : Nat) (A171 : Nat) (A172 : Nat) (A173 : Nat) : Option Rt := fDg n1 A2 i151 fun y184 => (ltN i170 y184 (fEa n1 A2 A3 i151 i170 fun y192 => (shrN y192 fun z193 => (fNb n1 A2 A4 i151 i170 fun y201 => (rdN A173 y133 y201 fun x202 => (eqN x202 i151 (rdN A172 y120 y201 fun x203 => (wrN A171 67 z193 x203 fun A204 => (addN i170 65 fun z209 => (gv45 z209 A204 A172 A173)))) (wrN A173 y133 y201 i151 fun A210 => (wrN A172 y120 y201 z193 fun A215 => (rdN A215 y120 y201 fun x220 => (wrN A171 67 z193 x220 fun A221 => (addN i170 65 fun z226 => (gv45 z226 A221 A215 A210))))))))))) (Kx45 i170 A171 A172 A173))
def fRp_L45 {Rt : Type} (n1 : Nat) (A2 : Nat) (A3 : Nat) (A4 : Nat) (y120 : Nat) (y133 : Nat) (i151 : Nat) (Kx45 : Nat → Nat → Nat → Nat → Option Rt) : Nat → Nat → Nat → Nat → Option Rt := it8 (fRp_L45b n1 A2 A3 A4 y120 y133 i151 Kx45) (fun _ _ _ _ => none)
def fRp_L33b {Rt : Type} (n1 : Nat) (A2 : Nat) (A3 : Nat) (A4 : Nat) (y120 : Nat) (y133 : Nat) (Kx33 : Nat → Nat → Nat → Nat → Option Rt) (gv33 : Nat → Nat → Nat → Nat → Option Rt) (i151 : Nat) (A152 : Nat) (A153 : Nat) (A154 : Nat) : Option Rt := fVc n1 A2 fun y165 => (ltN i151 y165 (fRp_L45 n1 A2 A3 A4 y120 y133 i151 (fun i170 A171 A172 A173 => addN i151 65 fun z176 => (gv33 z176 A171 A172 A173)) 64 A152 A153 A154) (Kx33 i151 A152 A153 A154))
def fRp_L33 {Rt : Type} (n1 : Nat) (A2 : Nat) (A3 : Nat) (A4 : Nat) (y120 : Nat) (y133 : Nat) (Kx33 : Nat → Nat → Nat → Nat → Option Rt) : Nat → Nat → Nat → Nat → Option Rt := it8 (fRp_L33b n1 A2 A3 A4 y120 y133 Kx33) (fun _ _ _ _ => none)
def fRp {Rt : Type} (A1 : Nat) (n1 : Nat) (A2 : Nat) (A3 : Nat) (A4 : Nat) (Kf : Nat → Option Rt) : Option Rt := fEc A1 (capN 67 3 (fVc n1 A2 fun y120 => (capN y120 4 (fVc n1 A2 fun y133 => (capN y133 4 (fFi y133 AZ 63 fun y146 => (fRp_L33 n1 A2 A3 A4 y120 y133 (fun i151 A152 A153 A154 => Kf A152) 64 AZ AZ y146)))))))
def QRp {Rt : Type} (Z : State) (a0 : Array Value) (n0 : Nat) (h0 : Heap) (a1 : Addr) (aV : Addr) (aF : Addr) (aE : Addr) (aN : Addr) (F : List (String × String × Value)) (A1 : Nat) (n1 : Nat) (A2 : Nat) (A3 : Nat) (A4 : Nat) (Kf : Nat → Option Rt) (r : Rt) (v : Option Value) (h : Heap) : Prop := ∃ b1 : Addr, ∃ B1 : Nat, v = some (.ref b1) ∧ HS Z a0 n0 h0 [a1, aV, aF, aE, aN] h [ob a1 cE F, ia aV 70 A1, ia aF n1 A2, ia aE 70 A3, ia aN 70 A4, ia b1 67 B1] ∧ Kf B1 = some r
theorem ef_Rp (m : MethodId) (a1 : Addr) : entryFrame m #[(.ref a1)] 9 = mkF m 0 #[.val (.ref a1), .unset, .unset, .unset, .unset, .unset, .unset, .unset, .unset] [] := by first | (simp [entryFrame, mkF, argsToLocals, Value.category, maxLocals]; done) | rfl
set_option maxRecDepth 65536 in
set_option maxHeartbeats 40000000 in
theorem rm_Rp {Rt : Type} (l : Launch) (Z : State) (a0 : Array Value) (hw : ∀ d ∈ tables_1, d.before a0 Z = true) (n0 : Nat) (h0 : Heap) (a1 : Addr) (aV : Addr) (aF : Addr) (aE : Addr) (aN : Addr) (F : List (String × String × Value)) (A1 : Nat) (n1 : Nat) (A2 : Nat) (A3 : Nat) (A4 : Nat) (Z0 : n0 ≤ h0.size) (hF0 : FL F 0 "vertexAt" "[I" (.ref aV)) (hF1 : FL F 1 "first" "[I" (.ref aF)) (hF2 : FL F 2 "endsAt" "[I" (.ref aE)) (hF3 : FL F 3 "neighbourAt" "[I" (.ref aN)) (d0 : HS Z a0 n0 h0 [a1, aV, aF, aE, aN] h0 [ob a1 cE F, ia aV 70 A1, ia aF n1 A2, ia aE 70 A3, ia aN 70 A4]) (Kf : Nat → Option Rt) (r : Rt) (hf : fRp A1 n1 A2 A3 A4 Kf = some r) :
    WCon l Z n0 h0 (⟨"com/example/ookayama/ookayama/EdgeAddition", "representatives", "(Lcom/example/ookayama/ookayama/EdgeEnds;)[I"⟩ : MethodName) prog_27_method_2_code 9 (some (.array .int)) [] R_Rp #[(.ref a1)] (QRp Z a0 n0 h0 a1 aV aF aE aN F A1 n1 A2 A3 A4 Kf r) := by
  refine WCon.of (by first | exact plainFor_of_name (by decide +kernel) | decide +kernel) Z0 ?_
  intro p e s m below meth c T hx hZ hby hml hown hnm hret S
  refine WGo.cast (ef_Rp m a1) ?_
  rw [fRp] at hf
  show WGo _ _ _ _ _ _ _ _ T (mkF m 0 #[.val (.ref a1), .unset, .unset, .unset, .unset, .unset, .unset, .unset, .unset] [])
  refine WGo.st (fun _ q => XS.aloadN S.here hx rfl (hb hby e7_0) rfl rfl q) ?_
  refine w_virtual S (y := (⟨"com/example/ookayama/ookayama/EdgeEnds", "edgeCount", "()I"⟩ : MethodName)) hown (hwi hw 48 rfl) (hwi hw 49 rfl) (hwi hw 51 rfl) (hwi hw 50 rfl) (hwi hw 14 rfl) (hwi hw 52 rfl) (by decide) (HS.obj d0 (i := 0) rfl) (rm_Ec l Z a0 hw n0 h0 a1 aV (F) A1 S.ge (hF0) (HS.pw d0 [0, 1] (by decide) rfl rfl) _ _ hf) (W := 0) (by decide) (by decide) (by decide) (by decide) rfl (by rw [hml]; rfl) (argsL := []) (rest := []) (ps := []) (rt := (some .int)) (by decide) rfl rfl rfl (by show 2 * 0 + _ ≤ _; exact Nat.le_of_eq rfl) (hb hby e7_1) ?_
  intro T101 h103 w104 S102 q105
  obtain ⟨rfl, d106, hf⟩ := q105
  have d107 : HS Z a0 n0 h0 [a1, aV, aF, aE, aN] h103 [ob a1 cE F, ia aV 70 A1, ia aF n1 A2, ia aE 70 A3, ia aN 70 A4] := HS.call d0 [0, 1] [ob a1 cE F, ia aV 70 A1] [ob a1 cE F, ia aV 70 A1] [] (by decide) rfl rfl d106
  show WGo _ _ _ _ _ _ _ _ T101 (mkF m 4 #[.val (.ref a1), .unset, .unset, .unset, .unset, .unset, .unset, .unset, .unset] [(.int (E 67))])
  refine WGo.st (fun _ q => XS.istoreN S102.here hx rfl (hb hby e7_4) rfl (l' := #[.val (.ref a1), .val (.int (E 67)), .unset, .unset, .unset, .unset, .unset, .unset, .unset]) rfl q) ?_
  show WGo _ _ _ _ _ _ _ _ T101 (mkF m 5 #[.val (.ref a1), .val (.int (E 67)), .unset, .unset, .unset, .unset, .unset, .unset, .unset] [])
  refine WGo.st (fun _ q => XS.iloadN S102.here hx rfl (hb hby e7_5) rfl q) ?_
  refine w_anw S102 d107 (hwi hw 0 rfl) rfl rfl (hb hby e7_6) rfl (cap := 3) hf (by decide) (by decide) (by decide) ?_
  intro T109 h110 a108 S111 d112 hf
  show WGo _ _ _ _ _ _ _ _ T109 (mkF m 8 #[.val (.ref a1), .val (.int (E 67)), .unset, .unset, .unset, .unset, .unset, .unset, .unset] [(.ref a108)])
  refine WGo.st (fun _ q => XS.astoreN S111.here hx rfl (hb hby e7_8) rfl rfl (l' := #[.val (.ref a1), .val (.int (E 67)), .val (.ref a108), .unset, .unset, .unset, .unset, .unset, .unset]) rfl q) ?_
  show WGo _ _ _ _ _ _ _ _ T109 (mkF m 9 #[.val (.ref a1), .val (.int (E 67)), .val (.ref a108), .unset, .unset, .unset, .unset, .unset, .unset] [])
  refine WGo.st (fun _ q => XS.aloadN S111.here hx rfl (hb hby e7_9) rfl rfl q) ?_
  refine w_virtual S111 (y := (⟨"com/example/ookayama/ookayama/EdgeEnds", "vertexCount", "()I"⟩ : MethodName)) hown (hwi hw 41 rfl) (hwi hw 42 rfl) (hwi hw 44 rfl) (hwi hw 43 rfl) (hwi hw 14 rfl) (hwi hw 45 rfl) (by decide) (HS.obj d112 (i := 0) rfl) (rm_Vc l Z a0 hw n0 h110 a1 aF (F) n1 A2 S111.ge (hF1) (HS.pw d112 [0, 2] (by decide) rfl rfl) _ _ hf) (W := 0) (by decide) (by decide) (by decide) (by decide) rfl (by rw [hml]; rfl) (argsL := []) (rest := []) (ps := []) (rt := (some .int)) (by decide) rfl rfl rfl (by show 2 * 0 + _ ≤ _; exact Nat.le_of_eq rfl) (hb hby e7_10) ?_
  intro T113 h115 w116 S114 q117
  obtain ⟨y120, rfl, d118, hf⟩ := q117
  have d119 : HS Z a0 n0 h0 [a1, aV, aF, aE, aN] h115 [ob a1 cE F, ia aV 70 A1, ia aF n1 A2, ia aE 70 A3, ia aN 70 A4, ia a108 67 AZ] := HS.call d112 [0, 2] [ob a1 cE F, ia aF n1 A2] [ob a1 cE F, ia aF n1 A2] [] (by decide) rfl rfl d118
  show WGo _ _ _ _ _ _ _ _ T113 (mkF m 13 #[.val (.ref a1), .val (.int (E 67)), .val (.ref a108), .unset, .unset, .unset, .unset, .unset, .unset] [(.int (E y120))])
  refine w_anw S114 d119 (hwi hw 0 rfl) rfl rfl (hb hby e7_13) rfl (cap := 4) hf (by decide) (by decide) (by decide) ?_
  intro T122 h123 a121 S124 d125 hf
  show WGo _ _ _ _ _ _ _ _ T122 (mkF m 15 #[.val (.ref a1), .val (.int (E 67)), .val (.ref a108), .unset, .unset, .unset, .unset, .unset, .unset] [(.ref a121)])
  refine WGo.st (fun _ q => XS.astoreN S124.here hx rfl (hb hby e7_15) rfl rfl (l' := #[.val (.ref a1), .val (.int (E 67)), .val (.ref a108), .val (.ref a121), .unset, .unset, .unset, .unset, .unset]) rfl q) ?_
  show WGo _ _ _ _ _ _ _ _ T122 (mkF m 16 #[.val (.ref a1), .val (.int (E 67)), .val (.ref a108), .val (.ref a121), .unset, .unset, .unset, .unset, .unset] [])
  refine WGo.st (fun _ q => XS.aloadN S124.here hx rfl (hb hby e7_16) rfl rfl q) ?_
  refine w_virtual S124 (y := (⟨"com/example/ookayama/ookayama/EdgeEnds", "vertexCount", "()I"⟩ : MethodName)) hown (hwi hw 41 rfl) (hwi hw 42 rfl) (hwi hw 44 rfl) (hwi hw 43 rfl) (hwi hw 14 rfl) (hwi hw 45 rfl) (by decide) (HS.obj d125 (i := 0) rfl) (rm_Vc l Z a0 hw n0 h123 a1 aF (F) n1 A2 S124.ge (hF1) (HS.pw d125 [0, 2] (by decide) rfl rfl) _ _ hf) (W := 0) (by decide) (by decide) (by decide) (by decide) rfl (by rw [hml]; rfl) (argsL := []) (rest := []) (ps := []) (rt := (some .int)) (by decide) rfl rfl rfl (by show 2 * 0 + _ ≤ _; exact Nat.le_of_eq rfl) (hb hby e7_17) ?_
  intro T126 h128 w129 S127 q130
  obtain ⟨y133, rfl, d131, hf⟩ := q130
  have d132 : HS Z a0 n0 h0 [a1, aV, aF, aE, aN] h128 [ob a1 cE F, ia aV 70 A1, ia aF n1 A2, ia aE 70 A3, ia aN 70 A4, ia a108 67 AZ, ia a121 y120 AZ] := HS.call d125 [0, 2] [ob a1 cE F, ia aF n1 A2] [ob a1 cE F, ia aF n1 A2] [] (by decide) rfl rfl d131
  show WGo _ _ _ _ _ _ _ _ T126 (mkF m 20 #[.val (.ref a1), .val (.int (E 67)), .val (.ref a108), .val (.ref a121), .unset, .unset, .unset, .unset, .unset] [(.int (E y133))])
  refine w_anw S127 d132 (hwi hw 0 rfl) rfl rfl (hb hby e7_20) rfl (cap := 4) hf (by decide) (by decide) (by decide) ?_
  intro T135 h136 a134 S137 d138 hf
  show WGo _ _ _ _ _ _ _ _ T135 (mkF m 22 #[.val (.ref a1), .val (.int (E 67)), .val (.ref a108), .val (.ref a121), .unset, .unset, .unset, .unset, .unset] [(.ref a134)])
  refine WGo.st (fun _ q => XS.astore S137.here hx rfl (hb hby e7_22) rfl rfl (l' := #[.val (.ref a1), .val (.int (E 67)), .val (.ref a108), .val (.ref a121), .val (.ref a134), .unset, .unset, .unset, .unset]) rfl q) ?_
  show WGo _ _ _ _ _ _ _ _ T135 (mkF m 24 #[.val (.ref a1), .val (.int (E 67)), .val (.ref a108), .val (.ref a121), .val (.ref a134), .unset, .unset, .unset, .unset] [])
  refine WGo.st (fun _ q => XS.aload S137.here hx rfl (hb hby e7_24) rfl rfl q) ?_
  refine WGo.st (fun _ q => XS.iconst S137.here hx rfl (hb hby e7_26) q) ?_
  refine w_static S137 (y := (⟨"java/util/Arrays", "fill", "([II)V"⟩ : MethodName)) hown (hwi hw 56 rfl) (hwi hw 57 rfl) (hwi hw 58 rfl) (hwi hw 59 rfl) (by decide) (rm_Fi l Z a0 hw n0 h136 a134 y133 AZ 63 S137.ge  (HS.pw d138 [7] (by decide) rfl rfl) _ _ hf) (W := 0) (by decide) (by decide) (by decide) (by decide) rfl (by rw [hml]; rfl) (argsL := [(.ref a134), (.int (E 63))]) (rest := []) (ps := [(.array .int), .int]) (rt := none) (by decide) rfl rfl rfl (by show 2 * 0 + _ ≤ _; exact Nat.le_of_eq rfl) (hb hby e7_27) ?_
  intro T139 h141 w142 S140 q143
  obtain ⟨y146, rfl, d144, hf⟩ := q143
  have d145 : HS Z a0 n0 h0 [a1, aV, aF, aE, aN] h141 [ob a1 cE F, ia aV 70 A1, ia aF n1 A2, ia aE 70 A3, ia aN 70 A4, ia a108 67 AZ, ia a121 y120 AZ, ia a134 y133 y146] := HS.call d138 [7] [ia a134 y133 AZ] [ia a134 y133 y146] [] (by decide) rfl rfl d144
  show WGo _ _ _ _ _ _ _ _ T139 (mkF m 30 #[.val (.ref a1), .val (.int (E 67)), .val (.ref a108), .val (.ref a121), .val (.ref a134), .unset, .unset, .unset, .unset] [])
  refine WGo.st (fun _ q => XS.iconst S140.here hx rfl (hb hby e7_30) q) ?_
  refine WGo.st (fun _ q => XS.istore S140.here hx rfl (hb hby e7_31) rfl (l' := #[.val (.ref a1), .val (.int (E 67)), .val (.ref a108), .val (.ref a121), .val (.ref a134), .val (.int (E 64)), .unset, .unset, .unset]) rfl q) ?_
  show WGo _ _ _ _ _ _ _ _ T139 (mkF m 33 #[.val (.ref a1), .val (.int (E 67)), .val (.ref a108), .val (.ref a121), .val (.ref a134), .val (.int (E 64)), .unset, .unset, .unset] [])
  obtain ⟨Kx33, eKx33⟩ : ∃ K : Nat → Nat → Nat → Nat → Option Rt, K = (fun i151 A152 A153 A154 => Kf A152) := ⟨_, rfl⟩
  rw [← eKx33] at hf
  have hK33 : ∀ (T147 : State) (h148 : Heap) (u155 : Slot) (u156 : Slot) (u157 : Slot) (i151 : Nat) (A152 : Nat) (A153 : Nat) (A154 : Nat), WSt p l e R_Rp s m #[(.ref a1)] below meth c Z n0 T147 h148 (3) (11) → One u155 → One u156 → One u157 → HS Z a0 n0 h0 [a1, aV, aF, aE, aN] h148 [ob a1 cE F, ia aV 70 A1, ia aF n1 A2, ia aE 70 A3, ia aN 70 A4, ia a108 67 A152, ia a121 y120 A153, ia a134 y133 A154] → Kx33 i151 A152 A153 A154 = some r → WGo p e below s n0 (QRp Z a0 n0 h0 a1 aV aF aE aN F A1 n1 A2 A3 A4 Kf r) R_Rp.cells R_Rp.slots T147 (mkF m 121 #[.val (.ref a1), .val (.int (E 67)), .val (.ref a108), .val (.ref a121), .val (.ref a134), .val (.int (E i151)), u155, u156, u157] []) := by
    intro T147 h148 u155 u156 u157 i151 A152 A153 A154 S149 hu155 hu156 hu157 d150 hf
    rw [eKx33] at hf
    show WGo _ _ _ _ _ _ _ _ T147 (mkF m 121 #[.val (.ref a1), .val (.int (E 67)), .val (.ref a108), .val (.ref a121), .val (.ref a134), .val (.int (E i151)), u155, u156, u157] [])
    refine WGo.st (fun _ q => XS.aloadN S149.here hx rfl (hb hby e7_121) rfl rfl q) ?_
    refine w_retA S149 hret rfl rfl (hb hby e7_122) (by decide) (by decide) ?_
    exact ⟨a108, A152, rfl, HS.take d150 6, hf⟩
  have hL33 : ∀ (T147 : State) (h148 : Heap) (u155 : Slot) (u156 : Slot) (u157 : Slot) (i151 : Nat) (A152 : Nat) (A153 : Nat) (A154 : Nat), WSt p l e R_Rp s m #[(.ref a1)] below meth c Z n0 T147 h148 (3) (11) → One u155 → One u156 → One u157 → HS Z a0 n0 h0 [a1, aV, aF, aE, aN] h148 [ob a1 cE F, ia aV 70 A1, ia aF n1 A2, ia aE 70 A3, ia aN 70 A4, ia a108 67 A152, ia a121 y120 A153, ia a134 y133 A154] → fRp_L33 n1 A2 A3 A4 y120 y133 Kx33 i151 A152 A153 A154 = some r → WGo p e below s n0 (QRp Z a0 n0 h0 a1 aV aF aE aN F A1 n1 A2 A3 A4 Kf r) R_Rp.cells R_Rp.slots T147 (mkF m 33 #[.val (.ref a1), .val (.int (E 67)), .val (.ref a108), .val (.ref a121), .val (.ref a134), .val (.int (E i151)), u155, u156, u157] []) := by
    refine it8_ind (F := fRp_L33b n1 A2 A3 A4 y120 y133 Kx33) (P := fun (gv33 : Nat → Nat → Nat → Nat → Option Rt) => ∀ (T147 : State) (h148 : Heap) (u155 : Slot) (u156 : Slot) (u157 : Slot) (i151 : Nat) (A152 : Nat) (A153 : Nat) (A154 : Nat), WSt p l e R_Rp s m #[(.ref a1)] below meth c Z n0 T147 h148 (3) (11) → One u155 → One u156 → One u157 → HS Z a0 n0 h0 [a1, aV, aF, aE, aN] h148 [ob a1 cE F, ia aV 70 A1, ia aF n1 A2, ia aE 70 A3, ia aN 70 A4, ia a108 67 A152, ia a121 y120 A153, ia a134 y133 A154] → gv33 i151 A152 A153 A154 = some r → WGo p e below s n0 (QRp Z a0 n0 h0 a1 aV aF aE aN F A1 n1 A2 A3 A4 Kf r) R_Rp.cells R_Rp.slots T147 (mkF m 33 #[.val (.ref a1), .val (.int (E 67)), .val (.ref a108), .val (.ref a121), .val (.ref a134), .val (.int (E i151)), u155, u156, u157] [])) ?_ ?_
    · intro T147 h148 u155 u156 u157 i151 A152 A153 A154 S149 hu155 hu156 hu157 d150 hf
      cases (show (none : Option _) = some r from hf)
    · intro gv33 ih T147 h148 u155 u156 u157 i151 A152 A153 A154 S149 hu155 hu156 hu157 d150 hf
      rw [fRp_L33b] at hf
      show WGo _ _ _ _ _ _ _ _ T147 (mkF m 33 #[.val (.ref a1), .val (.int (E 67)), .val (.ref a108), .val (.ref a121), .val (.ref a134), .val (.int (E i151)), u155, u156, u157] [])
      refine WGo.st (fun _ q => XS.iload S149.here hx rfl (hb hby e7_33) rfl q) ?_
      refine WGo.st (fun _ q => XS.aloadN S149.here hx rfl (hb hby e7_35) rfl rfl q) ?_
      refine w_virtual S149 (y := (⟨"com/example/ookayama/ookayama/EdgeEnds", "vertexCount", "()I"⟩ : MethodName)) hown (hwi hw 41 rfl) (hwi hw 42 rfl) (hwi hw 44 rfl) (hwi hw 43 rfl) (hwi hw 14 rfl) (hwi hw 45 rfl) (by decide) (HS.obj d150 (i := 0) rfl) (rm_Vc l Z a0 hw n0 h148 a1 aF (F) n1 A2 S149.ge (hF1) (HS.pw d150 [0, 2] (by decide) rfl rfl) _ _ hf) (W := 1) (by decide) (by decide) (by decide) (by decide) rfl (by rw [hml]; rfl) (argsL := []) (rest := [(.int (E i151))]) (ps := []) (rt := (some .int)) (by decide) rfl rfl rfl (by show 2 * 0 + _ ≤ _; exact Nat.le_of_eq rfl) (hb hby e7_36) ?_
      intro T158 h160 w161 S159 q162
      obtain ⟨y165, rfl, d163, hf⟩ := q162
      have d164 : HS Z a0 n0 h0 [a1, aV, aF, aE, aN] h160 [ob a1 cE F, ia aV 70 A1, ia aF n1 A2, ia aE 70 A3, ia aN 70 A4, ia a108 67 A152, ia a121 y120 A153, ia a134 y133 A154] := HS.call d150 [0, 2] [ob a1 cE F, ia aF n1 A2] [ob a1 cE F, ia aF n1 A2] [] (by decide) rfl rfl d163
      show WGo _ _ _ _ _ _ _ _ T158 (mkF m 39 #[.val (.ref a1), .val (.int (E 67)), .val (.ref a108), .val (.ref a121), .val (.ref a134), .val (.int (E i151)), u155, u156, u157] [(.int (E y165)), (.int (E i151))])
      rcases ltN_some hf with ⟨c39, hf⟩ | ⟨c39, hf⟩
      · refine WGo.st (fun _ q => XS.icmpNo S159.here hx rfl (hb hby e7_39) rfl (tlt c39).2.1 q) ?_
        show WGo _ _ _ _ _ _ _ _ T158 (mkF m 42 #[.val (.ref a1), .val (.int (E 67)), .val (.ref a108), .val (.ref a121), .val (.ref a134), .val (.int (E i151)), u155, u156, u157] [])
        refine WGo.st (fun _ q => XS.iconst S159.here hx rfl (hb hby e7_42) q) ?_
        refine WGo.st (fun _ q => XS.istoreS S159.here hx rfl (hb hby e7_43) rfl rfl hu155 q) ?_
        show WGo _ _ _ _ _ _ _ _ T158 (mkF m 45 #[.val (.ref a1), .val (.int (E 67)), .val (.ref a108), .val (.ref a121), .val (.ref a134), .val (.int (E i151)), .val (.int (E 64)), u156, u157] [])
        obtain ⟨Kx45, eKx45⟩ : ∃ K : Nat → Nat → Nat → Nat → Option Rt, K = (fun i170 A171 A172 A173 => addN i151 65 fun z176 => (gv33 z176 A171 A172 A173)) := ⟨_, rfl⟩
        rw [← eKx45] at hf
        have hK45 : ∀ (T166 : State) (h167 : Heap) (u174 : Slot) (u175 : Slot) (i170 : Nat) (A171 : Nat) (A172 : Nat) (A173 : Nat), WSt p l e R_Rp s m #[(.ref a1)] below meth c Z n0 T166 h167 (3) (11) → One u174 → One u175 → HS Z a0 n0 h0 [a1, aV, aF, aE, aN] h167 [ob a1 cE F, ia aV 70 A1, ia aF n1 A2, ia aE 70 A3, ia aN 70 A4, ia a108 67 A171, ia a121 y120 A172, ia a134 y133 A173] → Kx45 i170 A171 A172 A173 = some r → WGo p e below s n0 (QRp Z a0 n0 h0 a1 aV aF aE aN F A1 n1 A2 A3 A4 Kf r) R_Rp.cells R_Rp.slots T166 (mkF m 115 #[.val (.ref a1), .val (.int (E 67)), .val (.ref a108), .val (.ref a121), .val (.ref a134), .val (.int (E i151)), .val (.int (E i170)), u174, u175] []) := by
          intro T166 h167 u174 u175 i170 A171 A172 A173 S168 hu174 hu175 d169 hf
          rw [eKx45] at hf
          show WGo _ _ _ _ _ _ _ _ T166 (mkF m 115 #[.val (.ref a1), .val (.int (E 67)), .val (.ref a108), .val (.ref a121), .val (.ref a134), .val (.int (E i151)), .val (.int (E i170)), u174, u175] [])
          refine w_incN S168 rfl (hb hby e7_115) (y := 65) (by decide) rfl (l1 := fun z0 => #[.val (.ref a1), .val (.int (E 67)), .val (.ref a108), .val (.ref a121), .val (.ref a134), .val (.int (E z0)), .val (.int (E i170)), u174, u175]) (fun _ => rfl) (fun _ => rfl) hf ?_
          intro z176 hf
          show WGo _ _ _ _ _ _ _ _ T166 (mkF m 118 #[.val (.ref a1), .val (.int (E 67)), .val (.ref a108), .val (.ref a121), .val (.ref a134), .val (.int (E z176)), .val (.int (E i170)), u174, u175] [])
          refine WGo.st (fun _ q => XS.goto S168.here hx rfl (pc0 := 118) (pc' := 33) rfl (hb hby e7_118) (by decide) (by decide) q) ?_
          show WGo _ _ _ _ _ _ _ _ T166 (mkF m 33 #[.val (.ref a1), .val (.int (E 67)), .val (.ref a108), .val (.ref a121), .val (.ref a134), .val (.int (E z176)), .val (.int (E i170)), u174, u175] [])
          exact ih T166 h167 (.val (.int (E i170))) u174 u175 z176 A171 A172 A173 S168 (One.val rfl) hu174 hu175 d169  hf
        have hL45 : ∀ (T166 : State) (h167 : Heap) (u174 : Slot) (u175 : Slot) (i170 : Nat) (A171 : Nat) (A172 : Nat) (A173 : Nat), WSt p l e R_Rp s m #[(.ref a1)] below meth c Z n0 T166 h167 (3) (11) → One u174 → One u175 → HS Z a0 n0 h0 [a1, aV, aF, aE, aN] h167 [ob a1 cE F, ia aV 70 A1, ia aF n1 A2, ia aE 70 A3, ia aN 70 A4, ia a108 67 A171, ia a121 y120 A172, ia a134 y133 A173] → fRp_L45 n1 A2 A3 A4 y120 y133 i151 Kx45 i170 A171 A172 A173 = some r → WGo p e below s n0 (QRp Z a0 n0 h0 a1 aV aF aE aN F A1 n1 A2 A3 A4 Kf r) R_Rp.cells R_Rp.slots T166 (mkF m 45 #[.val (.ref a1), .val (.int (E 67)), .val (.ref a108), .val (.ref a121), .val (.ref a134), .val (.int (E i151)), .val (.int (E i170)), u174, u175] []) := by
          refine it8_ind (F := fRp_L45b n1 A2 A3 A4 y120 y133 i151 Kx45) (P := fun (gv45 : Nat → Nat → Nat → Nat → Option Rt) => ∀ (T166 : State) (h167 : Heap) (u174 : Slot) (u175 : Slot) (i170 : Nat) (A171 : Nat) (A172 : Nat) (A173 : Nat), WSt p l e R_Rp s m #[(.ref a1)] below meth c Z n0 T166 h167 (3) (11) → One u174 → One u175 → HS Z a0 n0 h0 [a1, aV, aF, aE, aN] h167 [ob a1 cE F, ia aV 70 A1, ia aF n1 A2, ia aE 70 A3, ia aN 70 A4, ia a108 67 A171, ia a121 y120 A172, ia a134 y133 A173] → gv45 i170 A171 A172 A173 = some r → WGo p e below s n0 (QRp Z a0 n0 h0 a1 aV aF aE aN F A1 n1 A2 A3 A4 Kf r) R_Rp.cells R_Rp.slots T166 (mkF m 45 #[.val (.ref a1), .val (.int (E 67)), .val (.ref a108), .val (.ref a121), .val (.ref a134), .val (.int (E i151)), .val (.int (E i170)), u174, u175] [])) ?_ ?_
          · intro T166 h167 u174 u175 i170 A171 A172 A173 S168 hu174 hu175 d169 hf
            cases (show (none : Option _) = some r from hf)
          · intro gv45 ih T166 h167 u174 u175 i170 A171 A172 A173 S168 hu174 hu175 d169 hf
            rw [fRp_L45b] at hf
            show WGo _ _ _ _ _ _ _ _ T166 (mkF m 45 #[.val (.ref a1), .val (.int (E 67)), .val (.ref a108), .val (.ref a121), .val (.ref a134), .val (.int (E i151)), .val (.int (E i170)), u174, u175] [])
            refine WGo.st (fun _ q => XS.iload S168.here hx rfl (hb hby e7_45) rfl q) ?_
            refine WGo.st (fun _ q => XS.aloadN S168.here hx rfl (hb hby e7_47) rfl rfl q) ?_
            refine WGo.st (fun _ q => XS.iload S168.here hx rfl (hb hby e7_48) rfl q) ?_
            refine w_virtual S168 (y := (⟨"com/example/ookayama/ookayama/EdgeEnds", "degree", "(I)I"⟩ : MethodName)) hown (hwi hw 60 rfl) (hwi hw 61 rfl) (hwi hw 63 rfl) (hwi hw 62 rfl) (hwi hw 14 rfl) (hwi hw 64 rfl) (by decide) (HS.obj d169 (i := 0) rfl) (rm_Dg l Z a0 hw n0 h167 a1 aF (F) n1 A2 i151 S168.ge (hF1) (HS.pw d169 [0, 2] (by decide) rfl rfl) _ _ hf) (W := 1) (by decide) (by decide) (by decide) (by decide) rfl (by rw [hml]; rfl) (argsL := [(.int (E i151))]) (rest := [(.int (E i170))]) (ps := [.int]) (rt := (some .int)) (by decide) rfl rfl rfl (by show 2 * 0 + _ ≤ _; exact Nat.le_of_eq rfl) (hb hby e7_50) ?_
            intro T177 h179 w180 S178 q181
            obtain ⟨y184, rfl, d182, hf⟩ := q181
            have d183 : HS Z a0 n0 h0 [a1, aV, aF, aE, aN] h179 [ob a1 cE F, ia aV 70 A1, ia aF n1 A2, ia aE 70 A3, ia aN 70 A4, ia a108 67 A171, ia a121 y120 A172, ia a134 y133 A173] := HS.call d169 [0, 2] [ob a1 cE F, ia aF n1 A2] [ob a1 cE F, ia aF n1 A2] [] (by decide) rfl rfl d182
            show WGo _ _ _ _ _ _ _ _ T177 (mkF m 53 #[.val (.ref a1), .val (.int (E 67)), .val (.ref a108), .val (.ref a121), .val (.ref a134), .val (.int (E i151)), .val (.int (E i170)), u174, u175] [(.int (E y184)), (.int (E i170))])
            rcases ltN_some hf with ⟨c53, hf⟩ | ⟨c53, hf⟩
            · refine WGo.st (fun _ q => XS.icmpNo S178.here hx rfl (hb hby e7_53) rfl (tlt c53).2.1 q) ?_
              show WGo _ _ _ _ _ _ _ _ T177 (mkF m 56 #[.val (.ref a1), .val (.int (E 67)), .val (.ref a108), .val (.ref a121), .val (.ref a134), .val (.int (E i151)), .val (.int (E i170)), u174, u175] [])
              refine WGo.st (fun _ q => XS.aloadN S178.here hx rfl (hb hby e7_56) rfl rfl q) ?_
              refine WGo.st (fun _ q => XS.iload S178.here hx rfl (hb hby e7_57) rfl q) ?_
              refine WGo.st (fun _ q => XS.iload S178.here hx rfl (hb hby e7_59) rfl q) ?_
              refine w_virtual S178 (y := (⟨"com/example/ookayama/ookayama/EdgeEnds", "endAt", "(II)I"⟩ : MethodName)) hown (hwi hw 65 rfl) (hwi hw 66 rfl) (hwi hw 68 rfl) (hwi hw 67 rfl) (hwi hw 14 rfl) (hwi hw 69 rfl) (by decide) (HS.obj d183 (i := 0) rfl) (rm_Ea l Z a0 hw n0 h179 a1 aF aE (F) n1 A2 A3 i151 i170 S178.ge (hF1) (hF2) (HS.pw d183 [0, 2, 3] (by decide) rfl rfl) _ _ hf) (W := 0) (by decide) (by decide) (by decide) (by decide) rfl (by rw [hml]; rfl) (argsL := [(.int (E i151)), (.int (E i170))]) (rest := []) (ps := [.int, .int]) (rt := (some .int)) (by decide) rfl rfl rfl (by show 2 * 0 + _ ≤ _; exact Nat.le_of_eq rfl) (hb hby e7_61) ?_
              intro T185 h187 w188 S186 q189
              obtain ⟨y192, rfl, d190, hf⟩ := q189
              have d191 : HS Z a0 n0 h0 [a1, aV, aF, aE, aN] h187 [ob a1 cE F, ia aV 70 A1, ia aF n1 A2, ia aE 70 A3, ia aN 70 A4, ia a108 67 A171, ia a121 y120 A172, ia a134 y133 A173] := HS.call d183 [0, 2, 3] [ob a1 cE F, ia aF n1 A2, ia aE 70 A3] [ob a1 cE F, ia aF n1 A2, ia aE 70 A3] [] (by decide) rfl rfl d190
              show WGo _ _ _ _ _ _ _ _ T185 (mkF m 64 #[.val (.ref a1), .val (.int (E 67)), .val (.ref a108), .val (.ref a121), .val (.ref a134), .val (.int (E i151)), .val (.int (E i170)), u174, u175] [(.int (E y192))])
              refine WGo.st (fun _ q => XS.iconst S186.here hx rfl (hb hby e7_64) q) ?_
              refine w_shrN S186 rfl (hb hby e7_65) rfl hf ?_
              intro z193 hf
              show WGo _ _ _ _ _ _ _ _ T185 (mkF m 66 #[.val (.ref a1), .val (.int (E 67)), .val (.ref a108), .val (.ref a121), .val (.ref a134), .val (.int (E i151)), .val (.int (E i170)), u174, u175] [(.int (E z193))])
              refine WGo.st (fun _ q => XS.istoreS S186.here hx rfl (hb hby e7_66) rfl rfl hu174 q) ?_
              show WGo _ _ _ _ _ _ _ _ T185 (mkF m 68 #[.val (.ref a1), .val (.int (E 67)), .val (.ref a108), .val (.ref a121), .val (.ref a134), .val (.int (E i151)), .val (.int (E i170)), .val (.int (E z193)), u175] [])
              refine WGo.st (fun _ q => XS.aloadN S186.here hx rfl (hb hby e7_68) rfl rfl q) ?_
              refine WGo.st (fun _ q => XS.iload S186.here hx rfl (hb hby e7_69) rfl q) ?_
              refine WGo.st (fun _ q => XS.iload S186.here hx rfl (hb hby e7_71) rfl q) ?_
              refine w_virtual S186 (y := (⟨"com/example/ookayama/ookayama/EdgeEnds", "neighbour", "(II)I"⟩ : MethodName)) hown (hwi hw 71 rfl) (hwi hw 72 rfl) (hwi hw 74 rfl) (hwi hw 73 rfl) (hwi hw 14 rfl) (hwi hw 75 rfl) (by decide) (HS.obj d191 (i := 0) rfl) (rm_Nb l Z a0 hw n0 h187 a1 aF aN (F) n1 A2 A4 i151 i170 S186.ge (hF1) (hF3) (HS.pw d191 [0, 2, 4] (by decide) rfl rfl) _ _ hf) (W := 0) (by decide) (by decide) (by decide) (by decide) rfl (by rw [hml]; rfl) (argsL := [(.int (E i151)), (.int (E i170))]) (rest := []) (ps := [.int, .int]) (rt := (some .int)) (by decide) rfl rfl rfl (by show 2 * 0 + _ ≤ _; exact Nat.le_of_eq rfl) (hb hby e7_73) ?_
              intro T194 h196 w197 S195 q198
              obtain ⟨y201, rfl, d199, hf⟩ := q198
              have d200 : HS Z a0 n0 h0 [a1, aV, aF, aE, aN] h196 [ob a1 cE F, ia aV 70 A1, ia aF n1 A2, ia aE 70 A3, ia aN 70 A4, ia a108 67 A171, ia a121 y120 A172, ia a134 y133 A173] := HS.call d191 [0, 2, 4] [ob a1 cE F, ia aF n1 A2, ia aN 70 A4] [ob a1 cE F, ia aF n1 A2, ia aN 70 A4] [] (by decide) rfl rfl d199
              show WGo _ _ _ _ _ _ _ _ T194 (mkF m 76 #[.val (.ref a1), .val (.int (E 67)), .val (.ref a108), .val (.ref a121), .val (.ref a134), .val (.int (E i151)), .val (.int (E i170)), .val (.int (E z193)), u175] [(.int (E y201))])
              refine WGo.st (fun _ q => XS.istoreS S195.here hx rfl (hb hby e7_76) rfl rfl hu175 q) ?_
              show WGo _ _ _ _ _ _ _ _ T194 (mkF m 78 #[.val (.ref a1), .val (.int (E 67)), .val (.ref a108), .val (.ref a121), .val (.ref a134), .val (.int (E i151)), .val (.int (E i170)), .val (.int (E z193)), .val (.int (E y201))] [])
              refine WGo.st (fun _ q => XS.aload S195.here hx rfl (hb hby e7_78) rfl rfl q) ?_
              refine WGo.st (fun _ q => XS.iload S195.here hx rfl (hb hby e7_80) rfl q) ?_
              refine w_ald S195 d200 (i := 7) rfl rfl (hb hby e7_82) rfl hf ?_
              intro x202 hf
              show WGo _ _ _ _ _ _ _ _ T194 (mkF m 83 #[.val (.ref a1), .val (.int (E 67)), .val (.ref a108), .val (.ref a121), .val (.ref a134), .val (.int (E i151)), .val (.int (E i170)), .val (.int (E z193)), .val (.int (E y201))] [(.int (E x202))])
              refine WGo.st (fun _ q => XS.iload S195.here hx rfl (hb hby e7_83) rfl q) ?_
              rcases eqN_some hf with ⟨c85, hf⟩ | ⟨c85, hf⟩
              · refine WGo.st (fun _ q => XS.icmpYes S195.here hx rfl (pc0 := 85) (pc' := 101) rfl (hb hby e7_85) rfl (teq c85).1 (by decide) (by decide) q) ?_
                show WGo _ _ _ _ _ _ _ _ T194 (mkF m 101 #[.val (.ref a1), .val (.int (E 67)), .val (.ref a108), .val (.ref a121), .val (.ref a134), .val (.int (E i151)), .val (.int (E i170)), .val (.int (E z193)), .val (.int (E y201))] [])
                refine WGo.st (fun _ q => XS.aloadN S195.here hx rfl (hb hby e7_101) rfl rfl q) ?_
                refine WGo.st (fun _ q => XS.iload S195.here hx rfl (hb hby e7_102) rfl q) ?_
                refine WGo.st (fun _ q => XS.aloadN S195.here hx rfl (hb hby e7_104) rfl rfl q) ?_
                refine WGo.st (fun _ q => XS.iload S195.here hx rfl (hb hby e7_105) rfl q) ?_
                refine w_ald S195 d200 (i := 6) rfl rfl (hb hby e7_107) rfl hf ?_
                intro x203 hf
                show WGo _ _ _ _ _ _ _ _ T194 (mkF m 108 #[.val (.ref a1), .val (.int (E 67)), .val (.ref a108), .val (.ref a121), .val (.ref a134), .val (.int (E i151)), .val (.int (E i170)), .val (.int (E z193)), .val (.int (E y201))] [(.int (E x203)), (.int (E z193)), (.ref a108)])
                refine w_ast S195 d200 (i := 5) rfl rfl (hb hby e7_108) rfl hf ?_
                intro T205 h206 A204 S207 d208 hf
                show WGo _ _ _ _ _ _ _ _ T205 (mkF m 109 #[.val (.ref a1), .val (.int (E 67)), .val (.ref a108), .val (.ref a121), .val (.ref a134), .val (.int (E i151)), .val (.int (E i170)), .val (.int (E z193)), .val (.int (E y201))] [])
                refine w_incN S207 rfl (hb hby e7_109) (y := 65) (by decide) rfl (l1 := fun z0 => #[.val (.ref a1), .val (.int (E 67)), .val (.ref a108), .val (.ref a121), .val (.ref a134), .val (.int (E i151)), .val (.int (E z0)), .val (.int (E z193)), .val (.int (E y201))]) (fun _ => rfl) (fun _ => rfl) hf ?_
                intro z209 hf
                show WGo _ _ _ _ _ _ _ _ T205 (mkF m 112 #[.val (.ref a1), .val (.int (E 67)), .val (.ref a108), .val (.ref a121), .val (.ref a134), .val (.int (E i151)), .val (.int (E z209)), .val (.int (E z193)), .val (.int (E y201))] [])
                refine WGo.st (fun _ q => XS.goto S207.here hx rfl (pc0 := 112) (pc' := 45) rfl (hb hby e7_112) (by decide) (by decide) q) ?_
                show WGo _ _ _ _ _ _ _ _ T205 (mkF m 45 #[.val (.ref a1), .val (.int (E 67)), .val (.ref a108), .val (.ref a121), .val (.ref a134), .val (.int (E i151)), .val (.int (E z209)), .val (.int (E z193)), .val (.int (E y201))] [])
                exact ih T205 h206 (.val (.int (E z193))) (.val (.int (E y201))) z209 A204 A172 A173 S207 (One.val rfl) (One.val rfl) d208  hf
              · refine WGo.st (fun _ q => XS.icmpNo S195.here hx rfl (hb hby e7_85) rfl (feq c85).1 q) ?_
                show WGo _ _ _ _ _ _ _ _ T194 (mkF m 88 #[.val (.ref a1), .val (.int (E 67)), .val (.ref a108), .val (.ref a121), .val (.ref a134), .val (.int (E i151)), .val (.int (E i170)), .val (.int (E z193)), .val (.int (E y201))] [])
                refine WGo.st (fun _ q => XS.aload S195.here hx rfl (hb hby e7_88) rfl rfl q) ?_
                refine WGo.st (fun _ q => XS.iload S195.here hx rfl (hb hby e7_90) rfl q) ?_
                refine WGo.st (fun _ q => XS.iload S195.here hx rfl (hb hby e7_92) rfl q) ?_
                refine w_ast S195 d200 (i := 7) rfl rfl (hb hby e7_94) rfl hf ?_
                intro T211 h212 A210 S213 d214 hf
                show WGo _ _ _ _ _ _ _ _ T211 (mkF m 95 #[.val (.ref a1), .val (.int (E 67)), .val (.ref a108), .val (.ref a121), .val (.ref a134), .val (.int (E i151)), .val (.int (E i170)), .val (.int (E z193)), .val (.int (E y201))] [])
                refine WGo.st (fun _ q => XS.aloadN S213.here hx rfl (hb hby e7_95) rfl rfl q) ?_
                refine WGo.st (fun _ q => XS.iload S213.here hx rfl (hb hby e7_96) rfl q) ?_
                refine WGo.st (fun _ q => XS.iload S213.here hx rfl (hb hby e7_98) rfl q) ?_
                refine w_ast S213 d214 (i := 6) rfl rfl (hb hby e7_100) rfl hf ?_
                intro T216 h217 A215 S218 d219 hf
                show WGo _ _ _ _ _ _ _ _ T216 (mkF m 101 #[.val (.ref a1), .val (.int (E 67)), .val (.ref a108), .val (.ref a121), .val (.ref a134), .val (.int (E i151)), .val (.int (E i170)), .val (.int (E z193)), .val (.int (E y201))] [])
                refine WGo.st (fun _ q => XS.aloadN S218.here hx rfl (hb hby e7_101) rfl rfl q) ?_
                refine WGo.st (fun _ q => XS.iload S218.here hx rfl (hb hby e7_102) rfl q) ?_
                refine WGo.st (fun _ q => XS.aloadN S218.here hx rfl (hb hby e7_104) rfl rfl q) ?_
                refine WGo.st (fun _ q => XS.iload S218.here hx rfl (hb hby e7_105) rfl q) ?_
                refine w_ald S218 d219 (i := 6) rfl rfl (hb hby e7_107) rfl hf ?_
                intro x220 hf
                show WGo _ _ _ _ _ _ _ _ T216 (mkF m 108 #[.val (.ref a1), .val (.int (E 67)), .val (.ref a108), .val (.ref a121), .val (.ref a134), .val (.int (E i151)), .val (.int (E i170)), .val (.int (E z193)), .val (.int (E y201))] [(.int (E x220)), (.int (E z193)), (.ref a108)])
                refine w_ast S218 d219 (i := 5) rfl rfl (hb hby e7_108) rfl hf ?_
                intro T222 h223 A221 S224 d225 hf
                show WGo _ _ _ _ _ _ _ _ T222 (mkF m 109 #[.val (.ref a1), .val (.int (E 67)), .val (.ref a108), .val (.ref a121), .val (.ref a134), .val (.int (E i151)), .val (.int (E i170)), .val (.int (E z193)), .val (.int (E y201))] [])
                refine w_incN S224 rfl (hb hby e7_109) (y := 65) (by decide) rfl (l1 := fun z0 => #[.val (.ref a1), .val (.int (E 67)), .val (.ref a108), .val (.ref a121), .val (.ref a134), .val (.int (E i151)), .val (.int (E z0)), .val (.int (E z193)), .val (.int (E y201))]) (fun _ => rfl) (fun _ => rfl) hf ?_
                intro z226 hf
                show WGo _ _ _ _ _ _ _ _ T222 (mkF m 112 #[.val (.ref a1), .val (.int (E 67)), .val (.ref a108), .val (.ref a121), .val (.ref a134), .val (.int (E i151)), .val (.int (E z226)), .val (.int (E z193)), .val (.int (E y201))] [])
                refine WGo.st (fun _ q => XS.goto S224.here hx rfl (pc0 := 112) (pc' := 45) rfl (hb hby e7_112) (by decide) (by decide) q) ?_
                show WGo _ _ _ _ _ _ _ _ T222 (mkF m 45 #[.val (.ref a1), .val (.int (E 67)), .val (.ref a108), .val (.ref a121), .val (.ref a134), .val (.int (E i151)), .val (.int (E z226)), .val (.int (E z193)), .val (.int (E y201))] [])
                exact ih T222 h223 (.val (.int (E z193))) (.val (.int (E y201))) z226 A221 A215 A210 S224 (One.val rfl) (One.val rfl) d225  hf
            · refine WGo.st (fun _ q => XS.icmpYes S178.here hx rfl (pc0 := 53) (pc' := 115) rfl (hb hby e7_53) rfl (flt c53).2.1 (by decide) (by decide) q) ?_
              show WGo _ _ _ _ _ _ _ _ T177 (mkF m 115 #[.val (.ref a1), .val (.int (E 67)), .val (.ref a108), .val (.ref a121), .val (.ref a134), .val (.int (E i151)), .val (.int (E i170)), u174, u175] [])
              exact hK45 T177 h179 u174 u175 i170 A171 A172 A173 S178 hu174 hu175 d183 hf
        exact hL45 T158 h160 u156 u157 64 A152 A153 A154 S159 hu156 hu157 d164 hf
      · refine WGo.st (fun _ q => XS.icmpYes S159.here hx rfl (pc0 := 39) (pc' := 121) rfl (hb hby e7_39) rfl (flt c39).2.1 (by decide) (by decide) q) ?_
        show WGo _ _ _ _ _ _ _ _ T158 (mkF m 121 #[.val (.ref a1), .val (.int (E 67)), .val (.ref a108), .val (.ref a121), .val (.ref a134), .val (.int (E i151)), u155, u156, u157] [])
        exact hK33 T158 h160 u155 u156 u157 i151 A152 A153 A154 S159 hu155 hu156 hu157 d164 hf
  exact hL33 T139 h141 (.unset) (.unset) (.unset) 64 AZ AZ y146 S140 One.u One.u One.u d145 hf
theorem e12_0 : decode prog_27_method_3_code 0 = .ok (.iconst 0, 1) := by decide +kernel
theorem e12_1 : decode prog_27_method_3_code 1 = .ok (.istore_n 1, 1) := by decide +kernel
theorem e12_2 : decode prog_27_method_3_code 2 = .ok (.iload_n 1, 1) := by decide +kernel
theorem e12_3 : decode prog_27_method_3_code 3 = .ok (.aload_n 0, 1) := by decide +kernel
theorem e12_4 : decode prog_27_method_3_code 4 = .ok (.arraylength, 1) := by decide +kernel
theorem e12_5 : decode prog_27_method_3_code 5 = .ok (.if_icmp .ge 18, 3) := by decide +kernel
theorem e12_8 : decode prog_27_method_3_code 8 = .ok (.aload_n 0, 1) := by decide +kernel
theorem e12_9 : decode prog_27_method_3_code 9 = .ok (.iload_n 1, 1) := by decide +kernel
theorem e12_10 : decode prog_27_method_3_code 10 = .ok (.iaload, 1) := by decide +kernel
theorem e12_11 : decode prog_27_method_3_code 11 = .ok (.iload_n 1, 1) := by decide +kernel
theorem e12_12 : decode prog_27_method_3_code 12 = .ok (.if_icmp .eq 5, 3) := by decide +kernel
theorem e12_15 : decode prog_27_method_3_code 15 = .ok (.iconst 1, 1) := by decide +kernel
theorem e12_16 : decode prog_27_method_3_code 16 = .ok (.ireturn, 1) := by decide +kernel
theorem e12_17 : decode prog_27_method_3_code 17 = .ok (.iinc 1 1, 3) := by decide +kernel
theorem e12_20 : decode prog_27_method_3_code 20 = .ok (.goto (-18), 3) := by decide +kernel
theorem e12_23 : decode prog_27_method_3_code 23 = .ok (.iconst 0, 1) := by decide +kernel
theorem e12_24 : decode prog_27_method_3_code 24 = .ok (.ireturn, 1) := by decide +kernel
abbrev R_Hc : Room := { frames := 0, cells := 0, slots := 0, locals := 0 }
def fHc_L2b {Rt : Type} (A1 : Nat) (Kf : Nat → Option Rt) (Kx2 : Nat → Option Rt) (gv2 : Nat → Option Rt) (i105 : Nat) : Option Rt := capN 67 1000 (ltN i105 67 (rdN A1 67 i105 fun x106 => (eqN x106 i105 (addN i105 65 fun z107 => (gv2 z107)) (Kf 65))) (Kx2 i105))
def fHc_L2 {Rt : Type} (A1 : Nat) (Kf : Nat → Option Rt) (Kx2 : Nat → Option Rt) : Nat → Option Rt := it8 (fHc_L2b A1 Kf Kx2) (fun _ => none)
def fHc {Rt : Type} (A1 : Nat) (Kf : Nat → Option Rt) : Option Rt := fHc_L2 A1 Kf (fun i105 => Kf 64) 64
def QHc {Rt : Type} (Z : State) (a0 : Array Value) (n0 : Nat) (h0 : Heap) (b1 : Addr) (A1 : Nat) (Kf : Nat → Option Rt) (r : Rt) (v : Option Value) (h : Heap) : Prop := ∃ z : Nat, v = some (.int (E z)) ∧ HS Z a0 n0 h0 [b1] h [ia b1 67 A1] ∧ Kf z = some r
theorem ef_Hc (m : MethodId) (b1 : Addr) : entryFrame m #[(.ref b1)] 2 = mkF m 0 #[.val (.ref b1), .unset] [] := by first | (simp [entryFrame, mkF, argsToLocals, Value.category, maxLocals]; done) | rfl
set_option maxRecDepth 65536 in
set_option maxHeartbeats 40000000 in
theorem rm_Hc {Rt : Type} (l : Launch) (Z : State) (a0 : Array Value) (hw : ∀ d ∈ tables_1, d.before a0 Z = true) (n0 : Nat) (h0 : Heap) (b1 : Addr) (A1 : Nat) (Z0 : n0 ≤ h0.size)  (d0 : HS Z a0 n0 h0 [b1] h0 [ia b1 67 A1]) (Kf : Nat → Option Rt) (r : Rt) (hf : fHc A1 Kf = some r) :
    WCon l Z n0 h0 (⟨"com/example/ookayama/ookayama/EdgeAddition", "hasCopies", "([I)Z"⟩ : MethodName) prog_27_method_3_code 2 (some .boolean) [] R_Hc #[(.ref b1)] (QHc Z a0 n0 h0 b1 A1 Kf r) := by
  refine WCon.of (by first | exact plainFor_of_name (by decide +kernel) | decide +kernel) Z0 ?_
  intro p e s m below meth c T hx hZ hby hml hown hnm hret S
  refine WGo.cast (ef_Hc m b1) ?_
  rw [fHc] at hf
  show WGo _ _ _ _ _ _ _ _ T (mkF m 0 #[.val (.ref b1), .unset] [])
  refine WGo.st (fun _ q => XS.iconst S.here hx rfl (hb hby e12_0) q) ?_
  refine WGo.st (fun _ q => XS.istoreN S.here hx rfl (hb hby e12_1) rfl (l' := #[.val (.ref b1), .val (.int (E 64))]) rfl q) ?_
  show WGo _ _ _ _ _ _ _ _ T (mkF m 2 #[.val (.ref b1), .val (.int (E 64))] [])
  obtain ⟨Kx2, eKx2⟩ : ∃ K : Nat → Option Rt, K = (fun i105 => Kf 64) := ⟨_, rfl⟩
  rw [← eKx2] at hf
  have hK2 : ∀ (T101 : State) (h102 : Heap) (i105 : Nat), WSt p l e R_Hc s m #[(.ref b1)] below meth c Z n0 T101 h102 (0) (0) → HS Z a0 n0 h0 [b1] h102 [ia b1 67 A1] → Kx2 i105 = some r → WGo p e below s n0 (QHc Z a0 n0 h0 b1 A1 Kf r) R_Hc.cells R_Hc.slots T101 (mkF m 23 #[.val (.ref b1), .val (.int (E i105))] []) := by
    intro T101 h102  i105 S103  d104 hf
    rw [eKx2] at hf
    show WGo _ _ _ _ _ _ _ _ T101 (mkF m 23 #[.val (.ref b1), .val (.int (E i105))] [])
    refine WGo.st (fun _ q => XS.iconst S103.here hx rfl (hb hby e12_23) q) ?_
    refine w_retZ S103 hret (hb hby e12_24) (by decide) (by decide) (by decide) ?_
    exact ⟨64, rfl, d104, hf⟩
  have hL2 : ∀ (T101 : State) (h102 : Heap) (i105 : Nat), WSt p l e R_Hc s m #[(.ref b1)] below meth c Z n0 T101 h102 (0) (0) → HS Z a0 n0 h0 [b1] h102 [ia b1 67 A1] → fHc_L2 A1 Kf Kx2 i105 = some r → WGo p e below s n0 (QHc Z a0 n0 h0 b1 A1 Kf r) R_Hc.cells R_Hc.slots T101 (mkF m 2 #[.val (.ref b1), .val (.int (E i105))] []) := by
    refine it8_ind (F := fHc_L2b A1 Kf Kx2) (P := fun (gv2 : Nat → Option Rt) => ∀ (T101 : State) (h102 : Heap) (i105 : Nat), WSt p l e R_Hc s m #[(.ref b1)] below meth c Z n0 T101 h102 (0) (0) → HS Z a0 n0 h0 [b1] h102 [ia b1 67 A1] → gv2 i105 = some r → WGo p e below s n0 (QHc Z a0 n0 h0 b1 A1 Kf r) R_Hc.cells R_Hc.slots T101 (mkF m 2 #[.val (.ref b1), .val (.int (E i105))] [])) ?_ ?_
    · intro T101 h102  i105 S103  d104 hf
      cases (show (none : Option _) = some r from hf)
    · intro gv2 ih T101 h102  i105 S103  d104 hf
      rw [fHc_L2b] at hf
      show WGo _ _ _ _ _ _ _ _ T101 (mkF m 2 #[.val (.ref b1), .val (.int (E i105))] [])
      refine WGo.st (fun _ q => XS.iloadN S103.here hx rfl (hb hby e12_2) rfl q) ?_
      refine WGo.st (fun _ q => XS.aloadN S103.here hx rfl (hb hby e12_3) rfl rfl q) ?_
      refine w_aln S103 d104 (i := 0) rfl rfl (hb hby e12_4) rfl hf ?_
      intro hf
      show WGo _ _ _ _ _ _ _ _ T101 (mkF m 5 #[.val (.ref b1), .val (.int (E i105))] [(.int (E 67)), (.int (E i105))])
      rcases ltN_some hf with ⟨c5, hf⟩ | ⟨c5, hf⟩
      · refine WGo.st (fun _ q => XS.icmpNo S103.here hx rfl (hb hby e12_5) rfl (tlt c5).2.1 q) ?_
        show WGo _ _ _ _ _ _ _ _ T101 (mkF m 8 #[.val (.ref b1), .val (.int (E i105))] [])
        refine WGo.st (fun _ q => XS.aloadN S103.here hx rfl (hb hby e12_8) rfl rfl q) ?_
        refine WGo.st (fun _ q => XS.iloadN S103.here hx rfl (hb hby e12_9) rfl q) ?_
        refine w_ald S103 d104 (i := 0) rfl rfl (hb hby e12_10) rfl hf ?_
        intro x106 hf
        show WGo _ _ _ _ _ _ _ _ T101 (mkF m 11 #[.val (.ref b1), .val (.int (E i105))] [(.int (E x106))])
        refine WGo.st (fun _ q => XS.iloadN S103.here hx rfl (hb hby e12_11) rfl q) ?_
        rcases eqN_some hf with ⟨c12, hf⟩ | ⟨c12, hf⟩
        · refine WGo.st (fun _ q => XS.icmpYes S103.here hx rfl (pc0 := 12) (pc' := 17) rfl (hb hby e12_12) rfl (teq c12).1 (by decide) (by decide) q) ?_
          show WGo _ _ _ _ _ _ _ _ T101 (mkF m 17 #[.val (.ref b1), .val (.int (E i105))] [])
          refine w_incN S103 rfl (hb hby e12_17) (y := 65) (by decide) rfl (l1 := fun z0 => #[.val (.ref b1), .val (.int (E z0))]) (fun _ => rfl) (fun _ => rfl) hf ?_
          intro z107 hf
          show WGo _ _ _ _ _ _ _ _ T101 (mkF m 20 #[.val (.ref b1), .val (.int (E z107))] [])
          refine WGo.st (fun _ q => XS.goto S103.here hx rfl (pc0 := 20) (pc' := 2) rfl (hb hby e12_20) (by decide) (by decide) q) ?_
          show WGo _ _ _ _ _ _ _ _ T101 (mkF m 2 #[.val (.ref b1), .val (.int (E z107))] [])
          exact ih T101 h102  z107 S103  d104  hf
        · refine WGo.st (fun _ q => XS.icmpNo S103.here hx rfl (hb hby e12_12) rfl (feq c12).1 q) ?_
          show WGo _ _ _ _ _ _ _ _ T101 (mkF m 15 #[.val (.ref b1), .val (.int (E i105))] [])
          refine WGo.st (fun _ q => XS.iconst S103.here hx rfl (hb hby e12_15) q) ?_
          refine w_retZ S103 hret (hb hby e12_16) (by decide) (by decide) (by decide) ?_
          exact ⟨65, rfl, d104, hf⟩
      · refine WGo.st (fun _ q => XS.icmpYes S103.here hx rfl (pc0 := 5) (pc' := 23) rfl (hb hby e12_5) rfl (flt c5).2.1 (by decide) (by decide) q) ?_
        show WGo _ _ _ _ _ _ _ _ T101 (mkF m 23 #[.val (.ref b1), .val (.int (E i105))] [])
        exact hK2 T101 h102  i105 S103  d104 hf
  exact hL2 T h0  64 S  d0 hf
theorem e16_0 : decode prog_27_method_4_code 0 = .ok (.aload_n 0, 1) := by decide +kernel
theorem e16_1 : decode prog_27_method_4_code 1 = .ok (.getfield 40, 3) := by decide +kernel
theorem e16_4 : decode prog_27_method_4_code 4 = .ok (.iload_n 1, 1) := by decide +kernel
theorem e16_5 : decode prog_27_method_4_code 5 = .ok (.iaload, 1) := by decide +kernel
theorem e16_6 : decode prog_27_method_4_code 6 = .ok (.iload_n 1, 1) := by decide +kernel
theorem e16_7 : decode prog_27_method_4_code 7 = .ok (.if_icmp .ne 7, 3) := by decide +kernel
theorem e16_10 : decode prog_27_method_4_code 10 = .ok (.iconst 1, 1) := by decide +kernel
theorem e16_11 : decode prog_27_method_4_code 11 = .ok (.goto 4, 3) := by decide +kernel
theorem e16_14 : decode prog_27_method_4_code 14 = .ok (.iconst 0, 1) := by decide +kernel
theorem e16_15 : decode prog_27_method_4_code 15 = .ok (.ireturn, 1) := by decide +kernel
abbrev R_Ir : Room := { frames := 0, cells := 0, slots := 0, locals := 0 }
def fIr {Rt : Type} (A1 : Nat) (x1 : Nat) (Kf : Nat → Option Rt) : Option Rt := rdN A1 67 x1 fun x103 => (eqN x103 x1 (Kf 65) (Kf 64))
def QIr {Rt : Type} (Z : State) (a0 : Array Value) (n0 : Nat) (h0 : Heap) (a1 : Addr) (b1 : Addr) (F : List (String × String × Value)) (A1 : Nat) (x1 : Nat) (Kf : Nat → Option Rt) (r : Rt) (v : Option Value) (h : Heap) : Prop := ∃ z : Nat, v = some (.int (E z)) ∧ HS Z a0 n0 h0 [a1, b1] h [ob a1 cA F, ia b1 67 A1] ∧ Kf z = some r
theorem ef_Ir (m : MethodId) (a1 : Addr) (x1 : Nat) : entryFrame m #[(.ref a1), (.int (E x1))] 2 = mkF m 0 #[.val (.ref a1), .val (.int (E x1))] [] := by first | (simp [entryFrame, mkF, argsToLocals, Value.category, maxLocals]; done) | rfl
set_option maxRecDepth 65536 in
set_option maxHeartbeats 40000000 in
theorem rm_Ir {Rt : Type} (l : Launch) (Z : State) (a0 : Array Value) (hw : ∀ d ∈ tables_1, d.before a0 Z = true) (n0 : Nat) (h0 : Heap) (a1 : Addr) (b1 : Addr) (F : List (String × String × Value)) (A1 : Nat) (x1 : Nat) (Z0 : n0 ≤ h0.size) (hF5 : FL F 5 "representative" "[I" (.ref b1)) (d0 : HS Z a0 n0 h0 [a1, b1] h0 [ob a1 cA F, ia b1 67 A1]) (Kf : Nat → Option Rt) (r : Rt) (hf : fIr A1 x1 Kf = some r) :
    WCon l Z n0 h0 (⟨"com/example/ookayama/ookayama/EdgeAddition", "isRepresentative", "(I)Z"⟩ : MethodName) prog_27_method_4_code 2 (some .boolean) [] R_Ir #[(.ref a1), (.int (E x1))] (QIr Z a0 n0 h0 a1 b1 F A1 x1 Kf r) := by
  refine WCon.of (by first | exact plainFor_of_name (by decide +kernel) | decide +kernel) Z0 ?_
  intro p e s m below meth c T hx hZ hby hml hown hnm hret S
  refine WGo.cast (ef_Ir m a1 x1) ?_
  rw [fIr] at hf
  show WGo _ _ _ _ _ _ _ _ T (mkF m 0 #[.val (.ref a1), .val (.int (E x1))] [])
  refine WGo.st (fun _ q => XS.aloadN S.here hx rfl (hb hby e16_0) rfl rfl q) ?_
  refine w_agf S d0 (i := 0) (fi := 5) hown (hwi hw 76 rfl) rfl hF5 rfl rfl (hb hby e16_1) ?_
  intro T101 S102
  show WGo _ _ _ _ _ _ _ _ T101 (mkF m 4 #[.val (.ref a1), .val (.int (E x1))] [(.ref b1)])
  refine WGo.st (fun _ q => XS.iloadN S102.here hx rfl (hb hby e16_4) rfl q) ?_
  refine w_ald S102 d0 (i := 1) rfl rfl (hb hby e16_5) rfl hf ?_
  intro x103 hf
  show WGo _ _ _ _ _ _ _ _ T101 (mkF m 6 #[.val (.ref a1), .val (.int (E x1))] [(.int (E x103))])
  refine WGo.st (fun _ q => XS.iloadN S102.here hx rfl (hb hby e16_6) rfl q) ?_
  rcases eqN_some hf with ⟨c7, hf⟩ | ⟨c7, hf⟩
  · refine WGo.st (fun _ q => XS.icmpNo S102.here hx rfl (hb hby e16_7) rfl (teq c7).2 q) ?_
    show WGo _ _ _ _ _ _ _ _ T101 (mkF m 10 #[.val (.ref a1), .val (.int (E x1))] [])
    refine WGo.st (fun _ q => XS.iconst S102.here hx rfl (hb hby e16_10) q) ?_
    refine WGo.st (fun _ q => XS.goto S102.here hx rfl (pc0 := 11) (pc' := 15) rfl (hb hby e16_11) (by decide) (by decide) q) ?_
    show WGo _ _ _ _ _ _ _ _ T101 (mkF m 15 #[.val (.ref a1), .val (.int (E x1))] [(.int (E 65))])
    refine w_retZ S102 hret (hb hby e16_15) (by decide) (by decide) (by decide) ?_
    exact ⟨65, rfl, d0, hf⟩
  · refine WGo.st (fun _ q => XS.icmpYes S102.here hx rfl (pc0 := 7) (pc' := 14) rfl (hb hby e16_7) rfl (feq c7).2 (by decide) (by decide) q) ?_
    show WGo _ _ _ _ _ _ _ _ T101 (mkF m 14 #[.val (.ref a1), .val (.int (E x1))] [])
    refine WGo.st (fun _ q => XS.iconst S102.here hx rfl (hb hby e16_14) q) ?_
    refine w_retZ S102 hret (hb hby e16_15) (by decide) (by decide) (by decide) ?_
    exact ⟨64, rfl, d0, hf⟩
theorem e18_0 : decode jdk_65_method_123_code 0 = .ok (.iload_n 1, 1) := by decide +kernel
theorem e18_1 : decode jdk_65_method_123_code 1 = .ok (.aload_n 0, 1) := by decide +kernel
theorem e18_2 : decode jdk_65_method_123_code 2 = .ok (.arraylength, 1) := by decide +kernel
theorem e18_3 : decode jdk_65_method_123_code 3 = .ok (.if_icmp .ne 11, 3) := by decide +kernel
theorem e18_14 : decode jdk_65_method_123_code 14 = .ok (.iload_n 1, 1) := by decide +kernel
theorem e18_15 : decode jdk_65_method_123_code 15 = .ok (.newarray .int, 2) := by decide +kernel
theorem e18_17 : decode jdk_65_method_123_code 17 = .ok (.astore_n 2, 1) := by decide +kernel
theorem e18_18 : decode jdk_65_method_123_code 18 = .ok (.aload_n 0, 1) := by decide +kernel
theorem e18_19 : decode jdk_65_method_123_code 19 = .ok (.iconst 0, 1) := by decide +kernel
theorem e18_20 : decode jdk_65_method_123_code 20 = .ok (.aload_n 2, 1) := by decide +kernel
theorem e18_21 : decode jdk_65_method_123_code 21 = .ok (.iconst 0, 1) := by decide +kernel
theorem e18_22 : decode jdk_65_method_123_code 22 = .ok (.aload_n 0, 1) := by decide +kernel
theorem e18_23 : decode jdk_65_method_123_code 23 = .ok (.arraylength, 1) := by decide +kernel
theorem e18_24 : decode jdk_65_method_123_code 24 = .ok (.iload_n 1, 1) := by decide +kernel
theorem e18_25 : decode jdk_65_method_123_code 25 = .ok (.invokestatic 304, 3) := by decide +kernel
theorem e18_28 : decode jdk_65_method_123_code 28 = .ok (.invokestatic 150, 3) := by decide +kernel
theorem e18_31 : decode jdk_65_method_123_code 31 = .ok (.aload_n 2, 1) := by decide +kernel
theorem e18_32 : decode jdk_65_method_123_code 32 = .ok (.areturn, 1) := by decide +kernel
abbrev R_Co : Room := { frames := 1, cells := 1, slots := 4, locals := 60 }
def fCo {Rt : Type} (n1 : Nat) (A1 : Nat) (x1 : Nat) (Kf : Nat → Option Rt) : Option Rt := capN n1 1000 (eqN x1 n1 (none) (capN x1 4 (capN n1 1000 (fMi n1 x1 fun y113 => (cpN n1 x1 y113 (Kf A1))))))
def QCo {Rt : Type} (Z : State) (a0 : Array Value) (n0 : Nat) (h0 : Heap) (b1 : Addr) (n1 : Nat) (A1 : Nat) (x1 : Nat) (Kf : Nat → Option Rt) (r : Rt) (v : Option Value) (h : Heap) : Prop := ∃ b2 : Addr, ∃ B1 : Nat, v = some (.ref b2) ∧ HS Z a0 n0 h0 [b1] h [ia b1 n1 A1, ia b2 x1 B1] ∧ Kf B1 = some r
theorem ef_Co (m : MethodId) (b1 : Addr) (x1 : Nat) : entryFrame m #[(.ref b1), (.int (E x1))] 3 = mkF m 0 #[.val (.ref b1), .val (.int (E x1)), .unset] [] := by first | (simp [entryFrame, mkF, argsToLocals, Value.category, maxLocals]; done) | rfl
set_option maxRecDepth 65536 in
set_option maxHeartbeats 40000000 in
theorem rm_Co {Rt : Type} (l : Launch) (Z : State) (a0 : Array Value) (hw : ∀ d ∈ tables_1, d.before a0 Z = true) (n0 : Nat) (h0 : Heap) (b1 : Addr) (n1 : Nat) (A1 : Nat) (x1 : Nat) (Z0 : n0 ≤ h0.size)  (d0 : HS Z a0 n0 h0 [b1] h0 [ia b1 n1 A1]) (Kf : Nat → Option Rt) (r : Rt) (hf : fCo n1 A1 x1 Kf = some r) :
    WCon l Z n0 h0 (⟨"java/util/Arrays", "copyOf", "([II)[I"⟩ : MethodName) jdk_65_method_123_code 3 (some (.array .int)) [] R_Co #[(.ref b1), (.int (E x1))] (QCo Z a0 n0 h0 b1 n1 A1 x1 Kf r) := by
  refine WCon.of (by first | exact plainFor_of_name (by decide +kernel) | decide +kernel) Z0 ?_
  intro p e s m below meth c T hx hZ hby hml hown hnm hret S
  refine WGo.cast (ef_Co m b1 x1) ?_
  rw [fCo] at hf
  show WGo _ _ _ _ _ _ _ _ T (mkF m 0 #[.val (.ref b1), .val (.int (E x1)), .unset] [])
  refine WGo.st (fun _ q => XS.iloadN S.here hx rfl (hb hby e18_0) rfl q) ?_
  refine WGo.st (fun _ q => XS.aloadN S.here hx rfl (hb hby e18_1) rfl rfl q) ?_
  refine w_aln S d0 (i := 0) rfl rfl (hb hby e18_2) rfl hf ?_
  intro hf
  show WGo _ _ _ _ _ _ _ _ T (mkF m 3 #[.val (.ref b1), .val (.int (E x1)), .unset] [(.int (E n1)), (.int (E x1))])
  rcases eqN_some hf with ⟨c3, hf⟩ | ⟨c3, hf⟩
  · refine WGo.st (fun _ q => XS.icmpNo S.here hx rfl (hb hby e18_3) rfl (teq c3).2 q) ?_
    show WGo _ _ _ _ _ _ _ _ T (mkF m 6 #[.val (.ref b1), .val (.int (E x1)), .unset] [])
    cases hf
  · refine WGo.st (fun _ q => XS.icmpYes S.here hx rfl (pc0 := 3) (pc' := 14) rfl (hb hby e18_3) rfl (feq c3).2 (by decide) (by decide) q) ?_
    show WGo _ _ _ _ _ _ _ _ T (mkF m 14 #[.val (.ref b1), .val (.int (E x1)), .unset] [])
    refine WGo.st (fun _ q => XS.iloadN S.here hx rfl (hb hby e18_14) rfl q) ?_
    refine w_anw S d0 (hwi hw 0 rfl) rfl rfl (hb hby e18_15) rfl (cap := 4) hf (by decide) (by decide) (by decide) ?_
    intro T102 h103 a101 S104 d105 hf
    show WGo _ _ _ _ _ _ _ _ T102 (mkF m 17 #[.val (.ref b1), .val (.int (E x1)), .unset] [(.ref a101)])
    refine WGo.st (fun _ q => XS.astoreN S104.here hx rfl (hb hby e18_17) rfl rfl (l' := #[.val (.ref b1), .val (.int (E x1)), .val (.ref a101)]) rfl q) ?_
    show WGo _ _ _ _ _ _ _ _ T102 (mkF m 18 #[.val (.ref b1), .val (.int (E x1)), .val (.ref a101)] [])
    refine WGo.st (fun _ q => XS.aloadN S104.here hx rfl (hb hby e18_18) rfl rfl q) ?_
    refine WGo.st (fun _ q => XS.iconst S104.here hx rfl (hb hby e18_19) q) ?_
    refine WGo.st (fun _ q => XS.aloadN S104.here hx rfl (hb hby e18_20) rfl rfl q) ?_
    refine WGo.st (fun _ q => XS.iconst S104.here hx rfl (hb hby e18_21) q) ?_
    refine WGo.st (fun _ q => XS.aloadN S104.here hx rfl (hb hby e18_22) rfl rfl q) ?_
    show WGo _ _ _ _ _ _ _ _ T102 (mkF m 23 #[.val (.ref b1), .val (.int (E x1)), .val (.ref a101)] [(.ref b1), (.int (E 64)), (.ref a101), (.int (E 64)), (.ref b1)])
    refine w_aln S104 d105 (i := 0) rfl rfl (hb hby e18_23) rfl hf ?_
    intro hf
    show WGo _ _ _ _ _ _ _ _ T102 (mkF m 24 #[.val (.ref b1), .val (.int (E x1)), .val (.ref a101)] [(.int (E n1)), (.int (E 64)), (.ref a101), (.int (E 64)), (.ref b1)])
    refine WGo.st (fun _ q => XS.iloadN S104.here hx rfl (hb hby e18_24) rfl q) ?_
    refine w_static S104 (y := (⟨"java/lang/Math", "min", "(II)I"⟩ : MethodName)) hown (hwi hw 164 rfl) (hwi hw 6 rfl) (hwi hw 7 rfl) (hwi hw 8 rfl) (by decide) (rm_Mi l Z a0 hw n0 h103 n1 x1 S104.ge  (HS.pw d105 [] (by decide) rfl rfl) _ _ hf) (W := 4) (by decide) (by decide) (by decide) (by decide) rfl (by rw [hml]; rfl) (argsL := [(.int (E n1)), (.int (E x1))]) (rest := [(.int (E 64)), (.ref a101), (.int (E 64)), (.ref b1)]) (ps := [.int, .int]) (rt := (some .int)) (by decide) rfl rfl rfl (by show 2 * 0 + _ ≤ _; exact Nat.le_of_eq rfl) (hb hby e18_25) ?_
    intro T106 h108 w109 S107 q110
    obtain ⟨y113, rfl, d111, hf⟩ := q110
    have d112 : HS Z a0 n0 h0 [b1] h108 [ia b1 n1 A1, ia a101 x1 AZ] := HS.call d105 [] [] [] [] (by decide) rfl rfl d111
    show WGo _ _ _ _ _ _ _ _ T106 (mkF m 28 #[.val (.ref b1), .val (.int (E x1)), .val (.ref a101)] [(.int (E y113)), (.int (E 64)), (.ref a101), (.int (E 64)), (.ref b1)])
    refine w_acp S107 d112 (i := 0) (j := 1) hown (hwi hw 165 rfl) (hwi hw 168 rfl) (hwi hw 166 rfl) (hwi hw 167 rfl) rfl rfl rfl (by rw [hml]; rfl) rfl (hb hby e18_28) (by decide) (W' := 0) (by show 2 * 0 + _ ≤ _; exact Nat.le_of_eq rfl) (by decide) hf ?_
    intro T114 h115 S116 d117 hf
    show WGo _ _ _ _ _ _ _ _ T114 (mkF m 31 #[.val (.ref b1), .val (.int (E x1)), .val (.ref a101)] [])
    refine WGo.st (fun _ q => XS.aloadN S116.here hx rfl (hb hby e18_31) rfl rfl q) ?_
    refine w_retA S116 hret rfl rfl (hb hby e18_32) (by decide) (by decide) ?_
    exact ⟨a101, A1, rfl, d117, hf⟩
theorem e15_0 : decode prog_27_method_6_code 0 = .ok (.aload_n 0, 1) := by decide +kernel
theorem e15_1 : decode prog_27_method_6_code 1 = .ok (.getfield 50, 3) := by decide +kernel
theorem e15_4 : decode prog_27_method_6_code 4 = .ok (.iload_n 1, 1) := by decide +kernel
theorem e15_5 : decode prog_27_method_6_code 5 = .ok (.iload_n 2, 1) := by decide +kernel
theorem e15_6 : decode prog_27_method_6_code 6 = .ok (.iastore, 1) := by decide +kernel
theorem e15_7 : decode prog_27_method_6_code 7 = .ok (.aload_n 0, 1) := by decide +kernel
theorem e15_8 : decode prog_27_method_6_code 8 = .ok (.getfield 53, 3) := by decide +kernel
theorem e15_11 : decode prog_27_method_6_code 11 = .ok (.iload_n 2, 1) := by decide +kernel
theorem e15_12 : decode prog_27_method_6_code 12 = .ok (.iload_n 1, 1) := by decide +kernel
theorem e15_13 : decode prog_27_method_6_code 13 = .ok (.iastore, 1) := by decide +kernel
theorem e15_14 : decode prog_27_method_6_code 14 = .ok (.aload_n 0, 1) := by decide +kernel
theorem e15_15 : decode prog_27_method_6_code 15 = .ok (.getfield 56, 3) := by decide +kernel
theorem e15_18 : decode prog_27_method_6_code 18 = .ok (.iload_n 2, 1) := by decide +kernel
theorem e15_19 : decode prog_27_method_6_code 19 = .ok (.iload_n 3, 1) := by decide +kernel
theorem e15_20 : decode prog_27_method_6_code 20 = .ok (.iastore, 1) := by decide +kernel
theorem e15_21 : decode prog_27_method_6_code 21 = .ok (.aload_n 0, 1) := by decide +kernel
theorem e15_22 : decode prog_27_method_6_code 22 = .ok (.getfield 59, 3) := by decide +kernel
theorem e15_25 : decode prog_27_method_6_code 25 = .ok (.iload_n 2, 1) := by decide +kernel
theorem e15_26 : decode prog_27_method_6_code 26 = .ok (.iload 4, 2) := by decide +kernel
theorem e15_28 : decode prog_27_method_6_code 28 = .ok (.iastore, 1) := by decide +kernel
theorem e15_29 : decode prog_27_method_6_code 29 = .ok (.aload_n 0, 1) := by decide +kernel
theorem e15_30 : decode prog_27_method_6_code 30 = .ok (.getfield 62, 3) := by decide +kernel
theorem e15_33 : decode prog_27_method_6_code 33 = .ok (.iload_n 2, 1) := by decide +kernel
theorem e15_34 : decode prog_27_method_6_code 34 = .ok (.iload_n 2, 1) := by decide +kernel
theorem e15_35 : decode prog_27_method_6_code 35 = .ok (.iastore, 1) := by decide +kernel
theorem e15_36 : decode prog_27_method_6_code 36 = .ok (.aload_n 0, 1) := by decide +kernel
theorem e15_37 : decode prog_27_method_6_code 37 = .ok (.getfield 65, 3) := by decide +kernel
theorem e15_40 : decode prog_27_method_6_code 40 = .ok (.iload_n 2, 1) := by decide +kernel
theorem e15_41 : decode prog_27_method_6_code 41 = .ok (.iconst (-1), 1) := by decide +kernel
theorem e15_42 : decode prog_27_method_6_code 42 = .ok (.iastore, 1) := by decide +kernel
theorem e15_43 : decode prog_27_method_6_code 43 = .ok (.aload_n 0, 1) := by decide +kernel
theorem e15_44 : decode prog_27_method_6_code 44 = .ok (.getfield 68, 3) := by decide +kernel
theorem e15_47 : decode prog_27_method_6_code 47 = .ok (.iload_n 2, 1) := by decide +kernel
theorem e15_48 : decode prog_27_method_6_code 48 = .ok (.iload_n 2, 1) := by decide +kernel
theorem e15_49 : decode prog_27_method_6_code 49 = .ok (.iastore, 1) := by decide +kernel
theorem e15_50 : decode prog_27_method_6_code 50 = .ok (.aload_n 0, 1) := by decide +kernel
theorem e15_51 : decode prog_27_method_6_code 51 = .ok (.getfield 71, 3) := by decide +kernel
theorem e15_54 : decode prog_27_method_6_code 54 = .ok (.iload_n 2, 1) := by decide +kernel
theorem e15_55 : decode prog_27_method_6_code 55 = .ok (.iconst (-1), 1) := by decide +kernel
theorem e15_56 : decode prog_27_method_6_code 56 = .ok (.iastore, 1) := by decide +kernel
theorem e15_57 : decode prog_27_method_6_code 57 = .ok (.return_, 1) := by decide +kernel
abbrev R_Re : Room := { frames := 0, cells := 0, slots := 0, locals := 0 }
def fRe {Rt : Type} (nn : Nat) (A0 : Nat) (A1 : Nat) (A2 : Nat) (A3 : Nat) (A4 : Nat) (A5 : Nat) (A6 : Nat) (A7 : Nat) (x1 : Nat) (x2 : Nat) (x3 : Nat) (x4 : Nat) (Kf : Nat → Nat → Nat → Nat → Nat → Nat → Nat → Nat → Option Rt) : Option Rt := wrN A0 nn x1 x2 fun A103 => (wrN A1 nn x2 x1 fun A110 => (wrN A2 nn x2 x3 fun A117 => (wrN A3 nn x2 x4 fun A124 => (wrN A4 nn x2 x2 fun A131 => (wrN A5 nn x2 63 fun A138 => (wrN A6 nn x2 x2 fun A145 => (wrN A7 nn x2 63 fun A152 => (Kf A103 A110 A117 A124 A131 A138 A145 A152))))))))
def QRe {Rt : Type} (Z : State) (a0 : Array Value) (n0 : Nat) (h0 : Heap) (a1 : Addr) (r0 : Addr) (r1 : Addr) (r2 : Addr) (r3 : Addr) (r4 : Addr) (r5 : Addr) (r6 : Addr) (r7 : Addr) (F : List (String × String × Value)) (nn : Nat) (A0 : Nat) (A1 : Nat) (A2 : Nat) (A3 : Nat) (A4 : Nat) (A5 : Nat) (A6 : Nat) (A7 : Nat) (x1 : Nat) (x2 : Nat) (x3 : Nat) (x4 : Nat) (Kf : Nat → Nat → Nat → Nat → Nat → Nat → Nat → Nat → Option Rt) (r : Rt) (v : Option Value) (h : Heap) : Prop := ∃ B0 : Nat, ∃ B1 : Nat, ∃ B2 : Nat, ∃ B3 : Nat, ∃ B4 : Nat, ∃ B5 : Nat, ∃ B6 : Nat, ∃ B7 : Nat, v = none ∧ HS Z a0 n0 h0 [a1, r0, r1, r2, r3, r4, r5, r6, r7] h [ob a1 cA F, ia r0 nn B0, ia r1 nn B1, ia r2 nn B2, ia r3 nn B3, ia r4 nn B4, ia r5 nn B5, ia r6 nn B6, ia r7 nn B7] ∧ Kf B0 B1 B2 B3 B4 B5 B6 B7 = some r
theorem ef_Re (m : MethodId) (a1 : Addr) (x1 : Nat) (x2 : Nat) (x3 : Nat) (x4 : Nat) : entryFrame m #[(.ref a1), (.int (E x1)), (.int (E x2)), (.int (E x3)), (.int (E x4))] 5 = mkF m 0 #[.val (.ref a1), .val (.int (E x1)), .val (.int (E x2)), .val (.int (E x3)), .val (.int (E x4))] [] := by first | (simp [entryFrame, mkF, argsToLocals, Value.category, maxLocals]; done) | rfl
set_option maxRecDepth 65536 in
set_option maxHeartbeats 40000000 in
theorem rm_Re {Rt : Type} (l : Launch) (Z : State) (a0 : Array Value) (hw : ∀ d ∈ tables_1, d.before a0 Z = true) (n0 : Nat) (h0 : Heap) (a1 : Addr) (r0 : Addr) (r1 : Addr) (r2 : Addr) (r3 : Addr) (r4 : Addr) (r5 : Addr) (r6 : Addr) (r7 : Addr) (F : List (String × String × Value)) (nn : Nat) (A0 : Nat) (A1 : Nat) (A2 : Nat) (A3 : Nat) (A4 : Nat) (A5 : Nat) (A6 : Nat) (A7 : Nat) (x1 : Nat) (x2 : Nat) (x3 : Nat) (x4 : Nat) (Z0 : n0 ≤ h0.size) (hF7 : FL F 7 "dfi" "[I" (.ref r0)) (hF8 : FL F 8 "vertexAt" "[I" (.ref r1)) (hF9 : FL F 9 "parent" "[I" (.ref r2)) (hF10 : FL F 10 "treeEnd" "[I" (.ref r3)) (hF11 : FL F 11 "leastAncestor" "[I" (.ref r4)) (hF12 : FL F 12 "leastAncestorEdge" "[I" (.ref r5)) (hF13 : FL F 13 "lowpoint" "[I" (.ref r6)) (hF14 : FL F 14 "lowChild" "[I" (.ref r7)) (d0 : HS Z a0 n0 h0 [a1, r0, r1, r2, r3, r4, r5, r6, r7] h0 [ob a1 cA F, ia r0 nn A0, ia r1 nn A1, ia r2 nn A2, ia r3 nn A3, ia r4 nn A4, ia r5 nn A5, ia r6 nn A6, ia r7 nn A7]) (Kf : Nat → Nat → Nat → Nat → Nat → Nat → Nat → Nat → Option Rt) (r : Rt) (hf : fRe nn A0 A1 A2 A3 A4 A5 A6 A7 x1 x2 x3 x4 Kf = some r) :
    WCon l Z n0 h0 (⟨"com/example/ookayama/ookayama/EdgeAddition", "reach", "(IIII)V"⟩ : MethodName) prog_27_method_6_code 5 none [] R_Re #[(.ref a1), (.int (E x1)), (.int (E x2)), (.int (E x3)), (.int (E x4))] (QRe Z a0 n0 h0 a1 r0 r1 r2 r3 r4 r5 r6 r7 F nn A0 A1 A2 A3 A4 A5 A6 A7 x1 x2 x3 x4 Kf r) := by
  refine WCon.of (by first | exact plainFor_of_name (by decide +kernel) | decide +kernel) Z0 ?_
  intro p e s m below meth c T hx hZ hby hml hown hnm hret S
  refine WGo.cast (ef_Re m a1 x1 x2 x3 x4) ?_
  rw [fRe] at hf
  show WGo _ _ _ _ _ _ _ _ T (mkF m 0 #[.val (.ref a1), .val (.int (E x1)), .val (.int (E x2)), .val (.int (E x3)), .val (.int (E x4))] [])
  refine WGo.st (fun _ q => XS.aloadN S.here hx rfl (hb hby e15_0) rfl rfl q) ?_
  refine w_agf S d0 (i := 0) (fi := 7) hown (hwi hw 83 rfl) rfl hF7 rfl rfl (hb hby e15_1) ?_
  intro T101 S102
  show WGo _ _ _ _ _ _ _ _ T101 (mkF m 4 #[.val (.ref a1), .val (.int (E x1)), .val (.int (E x2)), .val (.int (E x3)), .val (.int (E x4))] [(.ref r0)])
  refine WGo.st (fun _ q => XS.iloadN S102.here hx rfl (hb hby e15_4) rfl q) ?_
  refine WGo.st (fun _ q => XS.iloadN S102.here hx rfl (hb hby e15_5) rfl q) ?_
  refine w_ast S102 d0 (i := 1) rfl rfl (hb hby e15_6) rfl hf ?_
  intro T104 h105 A103 S106 d107 hf
  show WGo _ _ _ _ _ _ _ _ T104 (mkF m 7 #[.val (.ref a1), .val (.int (E x1)), .val (.int (E x2)), .val (.int (E x3)), .val (.int (E x4))] [])
  refine WGo.st (fun _ q => XS.aloadN S106.here hx rfl (hb hby e15_7) rfl rfl q) ?_
  refine w_agf S106 d107 (i := 0) (fi := 8) hown (hwi hw 85 rfl) rfl hF8 rfl rfl (hb hby e15_8) ?_
  intro T108 S109
  show WGo _ _ _ _ _ _ _ _ T108 (mkF m 11 #[.val (.ref a1), .val (.int (E x1)), .val (.int (E x2)), .val (.int (E x3)), .val (.int (E x4))] [(.ref r1)])
  refine WGo.st (fun _ q => XS.iloadN S109.here hx rfl (hb hby e15_11) rfl q) ?_
  refine WGo.st (fun _ q => XS.iloadN S109.here hx rfl (hb hby e15_12) rfl q) ?_
  refine w_ast S109 d107 (i := 2) rfl rfl (hb hby e15_13) rfl hf ?_
  intro T111 h112 A110 S113 d114 hf
  show WGo _ _ _ _ _ _ _ _ T111 (mkF m 14 #[.val (.ref a1), .val (.int (E x1)), .val (.int (E x2)), .val (.int (E x3)), .val (.int (E x4))] [])
  refine WGo.st (fun _ q => XS.aloadN S113.here hx rfl (hb hby e15_14) rfl rfl q) ?_
  refine w_agf S113 d114 (i := 0) (fi := 9) hown (hwi hw 87 rfl) rfl hF9 rfl rfl (hb hby e15_15) ?_
  intro T115 S116
  show WGo _ _ _ _ _ _ _ _ T115 (mkF m 18 #[.val (.ref a1), .val (.int (E x1)), .val (.int (E x2)), .val (.int (E x3)), .val (.int (E x4))] [(.ref r2)])
  refine WGo.st (fun _ q => XS.iloadN S116.here hx rfl (hb hby e15_18) rfl q) ?_
  refine WGo.st (fun _ q => XS.iloadN S116.here hx rfl (hb hby e15_19) rfl q) ?_
  refine w_ast S116 d114 (i := 3) rfl rfl (hb hby e15_20) rfl hf ?_
  intro T118 h119 A117 S120 d121 hf
  show WGo _ _ _ _ _ _ _ _ T118 (mkF m 21 #[.val (.ref a1), .val (.int (E x1)), .val (.int (E x2)), .val (.int (E x3)), .val (.int (E x4))] [])
  refine WGo.st (fun _ q => XS.aloadN S120.here hx rfl (hb hby e15_21) rfl rfl q) ?_
  refine w_agf S120 d121 (i := 0) (fi := 10) hown (hwi hw 89 rfl) rfl hF10 rfl rfl (hb hby e15_22) ?_
  intro T122 S123
  show WGo _ _ _ _ _ _ _ _ T122 (mkF m 25 #[.val (.ref a1), .val (.int (E x1)), .val (.int (E x2)), .val (.int (E x3)), .val (.int (E x4))] [(.ref r3)])
  refine WGo.st (fun _ q => XS.iloadN S123.here hx rfl (hb hby e15_25) rfl q) ?_
  refine WGo.st (fun _ q => XS.iload S123.here hx rfl (hb hby e15_26) rfl q) ?_
  refine w_ast S123 d121 (i := 4) rfl rfl (hb hby e15_28) rfl hf ?_
  intro T125 h126 A124 S127 d128 hf
  show WGo _ _ _ _ _ _ _ _ T125 (mkF m 29 #[.val (.ref a1), .val (.int (E x1)), .val (.int (E x2)), .val (.int (E x3)), .val (.int (E x4))] [])
  refine WGo.st (fun _ q => XS.aloadN S127.here hx rfl (hb hby e15_29) rfl rfl q) ?_
  refine w_agf S127 d128 (i := 0) (fi := 11) hown (hwi hw 91 rfl) rfl hF11 rfl rfl (hb hby e15_30) ?_
  intro T129 S130
  show WGo _ _ _ _ _ _ _ _ T129 (mkF m 33 #[.val (.ref a1), .val (.int (E x1)), .val (.int (E x2)), .val (.int (E x3)), .val (.int (E x4))] [(.ref r4)])
  refine WGo.st (fun _ q => XS.iloadN S130.here hx rfl (hb hby e15_33) rfl q) ?_
  refine WGo.st (fun _ q => XS.iloadN S130.here hx rfl (hb hby e15_34) rfl q) ?_
  refine w_ast S130 d128 (i := 5) rfl rfl (hb hby e15_35) rfl hf ?_
  intro T132 h133 A131 S134 d135 hf
  show WGo _ _ _ _ _ _ _ _ T132 (mkF m 36 #[.val (.ref a1), .val (.int (E x1)), .val (.int (E x2)), .val (.int (E x3)), .val (.int (E x4))] [])
  refine WGo.st (fun _ q => XS.aloadN S134.here hx rfl (hb hby e15_36) rfl rfl q) ?_
  refine w_agf S134 d135 (i := 0) (fi := 12) hown (hwi hw 93 rfl) rfl hF12 rfl rfl (hb hby e15_37) ?_
  intro T136 S137
  show WGo _ _ _ _ _ _ _ _ T136 (mkF m 40 #[.val (.ref a1), .val (.int (E x1)), .val (.int (E x2)), .val (.int (E x3)), .val (.int (E x4))] [(.ref r5)])
  refine WGo.st (fun _ q => XS.iloadN S137.here hx rfl (hb hby e15_40) rfl q) ?_
  refine WGo.st (fun _ q => XS.iconst S137.here hx rfl (hb hby e15_41) q) ?_
  refine w_ast S137 d135 (i := 6) rfl rfl (hb hby e15_42) rfl hf ?_
  intro T139 h140 A138 S141 d142 hf
  show WGo _ _ _ _ _ _ _ _ T139 (mkF m 43 #[.val (.ref a1), .val (.int (E x1)), .val (.int (E x2)), .val (.int (E x3)), .val (.int (E x4))] [])
  refine WGo.st (fun _ q => XS.aloadN S141.here hx rfl (hb hby e15_43) rfl rfl q) ?_
  refine w_agf S141 d142 (i := 0) (fi := 13) hown (hwi hw 95 rfl) rfl hF13 rfl rfl (hb hby e15_44) ?_
  intro T143 S144
  show WGo _ _ _ _ _ _ _ _ T143 (mkF m 47 #[.val (.ref a1), .val (.int (E x1)), .val (.int (E x2)), .val (.int (E x3)), .val (.int (E x4))] [(.ref r6)])
  refine WGo.st (fun _ q => XS.iloadN S144.here hx rfl (hb hby e15_47) rfl q) ?_
  refine WGo.st (fun _ q => XS.iloadN S144.here hx rfl (hb hby e15_48) rfl q) ?_
  refine w_ast S144 d142 (i := 7) rfl rfl (hb hby e15_49) rfl hf ?_
  intro T146 h147 A145 S148 d149 hf
  show WGo _ _ _ _ _ _ _ _ T146 (mkF m 50 #[.val (.ref a1), .val (.int (E x1)), .val (.int (E x2)), .val (.int (E x3)), .val (.int (E x4))] [])
  refine WGo.st (fun _ q => XS.aloadN S148.here hx rfl (hb hby e15_50) rfl rfl q) ?_
  refine w_agf S148 d149 (i := 0) (fi := 14) hown (hwi hw 97 rfl) rfl hF14 rfl rfl (hb hby e15_51) ?_
  intro T150 S151
  show WGo _ _ _ _ _ _ _ _ T150 (mkF m 54 #[.val (.ref a1), .val (.int (E x1)), .val (.int (E x2)), .val (.int (E x3)), .val (.int (E x4))] [(.ref r7)])
  refine WGo.st (fun _ q => XS.iloadN S151.here hx rfl (hb hby e15_54) rfl q) ?_
  refine WGo.st (fun _ q => XS.iconst S151.here hx rfl (hb hby e15_55) q) ?_
  refine w_ast S151 d149 (i := 8) rfl rfl (hb hby e15_56) rfl hf ?_
  intro T153 h154 A152 S155 d156 hf
  show WGo _ _ _ _ _ _ _ _ T153 (mkF m 57 #[.val (.ref a1), .val (.int (E x1)), .val (.int (E x2)), .val (.int (E x3)), .val (.int (E x4))] [])
  refine w_retV S155 hret (hb hby e15_57) (by decide) (by decide) ?_
  exact ⟨A103, A110, A117, A124, A131, A138, A145, A152, rfl, d156, hf⟩
theorem e17_0 : decode prog_27_method_7_code 0 = .ok (.aload_n 0, 1) := by decide +kernel
theorem e17_1 : decode prog_27_method_7_code 1 = .ok (.aload_n 0, 1) := by decide +kernel
theorem e17_2 : decode prog_27_method_7_code 2 = .ok (.getfield 30, 3) := by decide +kernel
theorem e17_5 : decode prog_27_method_7_code 5 = .ok (.iconst 1, 1) := by decide +kernel
theorem e17_6 : decode prog_27_method_7_code 6 = .ok (.iadd, 1) := by decide +kernel
theorem e17_7 : decode prog_27_method_7_code 7 = .ok (.newarray .int, 2) := by decide +kernel
theorem e17_9 : decode prog_27_method_7_code 9 = .ok (.putfield 177, 3) := by decide +kernel
theorem e17_12 : decode prog_27_method_7_code 12 = .ok (.iconst 0, 1) := by decide +kernel
theorem e17_13 : decode prog_27_method_7_code 13 = .ok (.istore 5, 2) := by decide +kernel
theorem e17_15 : decode prog_27_method_7_code 15 = .ok (.iload 5, 2) := by decide +kernel
theorem e17_17 : decode prog_27_method_7_code 17 = .ok (.iload 4, 2) := by decide +kernel
theorem e17_19 : decode prog_27_method_7_code 19 = .ok (.if_icmp .ge 24, 3) := by decide +kernel
theorem e17_22 : decode prog_27_method_7_code 22 = .ok (.aload_n 0, 1) := by decide +kernel
theorem e17_23 : decode prog_27_method_7_code 23 = .ok (.getfield 177, 3) := by decide +kernel
theorem e17_26 : decode prog_27_method_7_code 26 = .ok (.aload_n 1, 1) := by decide +kernel
theorem e17_27 : decode prog_27_method_7_code 27 = .ok (.iload 5, 2) := by decide +kernel
theorem e17_29 : decode prog_27_method_7_code 29 = .ok (.iaload, 1) := by decide +kernel
theorem e17_30 : decode prog_27_method_7_code 30 = .ok (.iconst 1, 1) := by decide +kernel
theorem e17_31 : decode prog_27_method_7_code 31 = .ok (.iadd, 1) := by decide +kernel
theorem e17_32 : decode prog_27_method_7_code 32 = .ok (.dup2, 1) := by decide +kernel
theorem e17_33 : decode prog_27_method_7_code 33 = .ok (.iaload, 1) := by decide +kernel
theorem e17_34 : decode prog_27_method_7_code 34 = .ok (.iconst 1, 1) := by decide +kernel
theorem e17_35 : decode prog_27_method_7_code 35 = .ok (.iadd, 1) := by decide +kernel
theorem e17_36 : decode prog_27_method_7_code 36 = .ok (.iastore, 1) := by decide +kernel
theorem e17_37 : decode prog_27_method_7_code 37 = .ok (.iinc 5 1, 3) := by decide +kernel
theorem e17_40 : decode prog_27_method_7_code 40 = .ok (.goto (-25), 3) := by decide +kernel
theorem e17_43 : decode prog_27_method_7_code 43 = .ok (.iconst 0, 1) := by decide +kernel
theorem e17_44 : decode prog_27_method_7_code 44 = .ok (.istore 5, 2) := by decide +kernel
theorem e17_46 : decode prog_27_method_7_code 46 = .ok (.iload 5, 2) := by decide +kernel
theorem e17_48 : decode prog_27_method_7_code 48 = .ok (.aload_n 0, 1) := by decide +kernel
theorem e17_49 : decode prog_27_method_7_code 49 = .ok (.getfield 30, 3) := by decide +kernel
theorem e17_52 : decode prog_27_method_7_code 52 = .ok (.if_icmp .ge 28, 3) := by decide +kernel
theorem e17_55 : decode prog_27_method_7_code 55 = .ok (.aload_n 0, 1) := by decide +kernel
theorem e17_56 : decode prog_27_method_7_code 56 = .ok (.getfield 177, 3) := by decide +kernel
theorem e17_59 : decode prog_27_method_7_code 59 = .ok (.iload 5, 2) := by decide +kernel
theorem e17_61 : decode prog_27_method_7_code 61 = .ok (.iconst 1, 1) := by decide +kernel
theorem e17_62 : decode prog_27_method_7_code 62 = .ok (.iadd, 1) := by decide +kernel
theorem e17_63 : decode prog_27_method_7_code 63 = .ok (.dup2, 1) := by decide +kernel
theorem e17_64 : decode prog_27_method_7_code 64 = .ok (.iaload, 1) := by decide +kernel
theorem e17_65 : decode prog_27_method_7_code 65 = .ok (.aload_n 0, 1) := by decide +kernel
theorem e17_66 : decode prog_27_method_7_code 66 = .ok (.getfield 177, 3) := by decide +kernel
theorem e17_69 : decode prog_27_method_7_code 69 = .ok (.iload 5, 2) := by decide +kernel
theorem e17_71 : decode prog_27_method_7_code 71 = .ok (.iaload, 1) := by decide +kernel
theorem e17_72 : decode prog_27_method_7_code 72 = .ok (.iadd, 1) := by decide +kernel
theorem e17_73 : decode prog_27_method_7_code 73 = .ok (.iastore, 1) := by decide +kernel
theorem e17_74 : decode prog_27_method_7_code 74 = .ok (.iinc 5 1, 3) := by decide +kernel
theorem e17_77 : decode prog_27_method_7_code 77 = .ok (.goto (-31), 3) := by decide +kernel
theorem e17_80 : decode prog_27_method_7_code 80 = .ok (.aload_n 0, 1) := by decide +kernel
theorem e17_81 : decode prog_27_method_7_code 81 = .ok (.iload 4, 2) := by decide +kernel
theorem e17_83 : decode prog_27_method_7_code 83 = .ok (.newarray .int, 2) := by decide +kernel
theorem e17_85 : decode prog_27_method_7_code 85 = .ok (.putfield 180, 3) := by decide +kernel
theorem e17_88 : decode prog_27_method_7_code 88 = .ok (.aload_n 0, 1) := by decide +kernel
theorem e17_89 : decode prog_27_method_7_code 89 = .ok (.iload 4, 2) := by decide +kernel
theorem e17_91 : decode prog_27_method_7_code 91 = .ok (.newarray .int, 2) := by decide +kernel
theorem e17_93 : decode prog_27_method_7_code 93 = .ok (.putfield 183, 3) := by decide +kernel
theorem e17_96 : decode prog_27_method_7_code 96 = .ok (.aload_n 0, 1) := by decide +kernel
theorem e17_97 : decode prog_27_method_7_code 97 = .ok (.getfield 177, 3) := by decide +kernel
theorem e17_100 : decode prog_27_method_7_code 100 = .ok (.aload_n 0, 1) := by decide +kernel
theorem e17_101 : decode prog_27_method_7_code 101 = .ok (.getfield 30, 3) := by decide +kernel
theorem e17_104 : decode prog_27_method_7_code 104 = .ok (.invokestatic 169, 3) := by decide +kernel
theorem e17_107 : decode prog_27_method_7_code 107 = .ok (.astore 5, 2) := by decide +kernel
theorem e17_109 : decode prog_27_method_7_code 109 = .ok (.iconst 0, 1) := by decide +kernel
theorem e17_110 : decode prog_27_method_7_code 110 = .ok (.istore 6, 2) := by decide +kernel
theorem e17_112 : decode prog_27_method_7_code 112 = .ok (.iload 6, 2) := by decide +kernel
theorem e17_114 : decode prog_27_method_7_code 114 = .ok (.iload 4, 2) := by decide +kernel
theorem e17_116 : decode prog_27_method_7_code 116 = .ok (.if_icmp .ge 45, 3) := by decide +kernel
theorem e17_119 : decode prog_27_method_7_code 119 = .ok (.aload 5, 2) := by decide +kernel
theorem e17_121 : decode prog_27_method_7_code 121 = .ok (.aload_n 1, 1) := by decide +kernel
theorem e17_122 : decode prog_27_method_7_code 122 = .ok (.iload 6, 2) := by decide +kernel
theorem e17_124 : decode prog_27_method_7_code 124 = .ok (.iaload, 1) := by decide +kernel
theorem e17_125 : decode prog_27_method_7_code 125 = .ok (.dup2, 1) := by decide +kernel
theorem e17_126 : decode prog_27_method_7_code 126 = .ok (.iaload, 1) := by decide +kernel
theorem e17_127 : decode prog_27_method_7_code 127 = .ok (.dup_x2, 1) := by decide +kernel
theorem e17_128 : decode prog_27_method_7_code 128 = .ok (.iconst 1, 1) := by decide +kernel
theorem e17_129 : decode prog_27_method_7_code 129 = .ok (.iadd, 1) := by decide +kernel
theorem e17_130 : decode prog_27_method_7_code 130 = .ok (.iastore, 1) := by decide +kernel
theorem e17_131 : decode prog_27_method_7_code 131 = .ok (.istore 7, 2) := by decide +kernel
theorem e17_133 : decode prog_27_method_7_code 133 = .ok (.aload_n 0, 1) := by decide +kernel
theorem e17_134 : decode prog_27_method_7_code 134 = .ok (.getfield 180, 3) := by decide +kernel
theorem e17_137 : decode prog_27_method_7_code 137 = .ok (.iload 7, 2) := by decide +kernel
theorem e17_139 : decode prog_27_method_7_code 139 = .ok (.aload_n 2, 1) := by decide +kernel
theorem e17_140 : decode prog_27_method_7_code 140 = .ok (.iload 6, 2) := by decide +kernel
theorem e17_142 : decode prog_27_method_7_code 142 = .ok (.iaload, 1) := by decide +kernel
theorem e17_143 : decode prog_27_method_7_code 143 = .ok (.iastore, 1) := by decide +kernel
theorem e17_144 : decode prog_27_method_7_code 144 = .ok (.aload_n 0, 1) := by decide +kernel
theorem e17_145 : decode prog_27_method_7_code 145 = .ok (.getfield 183, 3) := by decide +kernel
theorem e17_148 : decode prog_27_method_7_code 148 = .ok (.iload 7, 2) := by decide +kernel
theorem e17_150 : decode prog_27_method_7_code 150 = .ok (.aload_n 3, 1) := by decide +kernel
theorem e17_151 : decode prog_27_method_7_code 151 = .ok (.iload 6, 2) := by decide +kernel
theorem e17_153 : decode prog_27_method_7_code 153 = .ok (.iaload, 1) := by decide +kernel
theorem e17_154 : decode prog_27_method_7_code 154 = .ok (.iastore, 1) := by decide +kernel
theorem e17_155 : decode prog_27_method_7_code 155 = .ok (.iinc 6 1, 3) := by decide +kernel
theorem e17_158 : decode prog_27_method_7_code 158 = .ok (.goto (-46), 3) := by decide +kernel
theorem e17_161 : decode prog_27_method_7_code 161 = .ok (.return_, 1) := by decide +kernel
abbrev R_Lb : Room := { frames := 2, cells := 4, slots := 17, locals := 90 }
def fLb_L112b {Rt : Type} (nn : Nat) (m0 : Nat) (A1 : Nat) (A2 : Nat) (A3 : Nat) (x1 : Nat) (Kx112 : Nat → Nat → Nat → Nat → Option Rt) (gv112 : Nat → Nat → Nat → Nat → Option Rt) (i160 : Nat) (A161 : Nat) (A162 : Nat) (A163 : Nat) : Option Rt := ltN i160 x1 (rdN A1 m0 i160 fun x165 => (rdN A163 nn x165 fun x166 => (addN x166 65 fun z167 => (wrN A163 nn x165 z167 fun A168 => (rdN A2 m0 i160 fun x175 => (wrN A161 x1 x166 x175 fun A176 => (rdN A3 m0 i160 fun x183 => (wrN A162 x1 x166 x183 fun A184 => (addN i160 65 fun z189 => (gv112 z189 A176 A184 A168)))))))))) (Kx112 i160 A161 A162 A163)
def fLb_L112 {Rt : Type} (nn : Nat) (m0 : Nat) (A1 : Nat) (A2 : Nat) (A3 : Nat) (x1 : Nat) (Kx112 : Nat → Nat → Nat → Nat → Option Rt) : Nat → Nat → Nat → Nat → Option Rt := it8 (fLb_L112b nn m0 A1 A2 A3 x1 Kx112) (fun _ _ _ _ => none)
def fLb_L46b {Rt : Type} (nn : Nat) (z103 : Nat) (Kx46 : Nat → Nat → Option Rt) (gv46 : Nat → Nat → Option Rt) (i123 : Nat) (A124 : Nat) : Option Rt := ltN i123 nn (addN i123 65 fun z194 => (rdN A124 z103 z194 fun x195 => (rdN A124 z103 i123 fun x198 => (addN x195 x198 fun z199 => (wrN A124 z103 z194 z199 fun A200 => (addN i123 65 fun z205 => (gv46 z205 A200))))))) (Kx46 i123 A124)
def fLb_L46 {Rt : Type} (nn : Nat) (z103 : Nat) (Kx46 : Nat → Nat → Option Rt) : Nat → Nat → Option Rt := it8 (fLb_L46b nn z103 Kx46) (fun _ _ => none)
def fLb_L15b {Rt : Type} (m0 : Nat) (A1 : Nat) (x1 : Nat) (z103 : Nat) (Kx15 : Nat → Nat → Option Rt) (gv15 : Nat → Nat → Option Rt) (i117 : Nat) (A118 : Nat) : Option Rt := ltN i117 x1 (rdN A1 m0 i117 fun x208 => (addN x208 65 fun z209 => (rdN A118 z103 z209 fun x210 => (addN x210 65 fun z211 => (wrN A118 z103 z209 z211 fun A212 => (addN i117 65 fun z217 => (gv15 z217 A212))))))) (Kx15 i117 A118)
def fLb_L15 {Rt : Type} (m0 : Nat) (A1 : Nat) (x1 : Nat) (z103 : Nat) (Kx15 : Nat → Nat → Option Rt) : Nat → Nat → Option Rt := it8 (fLb_L15b m0 A1 x1 z103 Kx15) (fun _ _ => none)
def fLb {Rt : Type} (nn : Nat) (m0 : Nat) (A1 : Nat) (A2 : Nat) (A3 : Nat) (x1 : Nat) (Kf : Option Rt) : Option Rt := addN nn 65 fun z103 => (capN z103 5 (fLb_L15 m0 A1 x1 z103 (fun i117 A118 => fLb_L46 nn z103 (fun i123 A124 => capN x1 4 (capN x1 4 (fCo z103 A124 nn fun y154 => (fLb_L112 nn m0 A1 A2 A3 x1 (fun i160 A161 A162 A163 => Kf) 64 AZ AZ y154)))) 64 A118) 64 AZ))
def QLb {Rt : Type} (Z : State) (a0 : Array Value) (n0 : Nat) (h0 : Heap) (a1 : Addr) (c1 : Addr) (c2 : Addr) (c3 : Addr) (F : List (String × String × Value)) (nn : Nat) (m0 : Nat) (A1 : Nat) (A2 : Nat) (A3 : Nat) (x1 : Nat) (Kf : Option Rt) (r : Rt) (v : Option Value) (h : Heap) : Prop := ∃ b1 : Addr, ∃ b2 : Addr, ∃ b3 : Addr, v = none ∧ HS Z a0 n0 h0 [a1, c1, c2, c3] h [ob a1 cA (((F.set 33 ("backStart", "[I", (.ref b1))).set 34 ("backEnd", "[I", (.ref b2))).set 35 ("backLower", "[I", (.ref b3))), ia c1 m0 A1, ia c2 m0 A2, ia c3 m0 A3] ∧ Kf  = some r
theorem ef_Lb (m : MethodId) (a1 : Addr) (c1 : Addr) (c2 : Addr) (c3 : Addr) (x1 : Nat) : entryFrame m #[(.ref a1), (.ref c1), (.ref c2), (.ref c3), (.int (E x1))] 8 = mkF m 0 #[.val (.ref a1), .val (.ref c1), .val (.ref c2), .val (.ref c3), .val (.int (E x1)), .unset, .unset, .unset] [] := by first | (simp [entryFrame, mkF, argsToLocals, Value.category, maxLocals]; done) | rfl
set_option maxRecDepth 65536 in
set_option maxHeartbeats 40000000 in
theorem rm_Lb {Rt : Type} (l : Launch) (Z : State) (a0 : Array Value) (hw : ∀ d ∈ tables_1, d.before a0 Z = true) (n0 : Nat) (h0 : Heap) (a1 : Addr) (c1 : Addr) (c2 : Addr) (c3 : Addr) (F : List (String × String × Value)) (nn : Nat) (m0 : Nat) (A1 : Nat) (A2 : Nat) (A3 : Nat) (x1 : Nat) (Z0 : n0 ≤ h0.size) (hF4 : FL F 4 "n" "I" (.int (E nn))) (hF33 : FL F 33 "backStart" "[I" (.null)) (hF34 : FL F 34 "backEnd" "[I" (.null)) (hF35 : FL F 35 "backLower" "[I" (.null)) (d0 : HS Z a0 n0 h0 [a1, c1, c2, c3] h0 [ob a1 cA F, ia c1 m0 A1, ia c2 m0 A2, ia c3 m0 A3]) (Kf : Option Rt) (r : Rt) (hf : fLb nn m0 A1 A2 A3 x1 Kf = some r) :
    WCon l Z n0 h0 (⟨"com/example/ookayama/ookayama/EdgeAddition", "listBackEdges", "([I[I[II)V"⟩ : MethodName) prog_27_method_7_code 8 none [] R_Lb #[(.ref a1), (.ref c1), (.ref c2), (.ref c3), (.int (E x1))] (QLb Z a0 n0 h0 a1 c1 c2 c3 F nn m0 A1 A2 A3 x1 Kf r) := by
  refine WCon.of (by first | exact plainFor_of_name (by decide +kernel) | decide +kernel) Z0 ?_
  intro p e s m below meth c T hx hZ hby hml hown hnm hret S
  refine WGo.cast (ef_Lb m a1 c1 c2 c3 x1) ?_
  rw [fLb] at hf
  show WGo _ _ _ _ _ _ _ _ T (mkF m 0 #[.val (.ref a1), .val (.ref c1), .val (.ref c2), .val (.ref c3), .val (.int (E x1)), .unset, .unset, .unset] [])
  refine WGo.st (fun _ q => XS.aloadN S.here hx rfl (hb hby e17_0) rfl rfl q) ?_
  refine WGo.st (fun _ q => XS.aloadN S.here hx rfl (hb hby e17_1) rfl rfl q) ?_
  refine w_agf S d0 (i := 0) (fi := 4) hown (hwi hw 46 rfl) rfl hF4 rfl rfl (hb hby e17_2) ?_
  intro T101 S102
  show WGo _ _ _ _ _ _ _ _ T101 (mkF m 5 #[.val (.ref a1), .val (.ref c1), .val (.ref c2), .val (.ref c3), .val (.int (E x1)), .unset, .unset, .unset] [(.int (E nn)), (.ref a1)])
  refine WGo.st (fun _ q => XS.iconst S102.here hx rfl (hb hby e17_5) q) ?_
  refine w_addN S102 rfl (hb hby e17_6) rfl hf ?_
  intro z103 hf
  show WGo _ _ _ _ _ _ _ _ T101 (mkF m 7 #[.val (.ref a1), .val (.ref c1), .val (.ref c2), .val (.ref c3), .val (.int (E x1)), .unset, .unset, .unset] [(.int (E z103)), (.ref a1)])
  refine w_anw S102 d0 (hwi hw 0 rfl) rfl rfl (hb hby e17_7) rfl (cap := 5) hf (by decide) (by decide) (by decide) ?_
  intro T105 h106 a104 S107 d108 hf
  show WGo _ _ _ _ _ _ _ _ T105 (mkF m 9 #[.val (.ref a1), .val (.ref c1), .val (.ref c2), .val (.ref c3), .val (.int (E x1)), .unset, .unset, .unset] [(.ref a104), (.ref a1)])
  refine w_apf S107 d108 (i := 0) (fi := 33) hown (hwi hw 155 rfl) rfl hF33 (Or.inl (hwi hw 156 rfl)) (hwi hw 10 rfl) (ty := (.array .int)) (by decide) rfl rfl rfl rfl (hb hby e17_9) ?_
  intro T109 h110 S111 d112
  show WGo _ _ _ _ _ _ _ _ T109 (mkF m 12 #[.val (.ref a1), .val (.ref c1), .val (.ref c2), .val (.ref c3), .val (.int (E x1)), .unset, .unset, .unset] [])
  refine WGo.st (fun _ q => XS.iconst S111.here hx rfl (hb hby e17_12) q) ?_
  refine WGo.st (fun _ q => XS.istore S111.here hx rfl (hb hby e17_13) rfl (l' := #[.val (.ref a1), .val (.ref c1), .val (.ref c2), .val (.ref c3), .val (.int (E x1)), .val (.int (E 64)), .unset, .unset]) rfl q) ?_
  show WGo _ _ _ _ _ _ _ _ T109 (mkF m 15 #[.val (.ref a1), .val (.ref c1), .val (.ref c2), .val (.ref c3), .val (.int (E x1)), .val (.int (E 64)), .unset, .unset] [])
  obtain ⟨Kx15, eKx15⟩ : ∃ K : Nat → Nat → Option Rt, K = (fun i117 A118 => fLb_L46 nn z103 (fun i123 A124 => capN x1 4 (capN x1 4 (fCo z103 A124 nn fun y154 => (fLb_L112 nn m0 A1 A2 A3 x1 (fun i160 A161 A162 A163 => Kf) 64 AZ AZ y154)))) 64 A118) := ⟨_, rfl⟩
  rw [← eKx15] at hf
  have hK15 : ∀ (T113 : State) (h114 : Heap) (i117 : Nat) (A118 : Nat), WSt p l e R_Lb s m #[(.ref a1), (.ref c1), (.ref c2), (.ref c3), (.int (E x1))] below meth c Z n0 T113 h114 (1) (5) → HS Z a0 n0 h0 [a1, c1, c2, c3] h114 [ob a1 cA (F.set 33 ("backStart", "[I", (.ref a104))), ia c1 m0 A1, ia c2 m0 A2, ia c3 m0 A3, ia a104 z103 A118] → Kx15 i117 A118 = some r → WGo p e below s n0 (QLb Z a0 n0 h0 a1 c1 c2 c3 F nn m0 A1 A2 A3 x1 Kf r) R_Lb.cells R_Lb.slots T113 (mkF m 43 #[.val (.ref a1), .val (.ref c1), .val (.ref c2), .val (.ref c3), .val (.int (E x1)), .val (.int (E i117)), .unset, .unset] []) := by
    intro T113 h114  i117 A118 S115  d116 hf
    rw [eKx15] at hf
    show WGo _ _ _ _ _ _ _ _ T113 (mkF m 43 #[.val (.ref a1), .val (.ref c1), .val (.ref c2), .val (.ref c3), .val (.int (E x1)), .val (.int (E i117)), .unset, .unset] [])
    refine WGo.st (fun _ q => XS.iconst S115.here hx rfl (hb hby e17_43) q) ?_
    refine WGo.st (fun _ q => XS.istore S115.here hx rfl (hb hby e17_44) rfl (l' := #[.val (.ref a1), .val (.ref c1), .val (.ref c2), .val (.ref c3), .val (.int (E x1)), .val (.int (E 64)), .unset, .unset]) rfl q) ?_
    show WGo _ _ _ _ _ _ _ _ T113 (mkF m 46 #[.val (.ref a1), .val (.ref c1), .val (.ref c2), .val (.ref c3), .val (.int (E x1)), .val (.int (E 64)), .unset, .unset] [])
    obtain ⟨Kx46, eKx46⟩ : ∃ K : Nat → Nat → Option Rt, K = (fun i123 A124 => capN x1 4 (capN x1 4 (fCo z103 A124 nn fun y154 => (fLb_L112 nn m0 A1 A2 A3 x1 (fun i160 A161 A162 A163 => Kf) 64 AZ AZ y154)))) := ⟨_, rfl⟩
    rw [← eKx46] at hf
    have hK46 : ∀ (T119 : State) (h120 : Heap) (i123 : Nat) (A124 : Nat), WSt p l e R_Lb s m #[(.ref a1), (.ref c1), (.ref c2), (.ref c3), (.int (E x1))] below meth c Z n0 T119 h120 (1) (5) → HS Z a0 n0 h0 [a1, c1, c2, c3] h120 [ob a1 cA (F.set 33 ("backStart", "[I", (.ref a104))), ia c1 m0 A1, ia c2 m0 A2, ia c3 m0 A3, ia a104 z103 A124] → Kx46 i123 A124 = some r → WGo p e below s n0 (QLb Z a0 n0 h0 a1 c1 c2 c3 F nn m0 A1 A2 A3 x1 Kf r) R_Lb.cells R_Lb.slots T119 (mkF m 80 #[.val (.ref a1), .val (.ref c1), .val (.ref c2), .val (.ref c3), .val (.int (E x1)), .val (.int (E i123)), .unset, .unset] []) := by
      intro T119 h120  i123 A124 S121  d122 hf
      rw [eKx46] at hf
      show WGo _ _ _ _ _ _ _ _ T119 (mkF m 80 #[.val (.ref a1), .val (.ref c1), .val (.ref c2), .val (.ref c3), .val (.int (E x1)), .val (.int (E i123)), .unset, .unset] [])
      refine WGo.st (fun _ q => XS.aloadN S121.here hx rfl (hb hby e17_80) rfl rfl q) ?_
      refine WGo.st (fun _ q => XS.iload S121.here hx rfl (hb hby e17_81) rfl q) ?_
      refine w_anw S121 d122 (hwi hw 0 rfl) rfl rfl (hb hby e17_83) rfl (cap := 4) hf (by decide) (by decide) (by decide) ?_
      intro T126 h127 a125 S128 d129 hf
      show WGo _ _ _ _ _ _ _ _ T126 (mkF m 85 #[.val (.ref a1), .val (.ref c1), .val (.ref c2), .val (.ref c3), .val (.int (E x1)), .val (.int (E i123)), .unset, .unset] [(.ref a125), (.ref a1)])
      refine w_apf S128 d129 (i := 0) (fi := 34) hown (hwi hw 157 rfl) rfl (fn rfl hF34) (Or.inl (hwi hw 158 rfl)) (hwi hw 10 rfl) (ty := (.array .int)) (by decide) rfl rfl rfl rfl (hb hby e17_85) ?_
      intro T130 h131 S132 d133
      show WGo _ _ _ _ _ _ _ _ T130 (mkF m 88 #[.val (.ref a1), .val (.ref c1), .val (.ref c2), .val (.ref c3), .val (.int (E x1)), .val (.int (E i123)), .unset, .unset] [])
      refine WGo.st (fun _ q => XS.aloadN S132.here hx rfl (hb hby e17_88) rfl rfl q) ?_
      refine WGo.st (fun _ q => XS.iload S132.here hx rfl (hb hby e17_89) rfl q) ?_
      refine w_anw S132 d133 (hwi hw 0 rfl) rfl rfl (hb hby e17_91) rfl (cap := 4) hf (by decide) (by decide) (by decide) ?_
      intro T135 h136 a134 S137 d138 hf
      show WGo _ _ _ _ _ _ _ _ T135 (mkF m 93 #[.val (.ref a1), .val (.ref c1), .val (.ref c2), .val (.ref c3), .val (.int (E x1)), .val (.int (E i123)), .unset, .unset] [(.ref a134), (.ref a1)])
      refine w_apf S137 d138 (i := 0) (fi := 35) hown (hwi hw 159 rfl) rfl (fn rfl (fn rfl hF35)) (Or.inl (hwi hw 160 rfl)) (hwi hw 10 rfl) (ty := (.array .int)) (by decide) rfl rfl rfl rfl (hb hby e17_93) ?_
      intro T139 h140 S141 d142
      show WGo _ _ _ _ _ _ _ _ T139 (mkF m 96 #[.val (.ref a1), .val (.ref c1), .val (.ref c2), .val (.ref c3), .val (.int (E x1)), .val (.int (E i123)), .unset, .unset] [])
      refine WGo.st (fun _ q => XS.aloadN S141.here hx rfl (hb hby e17_96) rfl rfl q) ?_
      refine w_agf S141 d142 (i := 0) (fi := 33) hown (hwi hw 155 rfl) rfl (fn rfl (fn rfl (fset_eq hF33))) rfl rfl (hb hby e17_97) ?_
      intro T143 S144
      show WGo _ _ _ _ _ _ _ _ T143 (mkF m 100 #[.val (.ref a1), .val (.ref c1), .val (.ref c2), .val (.ref c3), .val (.int (E x1)), .val (.int (E i123)), .unset, .unset] [(.ref a104)])
      refine WGo.st (fun _ q => XS.aloadN S144.here hx rfl (hb hby e17_100) rfl rfl q) ?_
      refine w_agf S144 d142 (i := 0) (fi := 4) hown (hwi hw 46 rfl) rfl (fn rfl (fn rfl (fn rfl hF4))) rfl rfl (hb hby e17_101) ?_
      intro T145 S146
      show WGo _ _ _ _ _ _ _ _ T145 (mkF m 104 #[.val (.ref a1), .val (.ref c1), .val (.ref c2), .val (.ref c3), .val (.int (E x1)), .val (.int (E i123)), .unset, .unset] [(.int (E nn)), (.ref a104)])
      refine w_static S146 (y := (⟨"java/util/Arrays", "copyOf", "([II)[I"⟩ : MethodName)) hown (hwi hw 161 rfl) (hwi hw 162 rfl) (hwi hw 58 rfl) (hwi hw 163 rfl) (by decide) (rm_Co l Z a0 hw n0 h140 a104 z103 A124 nn S146.ge  (HS.pw d142 [4] (by decide) rfl rfl) _ _ hf) (W := 0) (by decide) (by decide) (by decide) (by decide) rfl (by rw [hml]; rfl) (argsL := [(.ref a104), (.int (E nn))]) (rest := []) (ps := [(.array .int), .int]) (rt := (some (.array .int))) (by decide) rfl rfl rfl (by show 2 * 0 + _ ≤ _; exact Nat.le_of_eq rfl) (hb hby e17_104) ?_
      intro T147 h149 w150 S148 q151
      obtain ⟨a155, y154, rfl, d152, hf⟩ := q151
      have d153 : HS Z a0 n0 h0 [a1, c1, c2, c3] h149 [ob a1 cA (((F.set 33 ("backStart", "[I", (.ref a104))).set 34 ("backEnd", "[I", (.ref a125))).set 35 ("backLower", "[I", (.ref a134))), ia c1 m0 A1, ia c2 m0 A2, ia c3 m0 A3, ia a104 z103 A124, ia a125 x1 AZ, ia a134 x1 AZ, ia a155 nn y154] := HS.call d142 [4] [ia a104 z103 A124] [ia a104 z103 A124] [ia a155 nn y154] (by decide) rfl rfl d152
      show WGo _ _ _ _ _ _ _ _ T147 (mkF m 107 #[.val (.ref a1), .val (.ref c1), .val (.ref c2), .val (.ref c3), .val (.int (E x1)), .val (.int (E i123)), .unset, .unset] [(.ref a155)])
      refine WGo.st (fun _ q => XS.astore S148.here hx rfl (hb hby e17_107) rfl rfl (l' := #[.val (.ref a1), .val (.ref c1), .val (.ref c2), .val (.ref c3), .val (.int (E x1)), .val (.ref a155), .unset, .unset]) rfl q) ?_
      show WGo _ _ _ _ _ _ _ _ T147 (mkF m 109 #[.val (.ref a1), .val (.ref c1), .val (.ref c2), .val (.ref c3), .val (.int (E x1)), .val (.ref a155), .unset, .unset] [])
      refine WGo.st (fun _ q => XS.iconst S148.here hx rfl (hb hby e17_109) q) ?_
      refine WGo.st (fun _ q => XS.istore S148.here hx rfl (hb hby e17_110) rfl (l' := #[.val (.ref a1), .val (.ref c1), .val (.ref c2), .val (.ref c3), .val (.int (E x1)), .val (.ref a155), .val (.int (E 64)), .unset]) rfl q) ?_
      show WGo _ _ _ _ _ _ _ _ T147 (mkF m 112 #[.val (.ref a1), .val (.ref c1), .val (.ref c2), .val (.ref c3), .val (.int (E x1)), .val (.ref a155), .val (.int (E 64)), .unset] [])
      obtain ⟨Kx112, eKx112⟩ : ∃ K : Nat → Nat → Nat → Nat → Option Rt, K = (fun i160 A161 A162 A163 => Kf) := ⟨_, rfl⟩
      rw [← eKx112] at hf
      have hK112 : ∀ (T156 : State) (h157 : Heap) (u164 : Slot) (i160 : Nat) (A161 : Nat) (A162 : Nat) (A163 : Nat), WSt p l e R_Lb s m #[(.ref a1), (.ref c1), (.ref c2), (.ref c3), (.int (E x1))] below meth c Z n0 T156 h157 (4) (17) → One u164 → HS Z a0 n0 h0 [a1, c1, c2, c3] h157 [ob a1 cA (((F.set 33 ("backStart", "[I", (.ref a104))).set 34 ("backEnd", "[I", (.ref a125))).set 35 ("backLower", "[I", (.ref a134))), ia c1 m0 A1, ia c2 m0 A2, ia c3 m0 A3, ia a104 z103 A124, ia a125 x1 A161, ia a134 x1 A162, ia a155 nn A163] → Kx112 i160 A161 A162 A163 = some r → WGo p e below s n0 (QLb Z a0 n0 h0 a1 c1 c2 c3 F nn m0 A1 A2 A3 x1 Kf r) R_Lb.cells R_Lb.slots T156 (mkF m 161 #[.val (.ref a1), .val (.ref c1), .val (.ref c2), .val (.ref c3), .val (.int (E x1)), .val (.ref a155), .val (.int (E i160)), u164] []) := by
        intro T156 h157 u164 i160 A161 A162 A163 S158 hu164 d159 hf
        rw [eKx112] at hf
        show WGo _ _ _ _ _ _ _ _ T156 (mkF m 161 #[.val (.ref a1), .val (.ref c1), .val (.ref c2), .val (.ref c3), .val (.int (E x1)), .val (.ref a155), .val (.int (E i160)), u164] [])
        refine w_retV S158 hret (hb hby e17_161) (by decide) (by decide) ?_
        exact ⟨a104, a125, a134, rfl, HS.take d159 4, hf⟩
      have hL112 : ∀ (T156 : State) (h157 : Heap) (u164 : Slot) (i160 : Nat) (A161 : Nat) (A162 : Nat) (A163 : Nat), WSt p l e R_Lb s m #[(.ref a1), (.ref c1), (.ref c2), (.ref c3), (.int (E x1))] below meth c Z n0 T156 h157 (4) (17) → One u164 → HS Z a0 n0 h0 [a1, c1, c2, c3] h157 [ob a1 cA (((F.set 33 ("backStart", "[I", (.ref a104))).set 34 ("backEnd", "[I", (.ref a125))).set 35 ("backLower", "[I", (.ref a134))), ia c1 m0 A1, ia c2 m0 A2, ia c3 m0 A3, ia a104 z103 A124, ia a125 x1 A161, ia a134 x1 A162, ia a155 nn A163] → fLb_L112 nn m0 A1 A2 A3 x1 Kx112 i160 A161 A162 A163 = some r → WGo p e below s n0 (QLb Z a0 n0 h0 a1 c1 c2 c3 F nn m0 A1 A2 A3 x1 Kf r) R_Lb.cells R_Lb.slots T156 (mkF m 112 #[.val (.ref a1), .val (.ref c1), .val (.ref c2), .val (.ref c3), .val (.int (E x1)), .val (.ref a155), .val (.int (E i160)), u164] []) := by
        refine it8_ind (F := fLb_L112b nn m0 A1 A2 A3 x1 Kx112) (P := fun (gv112 : Nat → Nat → Nat → Nat → Option Rt) => ∀ (T156 : State) (h157 : Heap) (u164 : Slot) (i160 : Nat) (A161 : Nat) (A162 : Nat) (A163 : Nat), WSt p l e R_Lb s m #[(.ref a1), (.ref c1), (.ref c2), (.ref c3), (.int (E x1))] below meth c Z n0 T156 h157 (4) (17) → One u164 → HS Z a0 n0 h0 [a1, c1, c2, c3] h157 [ob a1 cA (((F.set 33 ("backStart", "[I", (.ref a104))).set 34 ("backEnd", "[I", (.ref a125))).set 35 ("backLower", "[I", (.ref a134))), ia c1 m0 A1, ia c2 m0 A2, ia c3 m0 A3, ia a104 z103 A124, ia a125 x1 A161, ia a134 x1 A162, ia a155 nn A163] → gv112 i160 A161 A162 A163 = some r → WGo p e below s n0 (QLb Z a0 n0 h0 a1 c1 c2 c3 F nn m0 A1 A2 A3 x1 Kf r) R_Lb.cells R_Lb.slots T156 (mkF m 112 #[.val (.ref a1), .val (.ref c1), .val (.ref c2), .val (.ref c3), .val (.int (E x1)), .val (.ref a155), .val (.int (E i160)), u164] [])) ?_ ?_
        · intro T156 h157 u164 i160 A161 A162 A163 S158 hu164 d159 hf
          cases (show (none : Option _) = some r from hf)
        · intro gv112 ih T156 h157 u164 i160 A161 A162 A163 S158 hu164 d159 hf
          rw [fLb_L112b] at hf
          show WGo _ _ _ _ _ _ _ _ T156 (mkF m 112 #[.val (.ref a1), .val (.ref c1), .val (.ref c2), .val (.ref c3), .val (.int (E x1)), .val (.ref a155), .val (.int (E i160)), u164] [])
          refine WGo.st (fun _ q => XS.iload S158.here hx rfl (hb hby e17_112) rfl q) ?_
          refine WGo.st (fun _ q => XS.iload S158.here hx rfl (hb hby e17_114) rfl q) ?_
          rcases ltN_some hf with ⟨c116, hf⟩ | ⟨c116, hf⟩
          · refine WGo.st (fun _ q => XS.icmpNo S158.here hx rfl (hb hby e17_116) rfl (tlt c116).2.1 q) ?_
            show WGo _ _ _ _ _ _ _ _ T156 (mkF m 119 #[.val (.ref a1), .val (.ref c1), .val (.ref c2), .val (.ref c3), .val (.int (E x1)), .val (.ref a155), .val (.int (E i160)), u164] [])
            refine WGo.st (fun _ q => XS.aload S158.here hx rfl (hb hby e17_119) rfl rfl q) ?_
            refine WGo.st (fun _ q => XS.aloadN S158.here hx rfl (hb hby e17_121) rfl rfl q) ?_
            refine WGo.st (fun _ q => XS.iload S158.here hx rfl (hb hby e17_122) rfl q) ?_
            refine w_ald S158 d159 (i := 1) rfl rfl (hb hby e17_124) rfl hf ?_
            intro x165 hf
            show WGo _ _ _ _ _ _ _ _ T156 (mkF m 125 #[.val (.ref a1), .val (.ref c1), .val (.ref c2), .val (.ref c3), .val (.int (E x1)), .val (.ref a155), .val (.int (E i160)), u164] [(.int (E x165)), (.ref a155)])
            refine WGo.st (fun _ q => Jvm.Free.XT.dup2 S158.here hx rfl (hb hby e17_125) rfl rfl rfl q) ?_
            refine w_ald S158 d159 (i := 7) rfl rfl (hb hby e17_126) rfl hf ?_
            intro x166 hf
            show WGo _ _ _ _ _ _ _ _ T156 (mkF m 127 #[.val (.ref a1), .val (.ref c1), .val (.ref c2), .val (.ref c3), .val (.int (E x1)), .val (.ref a155), .val (.int (E i160)), u164] [(.int (E x166)), (.int (E x165)), (.ref a155)])
            refine WGo.st (fun _ q => w_dupX2 S158.here hx rfl (hb hby e17_127) rfl rfl rfl rfl q) ?_
            refine WGo.st (fun _ q => XS.iconst S158.here hx rfl (hb hby e17_128) q) ?_
            refine w_addN S158 rfl (hb hby e17_129) rfl hf ?_
            intro z167 hf
            show WGo _ _ _ _ _ _ _ _ T156 (mkF m 130 #[.val (.ref a1), .val (.ref c1), .val (.ref c2), .val (.ref c3), .val (.int (E x1)), .val (.ref a155), .val (.int (E i160)), u164] [(.int (E z167)), (.int (E x165)), (.ref a155), (.int (E x166))])
            refine w_ast S158 d159 (i := 7) rfl rfl (hb hby e17_130) rfl hf ?_
            intro T169 h170 A168 S171 d172 hf
            show WGo _ _ _ _ _ _ _ _ T169 (mkF m 131 #[.val (.ref a1), .val (.ref c1), .val (.ref c2), .val (.ref c3), .val (.int (E x1)), .val (.ref a155), .val (.int (E i160)), u164] [(.int (E x166))])
            refine WGo.st (fun _ q => XS.istoreS S171.here hx rfl (hb hby e17_131) rfl rfl hu164 q) ?_
            show WGo _ _ _ _ _ _ _ _ T169 (mkF m 133 #[.val (.ref a1), .val (.ref c1), .val (.ref c2), .val (.ref c3), .val (.int (E x1)), .val (.ref a155), .val (.int (E i160)), .val (.int (E x166))] [])
            refine WGo.st (fun _ q => XS.aloadN S171.here hx rfl (hb hby e17_133) rfl rfl q) ?_
            refine w_agf S171 d172 (i := 0) (fi := 34) hown (hwi hw 157 rfl) rfl (fn rfl (fset_eq (fn rfl hF34))) rfl rfl (hb hby e17_134) ?_
            intro T173 S174
            show WGo _ _ _ _ _ _ _ _ T173 (mkF m 137 #[.val (.ref a1), .val (.ref c1), .val (.ref c2), .val (.ref c3), .val (.int (E x1)), .val (.ref a155), .val (.int (E i160)), .val (.int (E x166))] [(.ref a125)])
            refine WGo.st (fun _ q => XS.iload S174.here hx rfl (hb hby e17_137) rfl q) ?_
            refine WGo.st (fun _ q => XS.aloadN S174.here hx rfl (hb hby e17_139) rfl rfl q) ?_
            refine WGo.st (fun _ q => XS.iload S174.here hx rfl (hb hby e17_140) rfl q) ?_
            refine w_ald S174 d172 (i := 2) rfl rfl (hb hby e17_142) rfl hf ?_
            intro x175 hf
            show WGo _ _ _ _ _ _ _ _ T173 (mkF m 143 #[.val (.ref a1), .val (.ref c1), .val (.ref c2), .val (.ref c3), .val (.int (E x1)), .val (.ref a155), .val (.int (E i160)), .val (.int (E x166))] [(.int (E x175)), (.int (E x166)), (.ref a125)])
            refine w_ast S174 d172 (i := 5) rfl rfl (hb hby e17_143) rfl hf ?_
            intro T177 h178 A176 S179 d180 hf
            show WGo _ _ _ _ _ _ _ _ T177 (mkF m 144 #[.val (.ref a1), .val (.ref c1), .val (.ref c2), .val (.ref c3), .val (.int (E x1)), .val (.ref a155), .val (.int (E i160)), .val (.int (E x166))] [])
            refine WGo.st (fun _ q => XS.aloadN S179.here hx rfl (hb hby e17_144) rfl rfl q) ?_
            refine w_agf S179 d180 (i := 0) (fi := 35) hown (hwi hw 159 rfl) rfl (fset_eq (fn rfl (fn rfl hF35))) rfl rfl (hb hby e17_145) ?_
            intro T181 S182
            show WGo _ _ _ _ _ _ _ _ T181 (mkF m 148 #[.val (.ref a1), .val (.ref c1), .val (.ref c2), .val (.ref c3), .val (.int (E x1)), .val (.ref a155), .val (.int (E i160)), .val (.int (E x166))] [(.ref a134)])
            refine WGo.st (fun _ q => XS.iload S182.here hx rfl (hb hby e17_148) rfl q) ?_
            refine WGo.st (fun _ q => XS.aloadN S182.here hx rfl (hb hby e17_150) rfl rfl q) ?_
            refine WGo.st (fun _ q => XS.iload S182.here hx rfl (hb hby e17_151) rfl q) ?_
            refine w_ald S182 d180 (i := 3) rfl rfl (hb hby e17_153) rfl hf ?_
            intro x183 hf
            show WGo _ _ _ _ _ _ _ _ T181 (mkF m 154 #[.val (.ref a1), .val (.ref c1), .val (.ref c2), .val (.ref c3), .val (.int (E x1)), .val (.ref a155), .val (.int (E i160)), .val (.int (E x166))] [(.int (E x183)), (.int (E x166)), (.ref a134)])
            refine w_ast S182 d180 (i := 6) rfl rfl (hb hby e17_154) rfl hf ?_
            intro T185 h186 A184 S187 d188 hf
            show WGo _ _ _ _ _ _ _ _ T185 (mkF m 155 #[.val (.ref a1), .val (.ref c1), .val (.ref c2), .val (.ref c3), .val (.int (E x1)), .val (.ref a155), .val (.int (E i160)), .val (.int (E x166))] [])
            refine w_incN S187 rfl (hb hby e17_155) (y := 65) (by decide) rfl (l1 := fun z0 => #[.val (.ref a1), .val (.ref c1), .val (.ref c2), .val (.ref c3), .val (.int (E x1)), .val (.ref a155), .val (.int (E z0)), .val (.int (E x166))]) (fun _ => rfl) (fun _ => rfl) hf ?_
            intro z189 hf
            show WGo _ _ _ _ _ _ _ _ T185 (mkF m 158 #[.val (.ref a1), .val (.ref c1), .val (.ref c2), .val (.ref c3), .val (.int (E x1)), .val (.ref a155), .val (.int (E z189)), .val (.int (E x166))] [])
            refine WGo.st (fun _ q => XS.goto S187.here hx rfl (pc0 := 158) (pc' := 112) rfl (hb hby e17_158) (by decide) (by decide) q) ?_
            show WGo _ _ _ _ _ _ _ _ T185 (mkF m 112 #[.val (.ref a1), .val (.ref c1), .val (.ref c2), .val (.ref c3), .val (.int (E x1)), .val (.ref a155), .val (.int (E z189)), .val (.int (E x166))] [])
            exact ih T185 h186 (.val (.int (E x166))) z189 A176 A184 A168 S187 (One.val rfl) d188  hf
          · refine WGo.st (fun _ q => XS.icmpYes S158.here hx rfl (pc0 := 116) (pc' := 161) rfl (hb hby e17_116) rfl (flt c116).2.1 (by decide) (by decide) q) ?_
            show WGo _ _ _ _ _ _ _ _ T156 (mkF m 161 #[.val (.ref a1), .val (.ref c1), .val (.ref c2), .val (.ref c3), .val (.int (E x1)), .val (.ref a155), .val (.int (E i160)), u164] [])
            exact hK112 T156 h157 u164 i160 A161 A162 A163 S158 hu164 d159 hf
      exact hL112 T147 h149 (.unset) 64 AZ AZ y154 S148 One.u d153 hf
    have hL46 : ∀ (T119 : State) (h120 : Heap) (i123 : Nat) (A124 : Nat), WSt p l e R_Lb s m #[(.ref a1), (.ref c1), (.ref c2), (.ref c3), (.int (E x1))] below meth c Z n0 T119 h120 (1) (5) → HS Z a0 n0 h0 [a1, c1, c2, c3] h120 [ob a1 cA (F.set 33 ("backStart", "[I", (.ref a104))), ia c1 m0 A1, ia c2 m0 A2, ia c3 m0 A3, ia a104 z103 A124] → fLb_L46 nn z103 Kx46 i123 A124 = some r → WGo p e below s n0 (QLb Z a0 n0 h0 a1 c1 c2 c3 F nn m0 A1 A2 A3 x1 Kf r) R_Lb.cells R_Lb.slots T119 (mkF m 46 #[.val (.ref a1), .val (.ref c1), .val (.ref c2), .val (.ref c3), .val (.int (E x1)), .val (.int (E i123)), .unset, .unset] []) := by
      refine it8_ind (F := fLb_L46b nn z103 Kx46) (P := fun (gv46 : Nat → Nat → Option Rt) => ∀ (T119 : State) (h120 : Heap) (i123 : Nat) (A124 : Nat), WSt p l e R_Lb s m #[(.ref a1), (.ref c1), (.ref c2), (.ref c3), (.int (E x1))] below meth c Z n0 T119 h120 (1) (5) → HS Z a0 n0 h0 [a1, c1, c2, c3] h120 [ob a1 cA (F.set 33 ("backStart", "[I", (.ref a104))), ia c1 m0 A1, ia c2 m0 A2, ia c3 m0 A3, ia a104 z103 A124] → gv46 i123 A124 = some r → WGo p e below s n0 (QLb Z a0 n0 h0 a1 c1 c2 c3 F nn m0 A1 A2 A3 x1 Kf r) R_Lb.cells R_Lb.slots T119 (mkF m 46 #[.val (.ref a1), .val (.ref c1), .val (.ref c2), .val (.ref c3), .val (.int (E x1)), .val (.int (E i123)), .unset, .unset] [])) ?_ ?_
      · intro T119 h120  i123 A124 S121  d122 hf
        cases (show (none : Option _) = some r from hf)
      · intro gv46 ih T119 h120  i123 A124 S121  d122 hf
        rw [fLb_L46b] at hf
        show WGo _ _ _ _ _ _ _ _ T119 (mkF m 46 #[.val (.ref a1), .val (.ref c1), .val (.ref c2), .val (.ref c3), .val (.int (E x1)), .val (.int (E i123)), .unset, .unset] [])
        refine WGo.st (fun _ q => XS.iload S121.here hx rfl (hb hby e17_46) rfl q) ?_
        refine WGo.st (fun _ q => XS.aloadN S121.here hx rfl (hb hby e17_48) rfl rfl q) ?_
        refine w_agf S121 d122 (i := 0) (fi := 4) hown (hwi hw 46 rfl) rfl (fn rfl hF4) rfl rfl (hb hby e17_49) ?_
        intro T190 S191
        show WGo _ _ _ _ _ _ _ _ T190 (mkF m 52 #[.val (.ref a1), .val (.ref c1), .val (.ref c2), .val (.ref c3), .val (.int (E x1)), .val (.int (E i123)), .unset, .unset] [(.int (E nn)), (.int (E i123))])
        rcases ltN_some hf with ⟨c52, hf⟩ | ⟨c52, hf⟩
        · refine WGo.st (fun _ q => XS.icmpNo S191.here hx rfl (hb hby e17_52) rfl (tlt c52).2.1 q) ?_
          show WGo _ _ _ _ _ _ _ _ T190 (mkF m 55 #[.val (.ref a1), .val (.ref c1), .val (.ref c2), .val (.ref c3), .val (.int (E x1)), .val (.int (E i123)), .unset, .unset] [])
          refine WGo.st (fun _ q => XS.aloadN S191.here hx rfl (hb hby e17_55) rfl rfl q) ?_
          refine w_agf S191 d122 (i := 0) (fi := 33) hown (hwi hw 155 rfl) rfl (fset_eq hF33) rfl rfl (hb hby e17_56) ?_
          intro T192 S193
          show WGo _ _ _ _ _ _ _ _ T192 (mkF m 59 #[.val (.ref a1), .val (.ref c1), .val (.ref c2), .val (.ref c3), .val (.int (E x1)), .val (.int (E i123)), .unset, .unset] [(.ref a104)])
          refine WGo.st (fun _ q => XS.iload S193.here hx rfl (hb hby e17_59) rfl q) ?_
          refine WGo.st (fun _ q => XS.iconst S193.here hx rfl (hb hby e17_61) q) ?_
          refine w_addN S193 rfl (hb hby e17_62) rfl hf ?_
          intro z194 hf
          show WGo _ _ _ _ _ _ _ _ T192 (mkF m 63 #[.val (.ref a1), .val (.ref c1), .val (.ref c2), .val (.ref c3), .val (.int (E x1)), .val (.int (E i123)), .unset, .unset] [(.int (E z194)), (.ref a104)])
          refine WGo.st (fun _ q => Jvm.Free.XT.dup2 S193.here hx rfl (hb hby e17_63) rfl rfl rfl q) ?_
          refine w_ald S193 d122 (i := 4) rfl rfl (hb hby e17_64) rfl hf ?_
          intro x195 hf
          show WGo _ _ _ _ _ _ _ _ T192 (mkF m 65 #[.val (.ref a1), .val (.ref c1), .val (.ref c2), .val (.ref c3), .val (.int (E x1)), .val (.int (E i123)), .unset, .unset] [(.int (E x195)), (.int (E z194)), (.ref a104)])
          refine WGo.st (fun _ q => XS.aloadN S193.here hx rfl (hb hby e17_65) rfl rfl q) ?_
          refine w_agf S193 d122 (i := 0) (fi := 33) hown (hwi hw 155 rfl) rfl (fset_eq hF33) rfl rfl (hb hby e17_66) ?_
          intro T196 S197
          show WGo _ _ _ _ _ _ _ _ T196 (mkF m 69 #[.val (.ref a1), .val (.ref c1), .val (.ref c2), .val (.ref c3), .val (.int (E x1)), .val (.int (E i123)), .unset, .unset] [(.ref a104), (.int (E x195)), (.int (E z194)), (.ref a104)])
          refine WGo.st (fun _ q => XS.iload S197.here hx rfl (hb hby e17_69) rfl q) ?_
          refine w_ald S197 d122 (i := 4) rfl rfl (hb hby e17_71) rfl hf ?_
          intro x198 hf
          show WGo _ _ _ _ _ _ _ _ T196 (mkF m 72 #[.val (.ref a1), .val (.ref c1), .val (.ref c2), .val (.ref c3), .val (.int (E x1)), .val (.int (E i123)), .unset, .unset] [(.int (E x198)), (.int (E x195)), (.int (E z194)), (.ref a104)])
          refine w_addN S197 rfl (hb hby e17_72) rfl hf ?_
          intro z199 hf
          show WGo _ _ _ _ _ _ _ _ T196 (mkF m 73 #[.val (.ref a1), .val (.ref c1), .val (.ref c2), .val (.ref c3), .val (.int (E x1)), .val (.int (E i123)), .unset, .unset] [(.int (E z199)), (.int (E z194)), (.ref a104)])
          refine w_ast S197 d122 (i := 4) rfl rfl (hb hby e17_73) rfl hf ?_
          intro T201 h202 A200 S203 d204 hf
          show WGo _ _ _ _ _ _ _ _ T201 (mkF m 74 #[.val (.ref a1), .val (.ref c1), .val (.ref c2), .val (.ref c3), .val (.int (E x1)), .val (.int (E i123)), .unset, .unset] [])
          refine w_incN S203 rfl (hb hby e17_74) (y := 65) (by decide) rfl (l1 := fun z0 => #[.val (.ref a1), .val (.ref c1), .val (.ref c2), .val (.ref c3), .val (.int (E x1)), .val (.int (E z0)), .unset, .unset]) (fun _ => rfl) (fun _ => rfl) hf ?_
          intro z205 hf
          show WGo _ _ _ _ _ _ _ _ T201 (mkF m 77 #[.val (.ref a1), .val (.ref c1), .val (.ref c2), .val (.ref c3), .val (.int (E x1)), .val (.int (E z205)), .unset, .unset] [])
          refine WGo.st (fun _ q => XS.goto S203.here hx rfl (pc0 := 77) (pc' := 46) rfl (hb hby e17_77) (by decide) (by decide) q) ?_
          show WGo _ _ _ _ _ _ _ _ T201 (mkF m 46 #[.val (.ref a1), .val (.ref c1), .val (.ref c2), .val (.ref c3), .val (.int (E x1)), .val (.int (E z205)), .unset, .unset] [])
          exact ih T201 h202  z205 A200 S203  d204  hf
        · refine WGo.st (fun _ q => XS.icmpYes S191.here hx rfl (pc0 := 52) (pc' := 80) rfl (hb hby e17_52) rfl (flt c52).2.1 (by decide) (by decide) q) ?_
          show WGo _ _ _ _ _ _ _ _ T190 (mkF m 80 #[.val (.ref a1), .val (.ref c1), .val (.ref c2), .val (.ref c3), .val (.int (E x1)), .val (.int (E i123)), .unset, .unset] [])
          exact hK46 T190 h120  i123 A124 S191  d122 hf
    exact hL46 T113 h114  64 A118 S115  d116 hf
  have hL15 : ∀ (T113 : State) (h114 : Heap) (i117 : Nat) (A118 : Nat), WSt p l e R_Lb s m #[(.ref a1), (.ref c1), (.ref c2), (.ref c3), (.int (E x1))] below meth c Z n0 T113 h114 (1) (5) → HS Z a0 n0 h0 [a1, c1, c2, c3] h114 [ob a1 cA (F.set 33 ("backStart", "[I", (.ref a104))), ia c1 m0 A1, ia c2 m0 A2, ia c3 m0 A3, ia a104 z103 A118] → fLb_L15 m0 A1 x1 z103 Kx15 i117 A118 = some r → WGo p e below s n0 (QLb Z a0 n0 h0 a1 c1 c2 c3 F nn m0 A1 A2 A3 x1 Kf r) R_Lb.cells R_Lb.slots T113 (mkF m 15 #[.val (.ref a1), .val (.ref c1), .val (.ref c2), .val (.ref c3), .val (.int (E x1)), .val (.int (E i117)), .unset, .unset] []) := by
    refine it8_ind (F := fLb_L15b m0 A1 x1 z103 Kx15) (P := fun (gv15 : Nat → Nat → Option Rt) => ∀ (T113 : State) (h114 : Heap) (i117 : Nat) (A118 : Nat), WSt p l e R_Lb s m #[(.ref a1), (.ref c1), (.ref c2), (.ref c3), (.int (E x1))] below meth c Z n0 T113 h114 (1) (5) → HS Z a0 n0 h0 [a1, c1, c2, c3] h114 [ob a1 cA (F.set 33 ("backStart", "[I", (.ref a104))), ia c1 m0 A1, ia c2 m0 A2, ia c3 m0 A3, ia a104 z103 A118] → gv15 i117 A118 = some r → WGo p e below s n0 (QLb Z a0 n0 h0 a1 c1 c2 c3 F nn m0 A1 A2 A3 x1 Kf r) R_Lb.cells R_Lb.slots T113 (mkF m 15 #[.val (.ref a1), .val (.ref c1), .val (.ref c2), .val (.ref c3), .val (.int (E x1)), .val (.int (E i117)), .unset, .unset] [])) ?_ ?_
    · intro T113 h114  i117 A118 S115  d116 hf
      cases (show (none : Option _) = some r from hf)
    · intro gv15 ih T113 h114  i117 A118 S115  d116 hf
      rw [fLb_L15b] at hf
      show WGo _ _ _ _ _ _ _ _ T113 (mkF m 15 #[.val (.ref a1), .val (.ref c1), .val (.ref c2), .val (.ref c3), .val (.int (E x1)), .val (.int (E i117)), .unset, .unset] [])
      refine WGo.st (fun _ q => XS.iload S115.here hx rfl (hb hby e17_15) rfl q) ?_
      refine WGo.st (fun _ q => XS.iload S115.here hx rfl (hb hby e17_17) rfl q) ?_
      rcases ltN_some hf with ⟨c19, hf⟩ | ⟨c19, hf⟩
      · refine WGo.st (fun _ q => XS.icmpNo S115.here hx rfl (hb hby e17_19) rfl (tlt c19).2.1 q) ?_
        show WGo _ _ _ _ _ _ _ _ T113 (mkF m 22 #[.val (.ref a1), .val (.ref c1), .val (.ref c2), .val (.ref c3), .val (.int (E x1)), .val (.int (E i117)), .unset, .unset] [])
        refine WGo.st (fun _ q => XS.aloadN S115.here hx rfl (hb hby e17_22) rfl rfl q) ?_
        refine w_agf S115 d116 (i := 0) (fi := 33) hown (hwi hw 155 rfl) rfl (fset_eq hF33) rfl rfl (hb hby e17_23) ?_
        intro T206 S207
        show WGo _ _ _ _ _ _ _ _ T206 (mkF m 26 #[.val (.ref a1), .val (.ref c1), .val (.ref c2), .val (.ref c3), .val (.int (E x1)), .val (.int (E i117)), .unset, .unset] [(.ref a104)])
        refine WGo.st (fun _ q => XS.aloadN S207.here hx rfl (hb hby e17_26) rfl rfl q) ?_
        refine WGo.st (fun _ q => XS.iload S207.here hx rfl (hb hby e17_27) rfl q) ?_
        refine w_ald S207 d116 (i := 1) rfl rfl (hb hby e17_29) rfl hf ?_
        intro x208 hf
        show WGo _ _ _ _ _ _ _ _ T206 (mkF m 30 #[.val (.ref a1), .val (.ref c1), .val (.ref c2), .val (.ref c3), .val (.int (E x1)), .val (.int (E i117)), .unset, .unset] [(.int (E x208)), (.ref a104)])
        refine WGo.st (fun _ q => XS.iconst S207.here hx rfl (hb hby e17_30) q) ?_
        refine w_addN S207 rfl (hb hby e17_31) rfl hf ?_
        intro z209 hf
        show WGo _ _ _ _ _ _ _ _ T206 (mkF m 32 #[.val (.ref a1), .val (.ref c1), .val (.ref c2), .val (.ref c3), .val (.int (E x1)), .val (.int (E i117)), .unset, .unset] [(.int (E z209)), (.ref a104)])
        refine WGo.st (fun _ q => Jvm.Free.XT.dup2 S207.here hx rfl (hb hby e17_32) rfl rfl rfl q) ?_
        refine w_ald S207 d116 (i := 4) rfl rfl (hb hby e17_33) rfl hf ?_
        intro x210 hf
        show WGo _ _ _ _ _ _ _ _ T206 (mkF m 34 #[.val (.ref a1), .val (.ref c1), .val (.ref c2), .val (.ref c3), .val (.int (E x1)), .val (.int (E i117)), .unset, .unset] [(.int (E x210)), (.int (E z209)), (.ref a104)])
        refine WGo.st (fun _ q => XS.iconst S207.here hx rfl (hb hby e17_34) q) ?_
        refine w_addN S207 rfl (hb hby e17_35) rfl hf ?_
        intro z211 hf
        show WGo _ _ _ _ _ _ _ _ T206 (mkF m 36 #[.val (.ref a1), .val (.ref c1), .val (.ref c2), .val (.ref c3), .val (.int (E x1)), .val (.int (E i117)), .unset, .unset] [(.int (E z211)), (.int (E z209)), (.ref a104)])
        refine w_ast S207 d116 (i := 4) rfl rfl (hb hby e17_36) rfl hf ?_
        intro T213 h214 A212 S215 d216 hf
        show WGo _ _ _ _ _ _ _ _ T213 (mkF m 37 #[.val (.ref a1), .val (.ref c1), .val (.ref c2), .val (.ref c3), .val (.int (E x1)), .val (.int (E i117)), .unset, .unset] [])
        refine w_incN S215 rfl (hb hby e17_37) (y := 65) (by decide) rfl (l1 := fun z0 => #[.val (.ref a1), .val (.ref c1), .val (.ref c2), .val (.ref c3), .val (.int (E x1)), .val (.int (E z0)), .unset, .unset]) (fun _ => rfl) (fun _ => rfl) hf ?_
        intro z217 hf
        show WGo _ _ _ _ _ _ _ _ T213 (mkF m 40 #[.val (.ref a1), .val (.ref c1), .val (.ref c2), .val (.ref c3), .val (.int (E x1)), .val (.int (E z217)), .unset, .unset] [])
        refine WGo.st (fun _ q => XS.goto S215.here hx rfl (pc0 := 40) (pc' := 15) rfl (hb hby e17_40) (by decide) (by decide) q) ?_
        show WGo _ _ _ _ _ _ _ _ T213 (mkF m 15 #[.val (.ref a1), .val (.ref c1), .val (.ref c2), .val (.ref c3), .val (.int (E x1)), .val (.int (E z217)), .unset, .unset] [])
        exact ih T213 h214  z217 A212 S215  d216  hf
      · refine WGo.st (fun _ q => XS.icmpYes S115.here hx rfl (pc0 := 19) (pc' := 43) rfl (hb hby e17_19) rfl (flt c19).2.1 (by decide) (by decide) q) ?_
        show WGo _ _ _ _ _ _ _ _ T113 (mkF m 43 #[.val (.ref a1), .val (.ref c1), .val (.ref c2), .val (.ref c3), .val (.int (E x1)), .val (.int (E i117)), .unset, .unset] [])
        exact hK15 T113 h114  i117 A118 S115  d116 hf
  exact hL15 T109 h110  64 AZ S111  d112 hf
theorem e13_0 : decode prog_27_method_5_code 0 = .ok (.aload_n 0, 1) := by decide +kernel
theorem e13_1 : decode prog_27_method_5_code 1 = .ok (.getfield 50, 3) := by decide +kernel
theorem e13_4 : decode prog_27_method_5_code 4 = .ok (.iconst (-1), 1) := by decide +kernel
theorem e13_5 : decode prog_27_method_5_code 5 = .ok (.invokestatic 129, 3) := by decide +kernel
theorem e13_8 : decode prog_27_method_5_code 8 = .ok (.aload_n 0, 1) := by decide +kernel
theorem e13_9 : decode prog_27_method_5_code 9 = .ok (.getfield 30, 3) := by decide +kernel
theorem e13_12 : decode prog_27_method_5_code 12 = .ok (.newarray .int, 2) := by decide +kernel
theorem e13_14 : decode prog_27_method_5_code 14 = .ok (.astore_n 1, 1) := by decide +kernel
theorem e13_15 : decode prog_27_method_5_code 15 = .ok (.aload_n 0, 1) := by decide +kernel
theorem e13_16 : decode prog_27_method_5_code 16 = .ok (.getfield 30, 3) := by decide +kernel
theorem e13_19 : decode prog_27_method_5_code 19 = .ok (.newarray .int, 2) := by decide +kernel
theorem e13_21 : decode prog_27_method_5_code 21 = .ok (.astore_n 2, 1) := by decide +kernel
theorem e13_22 : decode prog_27_method_5_code 22 = .ok (.aload_n 0, 1) := by decide +kernel
theorem e13_23 : decode prog_27_method_5_code 23 = .ok (.getfield 30, 3) := by decide +kernel
theorem e13_26 : decode prog_27_method_5_code 26 = .ok (.newarray .int, 2) := by decide +kernel
theorem e13_28 : decode prog_27_method_5_code 28 = .ok (.astore_n 3, 1) := by decide +kernel
theorem e13_29 : decode prog_27_method_5_code 29 = .ok (.bipush 16, 2) := by decide +kernel
theorem e13_31 : decode prog_27_method_5_code 31 = .ok (.aload_n 0, 1) := by decide +kernel
theorem e13_32 : decode prog_27_method_5_code 32 = .ok (.getfield 20, 3) := by decide +kernel
theorem e13_35 : decode prog_27_method_5_code 35 = .ok (.invokevirtual 33, 3) := by decide +kernel
theorem e13_38 : decode prog_27_method_5_code 38 = .ok (.aload_n 0, 1) := by decide +kernel
theorem e13_39 : decode prog_27_method_5_code 39 = .ok (.getfield 30, 3) := by decide +kernel
theorem e13_42 : decode prog_27_method_5_code 42 = .ok (.isub, 1) := by decide +kernel
theorem e13_43 : decode prog_27_method_5_code 43 = .ok (.iconst 1, 1) := by decide +kernel
theorem e13_44 : decode prog_27_method_5_code 44 = .ok (.iadd, 1) := by decide +kernel
theorem e13_45 : decode prog_27_method_5_code 45 = .ok (.invokestatic 156, 3) := by decide +kernel
theorem e13_48 : decode prog_27_method_5_code 48 = .ok (.newarray .int, 2) := by decide +kernel
theorem e13_50 : decode prog_27_method_5_code 50 = .ok (.astore 4, 2) := by decide +kernel
theorem e13_52 : decode prog_27_method_5_code 52 = .ok (.aload 4, 2) := by decide +kernel
theorem e13_54 : decode prog_27_method_5_code 54 = .ok (.arraylength, 1) := by decide +kernel
theorem e13_55 : decode prog_27_method_5_code 55 = .ok (.newarray .int, 2) := by decide +kernel
theorem e13_57 : decode prog_27_method_5_code 57 = .ok (.astore 5, 2) := by decide +kernel
theorem e13_59 : decode prog_27_method_5_code 59 = .ok (.aload 4, 2) := by decide +kernel
theorem e13_61 : decode prog_27_method_5_code 61 = .ok (.arraylength, 1) := by decide +kernel
theorem e13_62 : decode prog_27_method_5_code 62 = .ok (.newarray .int, 2) := by decide +kernel
theorem e13_64 : decode prog_27_method_5_code 64 = .ok (.astore 6, 2) := by decide +kernel
theorem e13_66 : decode prog_27_method_5_code 66 = .ok (.iconst 0, 1) := by decide +kernel
theorem e13_67 : decode prog_27_method_5_code 67 = .ok (.istore 7, 2) := by decide +kernel
theorem e13_69 : decode prog_27_method_5_code 69 = .ok (.iconst 0, 1) := by decide +kernel
theorem e13_70 : decode prog_27_method_5_code 70 = .ok (.istore 8, 2) := by decide +kernel
theorem e13_72 : decode prog_27_method_5_code 72 = .ok (.iconst 0, 1) := by decide +kernel
theorem e13_73 : decode prog_27_method_5_code 73 = .ok (.istore 9, 2) := by decide +kernel
theorem e13_75 : decode prog_27_method_5_code 75 = .ok (.iload 9, 2) := by decide +kernel
theorem e13_77 : decode prog_27_method_5_code 77 = .ok (.aload_n 0, 1) := by decide +kernel
theorem e13_78 : decode prog_27_method_5_code 78 = .ok (.getfield 30, 3) := by decide +kernel
theorem e13_81 : decode prog_27_method_5_code 81 = .ok (.if_icmp .ge 333, 3) := by decide +kernel
theorem e13_84 : decode prog_27_method_5_code 84 = .ok (.aload_n 0, 1) := by decide +kernel
theorem e13_85 : decode prog_27_method_5_code 85 = .ok (.getfield 50, 3) := by decide +kernel
theorem e13_88 : decode prog_27_method_5_code 88 = .ok (.iload 9, 2) := by decide +kernel
theorem e13_90 : decode prog_27_method_5_code 90 = .ok (.iaload, 1) := by decide +kernel
theorem e13_91 : decode prog_27_method_5_code 91 = .ok (.ifCond .lt 6, 3) := by decide +kernel
theorem e13_94 : decode prog_27_method_5_code 94 = .ok (.goto 314, 3) := by decide +kernel
theorem e13_97 : decode prog_27_method_5_code 97 = .ok (.aload_n 0, 1) := by decide +kernel
theorem e13_98 : decode prog_27_method_5_code 98 = .ok (.iload 9, 2) := by decide +kernel
theorem e13_100 : decode prog_27_method_5_code 100 = .ok (.iload 8, 2) := by decide +kernel
theorem e13_102 : decode prog_27_method_5_code 102 = .ok (.iconst (-1), 1) := by decide +kernel
theorem e13_103 : decode prog_27_method_5_code 103 = .ok (.iconst (-1), 1) := by decide +kernel
theorem e13_104 : decode prog_27_method_5_code 104 = .ok (.invokevirtual 161, 3) := by decide +kernel
theorem e13_107 : decode prog_27_method_5_code 107 = .ok (.aload_n 1, 1) := by decide +kernel
theorem e13_108 : decode prog_27_method_5_code 108 = .ok (.iconst 0, 1) := by decide +kernel
theorem e13_109 : decode prog_27_method_5_code 109 = .ok (.iload 9, 2) := by decide +kernel
theorem e13_111 : decode prog_27_method_5_code 111 = .ok (.iastore, 1) := by decide +kernel
theorem e13_112 : decode prog_27_method_5_code 112 = .ok (.aload_n 2, 1) := by decide +kernel
theorem e13_113 : decode prog_27_method_5_code 113 = .ok (.iconst 0, 1) := by decide +kernel
theorem e13_114 : decode prog_27_method_5_code 114 = .ok (.iload 8, 2) := by decide +kernel
theorem e13_116 : decode prog_27_method_5_code 116 = .ok (.iinc 8 1, 3) := by decide +kernel
theorem e13_119 : decode prog_27_method_5_code 119 = .ok (.iastore, 1) := by decide +kernel
theorem e13_120 : decode prog_27_method_5_code 120 = .ok (.aload_n 3, 1) := by decide +kernel
theorem e13_121 : decode prog_27_method_5_code 121 = .ok (.iconst 0, 1) := by decide +kernel
theorem e13_122 : decode prog_27_method_5_code 122 = .ok (.iconst 0, 1) := by decide +kernel
theorem e13_123 : decode prog_27_method_5_code 123 = .ok (.iastore, 1) := by decide +kernel
theorem e13_124 : decode prog_27_method_5_code 124 = .ok (.iconst 1, 1) := by decide +kernel
theorem e13_125 : decode prog_27_method_5_code 125 = .ok (.istore 10, 2) := by decide +kernel
theorem e13_127 : decode prog_27_method_5_code 127 = .ok (.iload 10, 2) := by decide +kernel
theorem e13_129 : decode prog_27_method_5_code 129 = .ok (.ifCond .le 279, 3) := by decide +kernel
theorem e13_132 : decode prog_27_method_5_code 132 = .ok (.aload_n 1, 1) := by decide +kernel
theorem e13_133 : decode prog_27_method_5_code 133 = .ok (.iload 10, 2) := by decide +kernel
theorem e13_135 : decode prog_27_method_5_code 135 = .ok (.iconst 1, 1) := by decide +kernel
theorem e13_136 : decode prog_27_method_5_code 136 = .ok (.isub, 1) := by decide +kernel
theorem e13_137 : decode prog_27_method_5_code 137 = .ok (.iaload, 1) := by decide +kernel
theorem e13_138 : decode prog_27_method_5_code 138 = .ok (.istore 11, 2) := by decide +kernel
theorem e13_140 : decode prog_27_method_5_code 140 = .ok (.aload_n 2, 1) := by decide +kernel
theorem e13_141 : decode prog_27_method_5_code 141 = .ok (.iload 10, 2) := by decide +kernel
theorem e13_143 : decode prog_27_method_5_code 143 = .ok (.iconst 1, 1) := by decide +kernel
theorem e13_144 : decode prog_27_method_5_code 144 = .ok (.isub, 1) := by decide +kernel
theorem e13_145 : decode prog_27_method_5_code 145 = .ok (.iaload, 1) := by decide +kernel
theorem e13_146 : decode prog_27_method_5_code 146 = .ok (.istore 12, 2) := by decide +kernel
theorem e13_148 : decode prog_27_method_5_code 148 = .ok (.aload_n 3, 1) := by decide +kernel
theorem e13_149 : decode prog_27_method_5_code 149 = .ok (.iload 10, 2) := by decide +kernel
theorem e13_151 : decode prog_27_method_5_code 151 = .ok (.iconst 1, 1) := by decide +kernel
theorem e13_152 : decode prog_27_method_5_code 152 = .ok (.isub, 1) := by decide +kernel
theorem e13_153 : decode prog_27_method_5_code 153 = .ok (.iaload, 1) := by decide +kernel
theorem e13_154 : decode prog_27_method_5_code 154 = .ok (.istore 13, 2) := by decide +kernel
theorem e13_156 : decode prog_27_method_5_code 156 = .ok (.iload 13, 2) := by decide +kernel
theorem e13_158 : decode prog_27_method_5_code 158 = .ok (.aload_n 0, 1) := by decide +kernel
theorem e13_159 : decode prog_27_method_5_code 159 = .ok (.getfield 20, 3) := by decide +kernel
theorem e13_162 : decode prog_27_method_5_code 162 = .ok (.iload 11, 2) := by decide +kernel
theorem e13_164 : decode prog_27_method_5_code 164 = .ok (.invokevirtual 145, 3) := by decide +kernel
theorem e13_167 : decode prog_27_method_5_code 167 = .ok (.if_icmp .ne 9, 3) := by decide +kernel
theorem e13_170 : decode prog_27_method_5_code 170 = .ok (.iinc 10 (-1), 3) := by decide +kernel
theorem e13_173 : decode prog_27_method_5_code 173 = .ok (.goto (-46), 3) := by decide +kernel
theorem e13_176 : decode prog_27_method_5_code 176 = .ok (.aload_n 3, 1) := by decide +kernel
theorem e13_177 : decode prog_27_method_5_code 177 = .ok (.iload 10, 2) := by decide +kernel
theorem e13_179 : decode prog_27_method_5_code 179 = .ok (.iconst 1, 1) := by decide +kernel
theorem e13_180 : decode prog_27_method_5_code 180 = .ok (.isub, 1) := by decide +kernel
theorem e13_181 : decode prog_27_method_5_code 181 = .ok (.iload 13, 2) := by decide +kernel
theorem e13_183 : decode prog_27_method_5_code 183 = .ok (.iconst 1, 1) := by decide +kernel
theorem e13_184 : decode prog_27_method_5_code 184 = .ok (.iadd, 1) := by decide +kernel
theorem e13_185 : decode prog_27_method_5_code 185 = .ok (.iastore, 1) := by decide +kernel
theorem e13_186 : decode prog_27_method_5_code 186 = .ok (.aload_n 0, 1) := by decide +kernel
theorem e13_187 : decode prog_27_method_5_code 187 = .ok (.getfield 20, 3) := by decide +kernel
theorem e13_190 : decode prog_27_method_5_code 190 = .ok (.iload 11, 2) := by decide +kernel
theorem e13_192 : decode prog_27_method_5_code 192 = .ok (.iload 13, 2) := by decide +kernel
theorem e13_194 : decode prog_27_method_5_code 194 = .ok (.invokevirtual 149, 3) := by decide +kernel
theorem e13_197 : decode prog_27_method_5_code 197 = .ok (.istore 14, 2) := by decide +kernel
theorem e13_199 : decode prog_27_method_5_code 199 = .ok (.aload_n 0, 1) := by decide +kernel
theorem e13_200 : decode prog_27_method_5_code 200 = .ok (.getfield 47, 3) := by decide +kernel
theorem e13_203 : decode prog_27_method_5_code 203 = .ok (.ifCond .eq 17, 3) := by decide +kernel
theorem e13_206 : decode prog_27_method_5_code 206 = .ok (.aload_n 0, 1) := by decide +kernel
theorem e13_207 : decode prog_27_method_5_code 207 = .ok (.iload 14, 2) := by decide +kernel
theorem e13_209 : decode prog_27_method_5_code 209 = .ok (.iconst 1, 1) := by decide +kernel
theorem e13_210 : decode prog_27_method_5_code 210 = .ok (.ishr, 1) := by decide +kernel
theorem e13_211 : decode prog_27_method_5_code 211 = .ok (.invokevirtual 165, 3) := by decide +kernel
theorem e13_214 : decode prog_27_method_5_code 214 = .ok (.ifCond .ne 6, 3) := by decide +kernel
theorem e13_217 : decode prog_27_method_5_code 217 = .ok (.goto (-90), 3) := by decide +kernel
theorem e13_220 : decode prog_27_method_5_code 220 = .ok (.aload_n 0, 1) := by decide +kernel
theorem e13_221 : decode prog_27_method_5_code 221 = .ok (.getfield 20, 3) := by decide +kernel
theorem e13_224 : decode prog_27_method_5_code 224 = .ok (.iload 11, 2) := by decide +kernel
theorem e13_226 : decode prog_27_method_5_code 226 = .ok (.iload 13, 2) := by decide +kernel
theorem e13_228 : decode prog_27_method_5_code 228 = .ok (.invokevirtual 153, 3) := by decide +kernel
theorem e13_231 : decode prog_27_method_5_code 231 = .ok (.istore 15, 2) := by decide +kernel
theorem e13_233 : decode prog_27_method_5_code 233 = .ok (.aload_n 0, 1) := by decide +kernel
theorem e13_234 : decode prog_27_method_5_code 234 = .ok (.getfield 50, 3) := by decide +kernel
theorem e13_237 : decode prog_27_method_5_code 237 = .ok (.iload 15, 2) := by decide +kernel
theorem e13_239 : decode prog_27_method_5_code 239 = .ok (.iaload, 1) := by decide +kernel
theorem e13_240 : decode prog_27_method_5_code 240 = .ok (.istore 16, 2) := by decide +kernel
theorem e13_242 : decode prog_27_method_5_code 242 = .ok (.iload 16, 2) := by decide +kernel
theorem e13_244 : decode prog_27_method_5_code 244 = .ok (.ifCond .ge 41, 3) := by decide +kernel
theorem e13_247 : decode prog_27_method_5_code 247 = .ok (.aload_n 0, 1) := by decide +kernel
theorem e13_248 : decode prog_27_method_5_code 248 = .ok (.iload 15, 2) := by decide +kernel
theorem e13_250 : decode prog_27_method_5_code 250 = .ok (.iload 8, 2) := by decide +kernel
theorem e13_252 : decode prog_27_method_5_code 252 = .ok (.iload 12, 2) := by decide +kernel
theorem e13_254 : decode prog_27_method_5_code 254 = .ok (.iload 14, 2) := by decide +kernel
theorem e13_256 : decode prog_27_method_5_code 256 = .ok (.invokevirtual 161, 3) := by decide +kernel
theorem e13_259 : decode prog_27_method_5_code 259 = .ok (.aload_n 1, 1) := by decide +kernel
theorem e13_260 : decode prog_27_method_5_code 260 = .ok (.iload 10, 2) := by decide +kernel
theorem e13_262 : decode prog_27_method_5_code 262 = .ok (.iload 15, 2) := by decide +kernel
theorem e13_264 : decode prog_27_method_5_code 264 = .ok (.iastore, 1) := by decide +kernel
theorem e13_265 : decode prog_27_method_5_code 265 = .ok (.aload_n 2, 1) := by decide +kernel
theorem e13_266 : decode prog_27_method_5_code 266 = .ok (.iload 10, 2) := by decide +kernel
theorem e13_268 : decode prog_27_method_5_code 268 = .ok (.iload 8, 2) := by decide +kernel
theorem e13_270 : decode prog_27_method_5_code 270 = .ok (.iinc 8 1, 3) := by decide +kernel
theorem e13_273 : decode prog_27_method_5_code 273 = .ok (.iastore, 1) := by decide +kernel
theorem e13_274 : decode prog_27_method_5_code 274 = .ok (.aload_n 3, 1) := by decide +kernel
theorem e13_275 : decode prog_27_method_5_code 275 = .ok (.iload 10, 2) := by decide +kernel
theorem e13_277 : decode prog_27_method_5_code 277 = .ok (.iinc 10 1, 3) := by decide +kernel
theorem e13_280 : decode prog_27_method_5_code 280 = .ok (.iconst 0, 1) := by decide +kernel
theorem e13_281 : decode prog_27_method_5_code 281 = .ok (.iastore, 1) := by decide +kernel
theorem e13_282 : decode prog_27_method_5_code 282 = .ok (.goto 123, 3) := by decide +kernel
theorem e13_285 : decode prog_27_method_5_code 285 = .ok (.iload 16, 2) := by decide +kernel
theorem e13_287 : decode prog_27_method_5_code 287 = .ok (.iload 12, 2) := by decide +kernel
theorem e13_289 : decode prog_27_method_5_code 289 = .ok (.if_icmp .ge 116, 3) := by decide +kernel
theorem e13_292 : decode prog_27_method_5_code 292 = .ok (.iload 14, 2) := by decide +kernel
theorem e13_294 : decode prog_27_method_5_code 294 = .ok (.aload_n 0, 1) := by decide +kernel
theorem e13_295 : decode prog_27_method_5_code 295 = .ok (.getfield 59, 3) := by decide +kernel
theorem e13_298 : decode prog_27_method_5_code 298 = .ok (.iload 12, 2) := by decide +kernel
theorem e13_300 : decode prog_27_method_5_code 300 = .ok (.iaload, 1) := by decide +kernel
theorem e13_301 : decode prog_27_method_5_code 301 = .ok (.iconst 1, 1) := by decide +kernel
theorem e13_302 : decode prog_27_method_5_code 302 = .ok (.ixor, 1) := by decide +kernel
theorem e13_303 : decode prog_27_method_5_code 303 = .ok (.if_icmp .eq 102, 3) := by decide +kernel
theorem e13_306 : decode prog_27_method_5_code 306 = .ok (.iload 7, 2) := by decide +kernel
theorem e13_308 : decode prog_27_method_5_code 308 = .ok (.aload 4, 2) := by decide +kernel
theorem e13_310 : decode prog_27_method_5_code 310 = .ok (.arraylength, 1) := by decide +kernel
theorem e13_311 : decode prog_27_method_5_code 311 = .ok (.if_icmp .ne 36, 3) := by decide +kernel
theorem e13_347 : decode prog_27_method_5_code 347 = .ok (.aload 4, 2) := by decide +kernel
theorem e13_349 : decode prog_27_method_5_code 349 = .ok (.iload 7, 2) := by decide +kernel
theorem e13_351 : decode prog_27_method_5_code 351 = .ok (.iload 16, 2) := by decide +kernel
theorem e13_353 : decode prog_27_method_5_code 353 = .ok (.iastore, 1) := by decide +kernel
theorem e13_354 : decode prog_27_method_5_code 354 = .ok (.aload 5, 2) := by decide +kernel
theorem e13_356 : decode prog_27_method_5_code 356 = .ok (.iload 7, 2) := by decide +kernel
theorem e13_358 : decode prog_27_method_5_code 358 = .ok (.iload 14, 2) := by decide +kernel
theorem e13_360 : decode prog_27_method_5_code 360 = .ok (.iconst 1, 1) := by decide +kernel
theorem e13_361 : decode prog_27_method_5_code 361 = .ok (.ixor, 1) := by decide +kernel
theorem e13_362 : decode prog_27_method_5_code 362 = .ok (.iastore, 1) := by decide +kernel
theorem e13_363 : decode prog_27_method_5_code 363 = .ok (.aload 6, 2) := by decide +kernel
theorem e13_365 : decode prog_27_method_5_code 365 = .ok (.iload 7, 2) := by decide +kernel
theorem e13_367 : decode prog_27_method_5_code 367 = .ok (.iinc 7 1, 3) := by decide +kernel
theorem e13_370 : decode prog_27_method_5_code 370 = .ok (.iload 12, 2) := by decide +kernel
theorem e13_372 : decode prog_27_method_5_code 372 = .ok (.iastore, 1) := by decide +kernel
theorem e13_373 : decode prog_27_method_5_code 373 = .ok (.iload 16, 2) := by decide +kernel
theorem e13_375 : decode prog_27_method_5_code 375 = .ok (.aload_n 0, 1) := by decide +kernel
theorem e13_376 : decode prog_27_method_5_code 376 = .ok (.getfield 62, 3) := by decide +kernel
theorem e13_379 : decode prog_27_method_5_code 379 = .ok (.iload 12, 2) := by decide +kernel
theorem e13_381 : decode prog_27_method_5_code 381 = .ok (.iaload, 1) := by decide +kernel
theorem e13_382 : decode prog_27_method_5_code 382 = .ok (.if_icmp .ge 23, 3) := by decide +kernel
theorem e13_385 : decode prog_27_method_5_code 385 = .ok (.aload_n 0, 1) := by decide +kernel
theorem e13_386 : decode prog_27_method_5_code 386 = .ok (.getfield 62, 3) := by decide +kernel
theorem e13_389 : decode prog_27_method_5_code 389 = .ok (.iload 12, 2) := by decide +kernel
theorem e13_391 : decode prog_27_method_5_code 391 = .ok (.iload 16, 2) := by decide +kernel
theorem e13_393 : decode prog_27_method_5_code 393 = .ok (.iastore, 1) := by decide +kernel
theorem e13_394 : decode prog_27_method_5_code 394 = .ok (.aload_n 0, 1) := by decide +kernel
theorem e13_395 : decode prog_27_method_5_code 395 = .ok (.getfield 65, 3) := by decide +kernel
theorem e13_398 : decode prog_27_method_5_code 398 = .ok (.iload 12, 2) := by decide +kernel
theorem e13_400 : decode prog_27_method_5_code 400 = .ok (.iload 14, 2) := by decide +kernel
theorem e13_402 : decode prog_27_method_5_code 402 = .ok (.iconst 1, 1) := by decide +kernel
theorem e13_403 : decode prog_27_method_5_code 403 = .ok (.ishr, 1) := by decide +kernel
theorem e13_404 : decode prog_27_method_5_code 404 = .ok (.iastore, 1) := by decide +kernel
theorem e13_405 : decode prog_27_method_5_code 405 = .ok (.goto (-278), 3) := by decide +kernel
theorem e13_408 : decode prog_27_method_5_code 408 = .ok (.iinc 9 1, 3) := by decide +kernel
theorem e13_411 : decode prog_27_method_5_code 411 = .ok (.goto (-336), 3) := by decide +kernel
theorem e13_414 : decode prog_27_method_5_code 414 = .ok (.aload_n 0, 1) := by decide +kernel
theorem e13_415 : decode prog_27_method_5_code 415 = .ok (.aload 4, 2) := by decide +kernel
theorem e13_417 : decode prog_27_method_5_code 417 = .ok (.aload 5, 2) := by decide +kernel
theorem e13_419 : decode prog_27_method_5_code 419 = .ok (.aload 6, 2) := by decide +kernel
theorem e13_421 : decode prog_27_method_5_code 421 = .ok (.iload 7, 2) := by decide +kernel
theorem e13_423 : decode prog_27_method_5_code 423 = .ok (.invokevirtual 173, 3) := by decide +kernel
theorem e13_426 : decode prog_27_method_5_code 426 = .ok (.aload_n 0, 1) := by decide +kernel
theorem e13_427 : decode prog_27_method_5_code 427 = .ok (.getfield 30, 3) := by decide +kernel
theorem e13_430 : decode prog_27_method_5_code 430 = .ok (.iconst 1, 1) := by decide +kernel
theorem e13_431 : decode prog_27_method_5_code 431 = .ok (.isub, 1) := by decide +kernel
theorem e13_432 : decode prog_27_method_5_code 432 = .ok (.istore 9, 2) := by decide +kernel
theorem e13_434 : decode prog_27_method_5_code 434 = .ok (.iload 9, 2) := by decide +kernel
theorem e13_436 : decode prog_27_method_5_code 436 = .ok (.ifCond .lt 113, 3) := by decide +kernel
theorem e13_439 : decode prog_27_method_5_code 439 = .ok (.aload_n 0, 1) := by decide +kernel
theorem e13_440 : decode prog_27_method_5_code 440 = .ok (.getfield 62, 3) := by decide +kernel
theorem e13_443 : decode prog_27_method_5_code 443 = .ok (.iload 9, 2) := by decide +kernel
theorem e13_445 : decode prog_27_method_5_code 445 = .ok (.iaload, 1) := by decide +kernel
theorem e13_446 : decode prog_27_method_5_code 446 = .ok (.aload_n 0, 1) := by decide +kernel
theorem e13_447 : decode prog_27_method_5_code 447 = .ok (.getfield 68, 3) := by decide +kernel
theorem e13_450 : decode prog_27_method_5_code 450 = .ok (.iload 9, 2) := by decide +kernel
theorem e13_452 : decode prog_27_method_5_code 452 = .ok (.iaload, 1) := by decide +kernel
theorem e13_453 : decode prog_27_method_5_code 453 = .ok (.if_icmp .gt 25, 3) := by decide +kernel
theorem e13_456 : decode prog_27_method_5_code 456 = .ok (.aload_n 0, 1) := by decide +kernel
theorem e13_457 : decode prog_27_method_5_code 457 = .ok (.getfield 68, 3) := by decide +kernel
theorem e13_460 : decode prog_27_method_5_code 460 = .ok (.iload 9, 2) := by decide +kernel
theorem e13_462 : decode prog_27_method_5_code 462 = .ok (.aload_n 0, 1) := by decide +kernel
theorem e13_463 : decode prog_27_method_5_code 463 = .ok (.getfield 62, 3) := by decide +kernel
theorem e13_466 : decode prog_27_method_5_code 466 = .ok (.iload 9, 2) := by decide +kernel
theorem e13_468 : decode prog_27_method_5_code 468 = .ok (.iaload, 1) := by decide +kernel
theorem e13_469 : decode prog_27_method_5_code 469 = .ok (.iastore, 1) := by decide +kernel
theorem e13_470 : decode prog_27_method_5_code 470 = .ok (.aload_n 0, 1) := by decide +kernel
theorem e13_471 : decode prog_27_method_5_code 471 = .ok (.getfield 71, 3) := by decide +kernel
theorem e13_474 : decode prog_27_method_5_code 474 = .ok (.iload 9, 2) := by decide +kernel
theorem e13_476 : decode prog_27_method_5_code 476 = .ok (.iconst (-1), 1) := by decide +kernel
theorem e13_477 : decode prog_27_method_5_code 477 = .ok (.iastore, 1) := by decide +kernel
theorem e13_478 : decode prog_27_method_5_code 478 = .ok (.aload_n 0, 1) := by decide +kernel
theorem e13_479 : decode prog_27_method_5_code 479 = .ok (.getfield 56, 3) := by decide +kernel
theorem e13_482 : decode prog_27_method_5_code 482 = .ok (.iload 9, 2) := by decide +kernel
theorem e13_484 : decode prog_27_method_5_code 484 = .ok (.iaload, 1) := by decide +kernel
theorem e13_485 : decode prog_27_method_5_code 485 = .ok (.ifCond .lt 58, 3) := by decide +kernel
theorem e13_488 : decode prog_27_method_5_code 488 = .ok (.aload_n 0, 1) := by decide +kernel
theorem e13_489 : decode prog_27_method_5_code 489 = .ok (.getfield 68, 3) := by decide +kernel
theorem e13_492 : decode prog_27_method_5_code 492 = .ok (.iload 9, 2) := by decide +kernel
theorem e13_494 : decode prog_27_method_5_code 494 = .ok (.iaload, 1) := by decide +kernel
theorem e13_495 : decode prog_27_method_5_code 495 = .ok (.aload_n 0, 1) := by decide +kernel
theorem e13_496 : decode prog_27_method_5_code 496 = .ok (.getfield 68, 3) := by decide +kernel
theorem e13_499 : decode prog_27_method_5_code 499 = .ok (.aload_n 0, 1) := by decide +kernel
theorem e13_500 : decode prog_27_method_5_code 500 = .ok (.getfield 56, 3) := by decide +kernel
theorem e13_503 : decode prog_27_method_5_code 503 = .ok (.iload 9, 2) := by decide +kernel
theorem e13_505 : decode prog_27_method_5_code 505 = .ok (.iaload, 1) := by decide +kernel
theorem e13_506 : decode prog_27_method_5_code 506 = .ok (.iaload, 1) := by decide +kernel
theorem e13_507 : decode prog_27_method_5_code 507 = .ok (.if_icmp .ge 36, 3) := by decide +kernel
theorem e13_510 : decode prog_27_method_5_code 510 = .ok (.aload_n 0, 1) := by decide +kernel
theorem e13_511 : decode prog_27_method_5_code 511 = .ok (.getfield 68, 3) := by decide +kernel
theorem e13_514 : decode prog_27_method_5_code 514 = .ok (.aload_n 0, 1) := by decide +kernel
theorem e13_515 : decode prog_27_method_5_code 515 = .ok (.getfield 56, 3) := by decide +kernel
theorem e13_518 : decode prog_27_method_5_code 518 = .ok (.iload 9, 2) := by decide +kernel
theorem e13_520 : decode prog_27_method_5_code 520 = .ok (.iaload, 1) := by decide +kernel
theorem e13_521 : decode prog_27_method_5_code 521 = .ok (.aload_n 0, 1) := by decide +kernel
theorem e13_522 : decode prog_27_method_5_code 522 = .ok (.getfield 68, 3) := by decide +kernel
theorem e13_525 : decode prog_27_method_5_code 525 = .ok (.iload 9, 2) := by decide +kernel
theorem e13_527 : decode prog_27_method_5_code 527 = .ok (.iaload, 1) := by decide +kernel
theorem e13_528 : decode prog_27_method_5_code 528 = .ok (.iastore, 1) := by decide +kernel
theorem e13_529 : decode prog_27_method_5_code 529 = .ok (.aload_n 0, 1) := by decide +kernel
theorem e13_530 : decode prog_27_method_5_code 530 = .ok (.getfield 71, 3) := by decide +kernel
theorem e13_533 : decode prog_27_method_5_code 533 = .ok (.aload_n 0, 1) := by decide +kernel
theorem e13_534 : decode prog_27_method_5_code 534 = .ok (.getfield 56, 3) := by decide +kernel
theorem e13_537 : decode prog_27_method_5_code 537 = .ok (.iload 9, 2) := by decide +kernel
theorem e13_539 : decode prog_27_method_5_code 539 = .ok (.iaload, 1) := by decide +kernel
theorem e13_540 : decode prog_27_method_5_code 540 = .ok (.iload 9, 2) := by decide +kernel
theorem e13_542 : decode prog_27_method_5_code 542 = .ok (.iastore, 1) := by decide +kernel
theorem e13_543 : decode prog_27_method_5_code 543 = .ok (.iinc 9 (-1), 3) := by decide +kernel
theorem e13_546 : decode prog_27_method_5_code 546 = .ok (.goto (-112), 3) := by decide +kernel
theorem e13_549 : decode prog_27_method_5_code 549 = .ok (.return_, 1) := by decide +kernel
abbrev R_Se : Room := { frames := 3, cells := 10, slots := 77, locals := 124 }
def fSe_L434b {Rt : Type} (nn : Nat) (A177 : Nat) (A179 : Nat) (Kx434 : Nat → Nat → Nat → Option Rt) (gv434 : Nat → Nat → Nat → Option Rt) (i213 : Nat) (A214 : Nat) (A215 : Nat) : Option Rt := ltN i213 64 (Kx434 i213 A214 A215) (rdN A179 nn i213 fun x218 => (rdN A214 nn i213 fun x221 => (ltN x221 x218 (rdN A177 nn i213 fun x224 => (ltN x224 64 (addN i213 63 fun z225 => (gv434 z225 A214 A215)) (rdN A214 nn i213 fun x228 => (rdN A177 nn i213 fun x233 => (rdN A214 nn x233 fun x234 => (ltN x228 x234 (rdN A177 nn i213 fun x239 => (rdN A214 nn i213 fun x242 => (wrN A214 nn x239 x242 fun A243 => (rdN A177 nn i213 fun x252 => (wrN A215 nn x252 i213 fun A253 => (addN i213 63 fun z258 => (gv434 z258 A243 A253))))))) (addN i213 63 fun z259 => (gv434 z259 A214 A215)))))))) (rdN A179 nn i213 fun x264 => (wrN A214 nn i213 x264 fun A265 => (wrN A215 nn i213 63 fun A272 => (rdN A177 nn i213 fun x279 => (ltN x279 64 (addN i213 63 fun z280 => (gv434 z280 A265 A272)) (rdN A265 nn i213 fun x283 => (rdN A177 nn i213 fun x288 => (rdN A265 nn x288 fun x289 => (ltN x283 x289 (rdN A177 nn i213 fun x294 => (rdN A265 nn i213 fun x297 => (wrN A265 nn x294 x297 fun A298 => (rdN A177 nn i213 fun x307 => (wrN A272 nn x307 i213 fun A308 => (addN i213 63 fun z313 => (gv434 z313 A298 A308))))))) (addN i213 63 fun z314 => (gv434 z314 A265 A272))))))))))))))
def fSe_L434 {Rt : Type} (nn : Nat) (A177 : Nat) (A179 : Nat) (Kx434 : Nat → Nat → Nat → Option Rt) : Nat → Nat → Nat → Option Rt := it8 (fSe_L434b nn A177 A179 Kx434) (fun _ _ _ => none)
def fSe_L127b {Rt : Type} (nn : Nat) (nf : Nat) (hc : Nat) (V2 : Nat) (V3 : Nat) (V4 : Nat) (V5 : Nat) (y152 : Nat) (Kx127 : Nat → Nat → Nat → Nat → Nat → Nat → Nat → Nat → Nat → Nat → Nat → Nat → Nat → Nat → Nat → Nat → Nat → Option Rt) (gv127 : Nat → Nat → Nat → Nat → Nat → Nat → Nat → Nat → Nat → Nat → Nat → Nat → Nat → Nat → Nat → Nat → Nat → Option Rt) (i355 : Nat) (i356 : Nat) (i357 : Nat) (A358 : Nat) (A359 : Nat) (A360 : Nat) (A361 : Nat) (A362 : Nat) (A363 : Nat) (A364 : Nat) (A365 : Nat) (A366 : Nat) (A367 : Nat) (A368 : Nat) (A369 : Nat) (A370 : Nat) (A371 : Nat) : Option Rt := ltN 64 i357 (subN i357 65 fun z379 => (rdN A366 nn z379 fun x380 => (subN i357 65 fun z381 => (rdN A367 nn z381 fun x382 => (subN i357 65 fun z383 => (rdN A368 nn z383 fun x384 => (fDg nf V2 x380 fun y394 => (eqN x384 y394 (addN i357 63 fun z395 => (gv127 i355 i356 z395 A358 A359 A360 A361 A362 A363 A364 A365 A366 A367 A368 A369 A370 A371)) (subN i357 65 fun z396 => (addN x384 65 fun z397 => (wrN A368 nn z396 z397 fun A398 => (fEa nf V2 V3 x380 x384 fun y412 => (eqN hc 64 (fNb nf V2 V4 x380 x384 fun y424 => (rdN A358 nn y424 fun x427 => (ltN x427 64 (fRe nn A358 A359 A360 A361 A362 A363 A364 A365 y424 i356 x382 y412 fun y435 y436 y437 y438 y439 y440 y441 y442 => (wrN A366 nn i357 y424 fun A443 => (addN i356 65 fun z448 => (wrN A367 nn i357 i356 fun A449 => (addN i357 65 fun z454 => (wrN A398 nn i357 64 fun A455 => (gv127 i355 z448 z454 y435 y436 y437 y438 y439 y440 y441 y442 A443 A449 A455 A369 A370 A371))))))) (ltN x427 x382 (rdN A361 nn x382 fun x462 => (xorN x462 fun z463 => (eqN y412 z463 (gv127 i355 i356 i357 A358 A359 A360 A361 A362 A363 A364 A365 A366 A367 A398 A369 A370 A371) (capN y152 1000 (eqN i355 y152 (none) (wrN A369 y152 i355 x427 fun A464 => (xorN y412 fun z469 => (wrN A370 y152 i355 z469 fun A470 => (addN i355 65 fun z475 => (wrN A371 y152 i355 x382 fun A476 => (rdN A362 nn x382 fun x483 => (ltN x427 x483 (wrN A362 nn x382 x427 fun A486 => (shrN y412 fun z493 => (wrN A363 nn x382 z493 fun A494 => (gv127 z475 i356 i357 A358 A359 A360 A361 A486 A494 A364 A365 A366 A367 A398 A464 A470 A476)))) (gv127 z475 i356 i357 A358 A359 A360 A361 A362 A363 A364 A365 A366 A367 A398 A464 A470 A476))))))))))))) (gv127 i355 i356 i357 A358 A359 A360 A361 A362 A363 A364 A365 A366 A367 A398 A369 A370 A371))))) (shrN y412 fun z499 => (fIr V5 z499 fun y507 => (eqN y507 64 (gv127 i355 i356 i357 A358 A359 A360 A361 A362 A363 A364 A365 A366 A367 A398 A369 A370 A371) (fNb nf V2 V4 x380 x384 fun y517 => (rdN A358 nn y517 fun x520 => (ltN x520 64 (fRe nn A358 A359 A360 A361 A362 A363 A364 A365 y517 i356 x382 y412 fun y528 y529 y530 y531 y532 y533 y534 y535 => (wrN A366 nn i357 y517 fun A536 => (addN i356 65 fun z541 => (wrN A367 nn i357 i356 fun A542 => (addN i357 65 fun z547 => (wrN A398 nn i357 64 fun A548 => (gv127 i355 z541 z547 y528 y529 y530 y531 y532 y533 y534 y535 A536 A542 A548 A369 A370 A371))))))) (ltN x520 x382 (rdN A361 nn x382 fun x555 => (xorN x555 fun z556 => (eqN y412 z556 (gv127 i355 i356 i357 A358 A359 A360 A361 A362 A363 A364 A365 A366 A367 A398 A369 A370 A371) (capN y152 1000 (eqN i355 y152 (none) (wrN A369 y152 i355 x520 fun A557 => (xorN y412 fun z562 => (wrN A370 y152 i355 z562 fun A563 => (addN i355 65 fun z568 => (wrN A371 y152 i355 x382 fun A569 => (rdN A362 nn x382 fun x576 => (ltN x520 x576 (wrN A362 nn x382 x520 fun A579 => (shrN y412 fun z586 => (wrN A363 nn x382 z586 fun A587 => (gv127 z568 i356 i357 A358 A359 A360 A361 A579 A587 A364 A365 A366 A367 A398 A557 A563 A569)))) (gv127 z568 i356 i357 A358 A359 A360 A361 A362 A363 A364 A365 A366 A367 A398 A557 A563 A569))))))))))))) (gv127 i355 i356 i357 A358 A359 A360 A361 A362 A363 A364 A365 A366 A367 A398 A369 A370 A371))))))))))))))))))))) (Kx127 i355 i356 i357 A358 A359 A360 A361 A362 A363 A364 A365 A366 A367 A368 A369 A370 A371)
def fSe_L127 {Rt : Type} (nn : Nat) (nf : Nat) (hc : Nat) (V2 : Nat) (V3 : Nat) (V4 : Nat) (V5 : Nat) (y152 : Nat) (Kx127 : Nat → Nat → Nat → Nat → Nat → Nat → Nat → Nat → Nat → Nat → Nat → Nat → Nat → Nat → Nat → Nat → Nat → Option Rt) : Nat → Nat → Nat → Nat → Nat → Nat → Nat → Nat → Nat → Nat → Nat → Nat → Nat → Nat → Nat → Nat → Nat → Option Rt := it32 (fSe_L127b nn nf hc V2 V3 V4 V5 y152 Kx127) (fun _ _ _ _ _ _ _ _ _ _ _ _ _ _ _ _ _ => none)
def fSe_L75b {Rt : Type} (nn : Nat) (nf : Nat) (hc : Nat) (V2 : Nat) (V3 : Nat) (V4 : Nat) (V5 : Nat) (y152 : Nat) (Kx75 : Nat → Nat → Nat → Nat → Nat → Nat → Nat → Nat → Nat → Nat → Nat → Nat → Nat → Nat → Nat → Nat → Nat → Option Rt) (gv75 : Nat → Nat → Nat → Nat → Nat → Nat → Nat → Nat → Nat → Nat → Nat → Nat → Nat → Nat → Nat → Nat → Nat → Option Rt) (i172 : Nat) (i173 : Nat) (i174 : Nat) (A175 : Nat) (A176 : Nat) (A177 : Nat) (A178 : Nat) (A179 : Nat) (A180 : Nat) (A181 : Nat) (A182 : Nat) (A183 : Nat) (A184 : Nat) (A185 : Nat) (A186 : Nat) (A187 : Nat) (A188 : Nat) : Option Rt := ltN i174 nn (rdN A175 nn i174 fun x319 => (ltN x319 64 (fRe nn A175 A176 A177 A178 A179 A180 A181 A182 i174 i173 63 63 fun y327 y328 y329 y330 y331 y332 y333 y334 => (wrN A183 nn 64 i174 fun A335 => (addN i173 65 fun z340 => (wrN A184 nn 64 i173 fun A341 => (wrN A185 nn 64 64 fun A346 => (fSe_L127 nn nf hc V2 V3 V4 V5 y152 (fun i355 i356 i357 A358 A359 A360 A361 A362 A363 A364 A365 A366 A367 A368 A369 A370 A371 => addN i174 65 fun z378 => (gv75 i355 i356 z378 A358 A359 A360 A361 A362 A363 A364 A365 A366 A367 A368 A369 A370 A371)) i172 z340 65 y327 y328 y329 y330 y331 y332 y333 y334 A335 A341 A346 A186 A187 A188)))))) (addN i174 65 fun z592 => (gv75 i172 i173 z592 A175 A176 A177 A178 A179 A180 A181 A182 A183 A184 A185 A186 A187 A188)))) (Kx75 i172 i173 i174 A175 A176 A177 A178 A179 A180 A181 A182 A183 A184 A185 A186 A187 A188)
def fSe_L75 {Rt : Type} (nn : Nat) (nf : Nat) (hc : Nat) (V2 : Nat) (V3 : Nat) (V4 : Nat) (V5 : Nat) (y152 : Nat) (Kx75 : Nat → Nat → Nat → Nat → Nat → Nat → Nat → Nat → Nat → Nat → Nat → Nat → Nat → Nat → Nat → Nat → Nat → Option Rt) : Nat → Nat → Nat → Nat → Nat → Nat → Nat → Nat → Nat → Nat → Nat → Nat → Nat → Nat → Nat → Nat → Nat → Option Rt := it8 (fSe_L75b nn nf hc V2 V3 V4 V5 y152 Kx75) (fun _ _ _ _ _ _ _ _ _ _ _ _ _ _ _ _ _ => none)
def fSe {Rt : Type} (nn : Nat) (nf : Nat) (hc : Nat) (V1 : Nat) (V2 : Nat) (V3 : Nat) (V4 : Nat) (V5 : Nat) (A0 : Nat) (A1 : Nat) (A2 : Nat) (A3 : Nat) (A4 : Nat) (A5 : Nat) (A6 : Nat) (A7 : Nat) (Kf : Nat → Nat → Nat → Nat → Nat → Nat → Nat → Nat → Option Rt) : Option Rt := fFi nn A0 63 fun y110 => (capN nn 4 (capN nn 4 (capN nn 4 (fEc V1 (subN 67 nn fun z143 => (addN z143 65 fun z144 => (fMx 80 z144 fun y152 => (capN y152 16 (capN y152 1000 (capN y152 16 (capN y152 1000 (capN y152 16 (fSe_L75 nn nf hc V2 V3 V4 V5 y152 (fun i172 i173 i174 A175 A176 A177 A178 A179 A180 A181 A182 A183 A184 A185 A186 A187 A188 => fLb nn y152 A186 A187 A188 i172 (subN nn 65 fun z208 => (fSe_L434 nn A177 A179 (fun i213 A214 A215 => Kf A175 A176 A177 A178 A179 A180 A214 A215) z208 A181 A182))) 64 64 64 y110 A1 A2 A3 A4 A5 A6 A7 AZ AZ AZ AZ AZ AZ)))))))))))))
def QSe {Rt : Type} (Z : State) (a0 : Array Value) (n0 : Nat) (h0 : Heap) (a1 : Addr) (a2 : Addr) (aV : Addr) (aF : Addr) (aE : Addr) (aN : Addr) (rp : Addr) (r0 : Addr) (r1 : Addr) (r2 : Addr) (r3 : Addr) (r4 : Addr) (r5 : Addr) (r6 : Addr) (r7 : Addr) (F : List (String × String × Value)) (G : List (String × String × Value)) (nn : Nat) (nf : Nat) (hc : Nat) (V1 : Nat) (V2 : Nat) (V3 : Nat) (V4 : Nat) (V5 : Nat) (A0 : Nat) (A1 : Nat) (A2 : Nat) (A3 : Nat) (A4 : Nat) (A5 : Nat) (A6 : Nat) (A7 : Nat) (Kf : Nat → Nat → Nat → Nat → Nat → Nat → Nat → Nat → Option Rt) (r : Rt) (v : Option Value) (h : Heap) : Prop := ∃ b1 : Addr, ∃ b2 : Addr, ∃ b3 : Addr, ∃ B0 : Nat, ∃ B1 : Nat, ∃ B2 : Nat, ∃ B3 : Nat, ∃ B4 : Nat, ∃ B5 : Nat, ∃ B6 : Nat, ∃ B7 : Nat, v = none ∧ HS Z a0 n0 h0 [a1, a2, aV, aF, aE, aN, rp, r0, r1, r2, r3, r4, r5, r6, r7] h [ob a1 cA (((F.set 33 ("backStart", "[I", (.ref b1))).set 34 ("backEnd", "[I", (.ref b2))).set 35 ("backLower", "[I", (.ref b3))), ob a2 cE G, ia aV 70 V1, ia aF nf V2, ia aE 70 V3, ia aN 70 V4, ia rp 67 V5, ia r0 nn B0, ia r1 nn B1, ia r2 nn B2, ia r3 nn B3, ia r4 nn B4, ia r5 nn B5, ia r6 nn B6, ia r7 nn B7] ∧ Kf B0 B1 B2 B3 B4 B5 B6 B7 = some r
theorem ef_Se (m : MethodId) (a1 : Addr) : entryFrame m #[(.ref a1)] 17 = mkF m 0 #[.val (.ref a1), .unset, .unset, .unset, .unset, .unset, .unset, .unset, .unset, .unset, .unset, .unset, .unset, .unset, .unset, .unset, .unset] [] := by first | (simp [entryFrame, mkF, argsToLocals, Value.category, maxLocals]; done) | rfl
set_option maxRecDepth 65536 in
set_option maxHeartbeats 40000000 in
theorem rm_Se {Rt : Type} (l : Launch) (Z : State) (a0 : Array Value) (hw : ∀ d ∈ tables_1, d.before a0 Z = true) (n0 : Nat) (h0 : Heap) (a1 : Addr) (a2 : Addr) (aV : Addr) (aF : Addr) (aE : Addr) (aN : Addr) (rp : Addr) (r0 : Addr) (r1 : Addr) (r2 : Addr) (r3 : Addr) (r4 : Addr) (r5 : Addr) (r6 : Addr) (r7 : Addr) (F : List (String × String × Value)) (G : List (String × String × Value)) (nn : Nat) (nf : Nat) (hc : Nat) (V1 : Nat) (V2 : Nat) (V3 : Nat) (V4 : Nat) (V5 : Nat) (A0 : Nat) (A1 : Nat) (A2 : Nat) (A3 : Nat) (A4 : Nat) (A5 : Nat) (A6 : Nat) (A7 : Nat) (Z0 : n0 ≤ h0.size) (hF7 : FL F 7 "dfi" "[I" (.ref r0)) (hF8 : FL F 8 "vertexAt" "[I" (.ref r1)) (hF9 : FL F 9 "parent" "[I" (.ref r2)) (hF10 : FL F 10 "treeEnd" "[I" (.ref r3)) (hF11 : FL F 11 "leastAncestor" "[I" (.ref r4)) (hF12 : FL F 12 "leastAncestorEdge" "[I" (.ref r5)) (hF13 : FL F 13 "lowpoint" "[I" (.ref r6)) (hF14 : FL F 14 "lowChild" "[I" (.ref r7)) (hF5 : FL F 5 "representative" "[I" (.ref rp)) (hF6 : FL F 6 "hasCopies" "Z" (.int (E hc))) (hF3 : FL F 3 "ends" "Lcom/example/ookayama/ookayama/EdgeEnds;" (.ref a2)) (hF4 : FL F 4 "n" "I" (.int (E nn))) (hF33 : FL F 33 "backStart" "[I" (.null)) (hF34 : FL F 34 "backEnd" "[I" (.null)) (hF35 : FL F 35 "backLower" "[I" (.null)) (hG0 : FL G 0 "vertexAt" "[I" (.ref aV)) (hG1 : FL G 1 "first" "[I" (.ref aF)) (hG2 : FL G 2 "endsAt" "[I" (.ref aE)) (hG3 : FL G 3 "neighbourAt" "[I" (.ref aN)) (d0 : HS Z a0 n0 h0 [a1, a2, aV, aF, aE, aN, rp, r0, r1, r2, r3, r4, r5, r6, r7] h0 [ob a1 cA F, ob a2 cE G, ia aV 70 V1, ia aF nf V2, ia aE 70 V3, ia aN 70 V4, ia rp 67 V5, ia r0 nn A0, ia r1 nn A1, ia r2 nn A2, ia r3 nn A3, ia r4 nn A4, ia r5 nn A5, ia r6 nn A6, ia r7 nn A7]) (Kf : Nat → Nat → Nat → Nat → Nat → Nat → Nat → Nat → Option Rt) (r : Rt) (hf : fSe nn nf hc V1 V2 V3 V4 V5 A0 A1 A2 A3 A4 A5 A6 A7 Kf = some r) :
    WCon l Z n0 h0 (⟨"com/example/ookayama/ookayama/EdgeAddition", "search", "()V"⟩ : MethodName) prog_27_method_5_code 17 none [] R_Se #[(.ref a1)] (QSe Z a0 n0 h0 a1 a2 aV aF aE aN rp r0 r1 r2 r3 r4 r5 r6 r7 F G nn nf hc V1 V2 V3 V4 V5 A0 A1 A2 A3 A4 A5 A6 A7 Kf r) := by
  refine WCon.of (by first | exact plainFor_of_name (by decide +kernel) | decide +kernel) Z0 ?_
  intro p e s m below meth c T hx hZ hby hml hown hnm hret S
  refine WGo.cast (ef_Se m a1) ?_
  rw [fSe] at hf
  show WGo _ _ _ _ _ _ _ _ T (mkF m 0 #[.val (.ref a1), .unset, .unset, .unset, .unset, .unset, .unset, .unset, .unset, .unset, .unset, .unset, .unset, .unset, .unset, .unset, .unset] [])
  refine WGo.st (fun _ q => XS.aloadN S.here hx rfl (hb hby e13_0) rfl rfl q) ?_
  refine w_agf S d0 (i := 0) (fi := 7) hown (hwi hw 83 rfl) rfl hF7 rfl rfl (hb hby e13_1) ?_
  intro T101 S102
  show WGo _ _ _ _ _ _ _ _ T101 (mkF m 4 #[.val (.ref a1), .unset, .unset, .unset, .unset, .unset, .unset, .unset, .unset, .unset, .unset, .unset, .unset, .unset, .unset, .unset, .unset] [(.ref r0)])
  refine WGo.st (fun _ q => XS.iconst S102.here hx rfl (hb hby e13_4) q) ?_
  refine w_static S102 (y := (⟨"java/util/Arrays", "fill", "([II)V"⟩ : MethodName)) hown (hwi hw 56 rfl) (hwi hw 57 rfl) (hwi hw 58 rfl) (hwi hw 59 rfl) (by decide) (rm_Fi l Z a0 hw n0 h0 r0 nn A0 63 S102.ge  (HS.pw d0 [7] (by decide) rfl rfl) _ _ hf) (W := 0) (by decide) (by decide) (by decide) (by decide) rfl (by rw [hml]; rfl) (argsL := [(.ref r0), (.int (E 63))]) (rest := []) (ps := [(.array .int), .int]) (rt := none) (by decide) rfl rfl rfl (by show 2 * 0 + _ ≤ _; exact Nat.le_of_eq rfl) (hb hby e13_5) ?_
  intro T103 h105 w106 S104 q107
  obtain ⟨y110, rfl, d108, hf⟩ := q107
  have d109 : HS Z a0 n0 h0 [a1, a2, aV, aF, aE, aN, rp, r0, r1, r2, r3, r4, r5, r6, r7] h105 [ob a1 cA F, ob a2 cE G, ia aV 70 V1, ia aF nf V2, ia aE 70 V3, ia aN 70 V4, ia rp 67 V5, ia r0 nn y110, ia r1 nn A1, ia r2 nn A2, ia r3 nn A3, ia r4 nn A4, ia r5 nn A5, ia r6 nn A6, ia r7 nn A7] := HS.call d0 [7] [ia r0 nn A0] [ia r0 nn y110] [] (by decide) rfl rfl d108
  show WGo _ _ _ _ _ _ _ _ T103 (mkF m 8 #[.val (.ref a1), .unset, .unset, .unset, .unset, .unset, .unset, .unset, .unset, .unset, .unset, .unset, .unset, .unset, .unset, .unset, .unset] [])
  refine WGo.st (fun _ q => XS.aloadN S104.here hx rfl (hb hby e13_8) rfl rfl q) ?_
  refine w_agf S104 d109 (i := 0) (fi := 4) hown (hwi hw 46 rfl) rfl hF4 rfl rfl (hb hby e13_9) ?_
  intro T111 S112
  show WGo _ _ _ _ _ _ _ _ T111 (mkF m 12 #[.val (.ref a1), .unset, .unset, .unset, .unset, .unset, .unset, .unset, .unset, .unset, .unset, .unset, .unset, .unset, .unset, .unset, .unset] [(.int (E nn))])
  refine w_anw S112 d109 (hwi hw 0 rfl) rfl rfl (hb hby e13_12) rfl (cap := 4) hf (by decide) (by decide) (by decide) ?_
  intro T114 h115 a113 S116 d117 hf
  show WGo _ _ _ _ _ _ _ _ T114 (mkF m 14 #[.val (.ref a1), .unset, .unset, .unset, .unset, .unset, .unset, .unset, .unset, .unset, .unset, .unset, .unset, .unset, .unset, .unset, .unset] [(.ref a113)])
  refine WGo.st (fun _ q => XS.astoreN S116.here hx rfl (hb hby e13_14) rfl rfl (l' := #[.val (.ref a1), .val (.ref a113), .unset, .unset, .unset, .unset, .unset, .unset, .unset, .unset, .unset, .unset, .unset, .unset, .unset, .unset, .unset]) rfl q) ?_
  show WGo _ _ _ _ _ _ _ _ T114 (mkF m 15 #[.val (.ref a1), .val (.ref a113), .unset, .unset, .unset, .unset, .unset, .unset, .unset, .unset, .unset, .unset, .unset, .unset, .unset, .unset, .unset] [])
  refine WGo.st (fun _ q => XS.aloadN S116.here hx rfl (hb hby e13_15) rfl rfl q) ?_
  refine w_agf S116 d117 (i := 0) (fi := 4) hown (hwi hw 46 rfl) rfl hF4 rfl rfl (hb hby e13_16) ?_
  intro T118 S119
  show WGo _ _ _ _ _ _ _ _ T118 (mkF m 19 #[.val (.ref a1), .val (.ref a113), .unset, .unset, .unset, .unset, .unset, .unset, .unset, .unset, .unset, .unset, .unset, .unset, .unset, .unset, .unset] [(.int (E nn))])
  refine w_anw S119 d117 (hwi hw 0 rfl) rfl rfl (hb hby e13_19) rfl (cap := 4) hf (by decide) (by decide) (by decide) ?_
  intro T121 h122 a120 S123 d124 hf
  show WGo _ _ _ _ _ _ _ _ T121 (mkF m 21 #[.val (.ref a1), .val (.ref a113), .unset, .unset, .unset, .unset, .unset, .unset, .unset, .unset, .unset, .unset, .unset, .unset, .unset, .unset, .unset] [(.ref a120)])
  refine WGo.st (fun _ q => XS.astoreN S123.here hx rfl (hb hby e13_21) rfl rfl (l' := #[.val (.ref a1), .val (.ref a113), .val (.ref a120), .unset, .unset, .unset, .unset, .unset, .unset, .unset, .unset, .unset, .unset, .unset, .unset, .unset, .unset]) rfl q) ?_
  show WGo _ _ _ _ _ _ _ _ T121 (mkF m 22 #[.val (.ref a1), .val (.ref a113), .val (.ref a120), .unset, .unset, .unset, .unset, .unset, .unset, .unset, .unset, .unset, .unset, .unset, .unset, .unset, .unset] [])
  refine WGo.st (fun _ q => XS.aloadN S123.here hx rfl (hb hby e13_22) rfl rfl q) ?_
  refine w_agf S123 d124 (i := 0) (fi := 4) hown (hwi hw 46 rfl) rfl hF4 rfl rfl (hb hby e13_23) ?_
  intro T125 S126
  show WGo _ _ _ _ _ _ _ _ T125 (mkF m 26 #[.val (.ref a1), .val (.ref a113), .val (.ref a120), .unset, .unset, .unset, .unset, .unset, .unset, .unset, .unset, .unset, .unset, .unset, .unset, .unset, .unset] [(.int (E nn))])
  refine w_anw S126 d124 (hwi hw 0 rfl) rfl rfl (hb hby e13_26) rfl (cap := 4) hf (by decide) (by decide) (by decide) ?_
  intro T128 h129 a127 S130 d131 hf
  show WGo _ _ _ _ _ _ _ _ T128 (mkF m 28 #[.val (.ref a1), .val (.ref a113), .val (.ref a120), .unset, .unset, .unset, .unset, .unset, .unset, .unset, .unset, .unset, .unset, .unset, .unset, .unset, .unset] [(.ref a127)])
  refine WGo.st (fun _ q => XS.astoreN S130.here hx rfl (hb hby e13_28) rfl rfl (l' := #[.val (.ref a1), .val (.ref a113), .val (.ref a120), .val (.ref a127), .unset, .unset, .unset, .unset, .unset, .unset, .unset, .unset, .unset, .unset, .unset, .unset, .unset]) rfl q) ?_
  show WGo _ _ _ _ _ _ _ _ T128 (mkF m 29 #[.val (.ref a1), .val (.ref a113), .val (.ref a120), .val (.ref a127), .unset, .unset, .unset, .unset, .unset, .unset, .unset, .unset, .unset, .unset, .unset, .unset, .unset] [])
  refine WGo.st (fun _ q => XS.bipush S130.here hx rfl (hb hby e13_29) q) ?_
  refine WGo.st (fun _ q => XS.aloadN S130.here hx rfl (hb hby e13_31) rfl rfl q) ?_
  refine w_agf S130 d131 (i := 0) (fi := 3) hown (hwi hw 39 rfl) rfl hF3 rfl rfl (hb hby e13_32) ?_
  intro T132 S133
  show WGo _ _ _ _ _ _ _ _ T132 (mkF m 35 #[.val (.ref a1), .val (.ref a113), .val (.ref a120), .val (.ref a127), .unset, .unset, .unset, .unset, .unset, .unset, .unset, .unset, .unset, .unset, .unset, .unset, .unset] [(.ref a2), (.int (E 80))])
  refine w_virtual S133 (y := (⟨"com/example/ookayama/ookayama/EdgeEnds", "edgeCount", "()I"⟩ : MethodName)) hown (hwi hw 48 rfl) (hwi hw 49 rfl) (hwi hw 51 rfl) (hwi hw 50 rfl) (hwi hw 14 rfl) (hwi hw 52 rfl) (by decide) (HS.obj d131 (i := 1) rfl) (rm_Ec l Z a0 hw n0 h129 a2 aV (G) V1 S133.ge (hG0) (HS.pw d131 [1, 2] (by decide) rfl rfl) _ _ hf) (W := 1) (by decide) (by decide) (by decide) (by decide) rfl (by rw [hml]; rfl) (argsL := []) (rest := [(.int (E 80))]) (ps := []) (rt := (some .int)) (by decide) rfl rfl rfl (by show 2 * 0 + _ ≤ _; exact Nat.le_of_eq rfl) (hb hby e13_35) ?_
  intro T134 h136 w137 S135 q138
  obtain ⟨rfl, d139, hf⟩ := q138
  have d140 : HS Z a0 n0 h0 [a1, a2, aV, aF, aE, aN, rp, r0, r1, r2, r3, r4, r5, r6, r7] h136 [ob a1 cA F, ob a2 cE G, ia aV 70 V1, ia aF nf V2, ia aE 70 V3, ia aN 70 V4, ia rp 67 V5, ia r0 nn y110, ia r1 nn A1, ia r2 nn A2, ia r3 nn A3, ia r4 nn A4, ia r5 nn A5, ia r6 nn A6, ia r7 nn A7, ia a113 nn AZ, ia a120 nn AZ, ia a127 nn AZ] := HS.call d131 [1, 2] [ob a2 cE G, ia aV 70 V1] [ob a2 cE G, ia aV 70 V1] [] (by decide) rfl rfl d139
  show WGo _ _ _ _ _ _ _ _ T134 (mkF m 38 #[.val (.ref a1), .val (.ref a113), .val (.ref a120), .val (.ref a127), .unset, .unset, .unset, .unset, .unset, .unset, .unset, .unset, .unset, .unset, .unset, .unset, .unset] [(.int (E 67)), (.int (E 80))])
  refine WGo.st (fun _ q => XS.aloadN S135.here hx rfl (hb hby e13_38) rfl rfl q) ?_
  refine w_agf S135 d140 (i := 0) (fi := 4) hown (hwi hw 46 rfl) rfl hF4 rfl rfl (hb hby e13_39) ?_
  intro T141 S142
  show WGo _ _ _ _ _ _ _ _ T141 (mkF m 42 #[.val (.ref a1), .val (.ref a113), .val (.ref a120), .val (.ref a127), .unset, .unset, .unset, .unset, .unset, .unset, .unset, .unset, .unset, .unset, .unset, .unset, .unset] [(.int (E nn)), (.int (E 67)), (.int (E 80))])
  refine w_subN S142 rfl (hb hby e13_42) rfl hf ?_
  intro z143 hf
  show WGo _ _ _ _ _ _ _ _ T141 (mkF m 43 #[.val (.ref a1), .val (.ref a113), .val (.ref a120), .val (.ref a127), .unset, .unset, .unset, .unset, .unset, .unset, .unset, .unset, .unset, .unset, .unset, .unset, .unset] [(.int (E z143)), (.int (E 80))])
  refine WGo.st (fun _ q => XS.iconst S142.here hx rfl (hb hby e13_43) q) ?_
  refine w_addN S142 rfl (hb hby e13_44) rfl hf ?_
  intro z144 hf
  show WGo _ _ _ _ _ _ _ _ T141 (mkF m 45 #[.val (.ref a1), .val (.ref a113), .val (.ref a120), .val (.ref a127), .unset, .unset, .unset, .unset, .unset, .unset, .unset, .unset, .unset, .unset, .unset, .unset, .unset] [(.int (E z144)), (.int (E 80))])
  refine w_static S142 (y := (⟨"java/lang/Math", "max", "(II)I"⟩ : MethodName)) hown (hwi hw 140 rfl) (hwi hw 141 rfl) (hwi hw 7 rfl) (hwi hw 142 rfl) (by decide) (rm_Mx l Z a0 hw n0 h136 80 z144 S142.ge  (HS.pw d140 [] (by decide) rfl rfl) _ _ hf) (W := 0) (by decide) (by decide) (by decide) (by decide) rfl (by rw [hml]; rfl) (argsL := [(.int (E 80)), (.int (E z144))]) (rest := []) (ps := [.int, .int]) (rt := (some .int)) (by decide) rfl rfl rfl (by show 2 * 0 + _ ≤ _; exact Nat.le_of_eq rfl) (hb hby e13_45) ?_
  intro T145 h147 w148 S146 q149
  obtain ⟨y152, rfl, d150, hf⟩ := q149
  have d151 : HS Z a0 n0 h0 [a1, a2, aV, aF, aE, aN, rp, r0, r1, r2, r3, r4, r5, r6, r7] h147 [ob a1 cA F, ob a2 cE G, ia aV 70 V1, ia aF nf V2, ia aE 70 V3, ia aN 70 V4, ia rp 67 V5, ia r0 nn y110, ia r1 nn A1, ia r2 nn A2, ia r3 nn A3, ia r4 nn A4, ia r5 nn A5, ia r6 nn A6, ia r7 nn A7, ia a113 nn AZ, ia a120 nn AZ, ia a127 nn AZ] := HS.call d140 [] [] [] [] (by decide) rfl rfl d150
  show WGo _ _ _ _ _ _ _ _ T145 (mkF m 48 #[.val (.ref a1), .val (.ref a113), .val (.ref a120), .val (.ref a127), .unset, .unset, .unset, .unset, .unset, .unset, .unset, .unset, .unset, .unset, .unset, .unset, .unset] [(.int (E y152))])
  refine w_anw S146 d151 (hwi hw 0 rfl) rfl rfl (hb hby e13_48) rfl (cap := 16) hf (by decide) (by decide) (by decide) ?_
  intro T154 h155 a153 S156 d157 hf
  show WGo _ _ _ _ _ _ _ _ T154 (mkF m 50 #[.val (.ref a1), .val (.ref a113), .val (.ref a120), .val (.ref a127), .unset, .unset, .unset, .unset, .unset, .unset, .unset, .unset, .unset, .unset, .unset, .unset, .unset] [(.ref a153)])
  refine WGo.st (fun _ q => XS.astore S156.here hx rfl (hb hby e13_50) rfl rfl (l' := #[.val (.ref a1), .val (.ref a113), .val (.ref a120), .val (.ref a127), .val (.ref a153), .unset, .unset, .unset, .unset, .unset, .unset, .unset, .unset, .unset, .unset, .unset, .unset]) rfl q) ?_
  show WGo _ _ _ _ _ _ _ _ T154 (mkF m 52 #[.val (.ref a1), .val (.ref a113), .val (.ref a120), .val (.ref a127), .val (.ref a153), .unset, .unset, .unset, .unset, .unset, .unset, .unset, .unset, .unset, .unset, .unset, .unset] [])
  refine WGo.st (fun _ q => XS.aload S156.here hx rfl (hb hby e13_52) rfl rfl q) ?_
  refine w_aln S156 d157 (i := 18) rfl rfl (hb hby e13_54) rfl hf ?_
  intro hf
  show WGo _ _ _ _ _ _ _ _ T154 (mkF m 55 #[.val (.ref a1), .val (.ref a113), .val (.ref a120), .val (.ref a127), .val (.ref a153), .unset, .unset, .unset, .unset, .unset, .unset, .unset, .unset, .unset, .unset, .unset, .unset] [(.int (E y152))])
  refine w_anw S156 d157 (hwi hw 0 rfl) rfl rfl (hb hby e13_55) rfl (cap := 16) hf (by decide) (by decide) (by decide) ?_
  intro T159 h160 a158 S161 d162 hf
  show WGo _ _ _ _ _ _ _ _ T159 (mkF m 57 #[.val (.ref a1), .val (.ref a113), .val (.ref a120), .val (.ref a127), .val (.ref a153), .unset, .unset, .unset, .unset, .unset, .unset, .unset, .unset, .unset, .unset, .unset, .unset] [(.ref a158)])
  refine WGo.st (fun _ q => XS.astore S161.here hx rfl (hb hby e13_57) rfl rfl (l' := #[.val (.ref a1), .val (.ref a113), .val (.ref a120), .val (.ref a127), .val (.ref a153), .val (.ref a158), .unset, .unset, .unset, .unset, .unset, .unset, .unset, .unset, .unset, .unset, .unset]) rfl q) ?_
  show WGo _ _ _ _ _ _ _ _ T159 (mkF m 59 #[.val (.ref a1), .val (.ref a113), .val (.ref a120), .val (.ref a127), .val (.ref a153), .val (.ref a158), .unset, .unset, .unset, .unset, .unset, .unset, .unset, .unset, .unset, .unset, .unset] [])
  refine WGo.st (fun _ q => XS.aload S161.here hx rfl (hb hby e13_59) rfl rfl q) ?_
  refine w_aln S161 d162 (i := 18) rfl rfl (hb hby e13_61) rfl hf ?_
  intro hf
  show WGo _ _ _ _ _ _ _ _ T159 (mkF m 62 #[.val (.ref a1), .val (.ref a113), .val (.ref a120), .val (.ref a127), .val (.ref a153), .val (.ref a158), .unset, .unset, .unset, .unset, .unset, .unset, .unset, .unset, .unset, .unset, .unset] [(.int (E y152))])
  refine w_anw S161 d162 (hwi hw 0 rfl) rfl rfl (hb hby e13_62) rfl (cap := 16) hf (by decide) (by decide) (by decide) ?_
  intro T164 h165 a163 S166 d167 hf
  show WGo _ _ _ _ _ _ _ _ T164 (mkF m 64 #[.val (.ref a1), .val (.ref a113), .val (.ref a120), .val (.ref a127), .val (.ref a153), .val (.ref a158), .unset, .unset, .unset, .unset, .unset, .unset, .unset, .unset, .unset, .unset, .unset] [(.ref a163)])
  refine WGo.st (fun _ q => XS.astore S166.here hx rfl (hb hby e13_64) rfl rfl (l' := #[.val (.ref a1), .val (.ref a113), .val (.ref a120), .val (.ref a127), .val (.ref a153), .val (.ref a158), .val (.ref a163), .unset, .unset, .unset, .unset, .unset, .unset, .unset, .unset, .unset, .unset]) rfl q) ?_
  show WGo _ _ _ _ _ _ _ _ T164 (mkF m 66 #[.val (.ref a1), .val (.ref a113), .val (.ref a120), .val (.ref a127), .val (.ref a153), .val (.ref a158), .val (.ref a163), .unset, .unset, .unset, .unset, .unset, .unset, .unset, .unset, .unset, .unset] [])
  refine WGo.st (fun _ q => XS.iconst S166.here hx rfl (hb hby e13_66) q) ?_
  refine WGo.st (fun _ q => XS.istore S166.here hx rfl (hb hby e13_67) rfl (l' := #[.val (.ref a1), .val (.ref a113), .val (.ref a120), .val (.ref a127), .val (.ref a153), .val (.ref a158), .val (.ref a163), .val (.int (E 64)), .unset, .unset, .unset, .unset, .unset, .unset, .unset, .unset, .unset]) rfl q) ?_
  show WGo _ _ _ _ _ _ _ _ T164 (mkF m 69 #[.val (.ref a1), .val (.ref a113), .val (.ref a120), .val (.ref a127), .val (.ref a153), .val (.ref a158), .val (.ref a163), .val (.int (E 64)), .unset, .unset, .unset, .unset, .unset, .unset, .unset, .unset, .unset] [])
  refine WGo.st (fun _ q => XS.iconst S166.here hx rfl (hb hby e13_69) q) ?_
  refine WGo.st (fun _ q => XS.istore S166.here hx rfl (hb hby e13_70) rfl (l' := #[.val (.ref a1), .val (.ref a113), .val (.ref a120), .val (.ref a127), .val (.ref a153), .val (.ref a158), .val (.ref a163), .val (.int (E 64)), .val (.int (E 64)), .unset, .unset, .unset, .unset, .unset, .unset, .unset, .unset]) rfl q) ?_
  show WGo _ _ _ _ _ _ _ _ T164 (mkF m 72 #[.val (.ref a1), .val (.ref a113), .val (.ref a120), .val (.ref a127), .val (.ref a153), .val (.ref a158), .val (.ref a163), .val (.int (E 64)), .val (.int (E 64)), .unset, .unset, .unset, .unset, .unset, .unset, .unset, .unset] [])
  refine WGo.st (fun _ q => XS.iconst S166.here hx rfl (hb hby e13_72) q) ?_
  refine WGo.st (fun _ q => XS.istore S166.here hx rfl (hb hby e13_73) rfl (l' := #[.val (.ref a1), .val (.ref a113), .val (.ref a120), .val (.ref a127), .val (.ref a153), .val (.ref a158), .val (.ref a163), .val (.int (E 64)), .val (.int (E 64)), .val (.int (E 64)), .unset, .unset, .unset, .unset, .unset, .unset, .unset]) rfl q) ?_
  show WGo _ _ _ _ _ _ _ _ T164 (mkF m 75 #[.val (.ref a1), .val (.ref a113), .val (.ref a120), .val (.ref a127), .val (.ref a153), .val (.ref a158), .val (.ref a163), .val (.int (E 64)), .val (.int (E 64)), .val (.int (E 64)), .unset, .unset, .unset, .unset, .unset, .unset, .unset] [])
  obtain ⟨Kx75, eKx75⟩ : ∃ K : Nat → Nat → Nat → Nat → Nat → Nat → Nat → Nat → Nat → Nat → Nat → Nat → Nat → Nat → Nat → Nat → Nat → Option Rt, K = (fun i172 i173 i174 A175 A176 A177 A178 A179 A180 A181 A182 A183 A184 A185 A186 A187 A188 => fLb nn y152 A186 A187 A188 i172 (subN nn 65 fun z208 => (fSe_L434 nn A177 A179 (fun i213 A214 A215 => Kf A175 A176 A177 A178 A179 A180 A214 A215) z208 A181 A182))) := ⟨_, rfl⟩
  rw [← eKx75] at hf
  have hK75 : ∀ (T168 : State) (h169 : Heap) (u189 : Slot) (u190 : Slot) (u191 : Slot) (u192 : Slot) (u193 : Slot) (u194 : Slot) (u195 : Slot) (i172 : Nat) (i173 : Nat) (i174 : Nat) (A175 : Nat) (A176 : Nat) (A177 : Nat) (A178 : Nat) (A179 : Nat) (A180 : Nat) (A181 : Nat) (A182 : Nat) (A183 : Nat) (A184 : Nat) (A185 : Nat) (A186 : Nat) (A187 : Nat) (A188 : Nat), WSt p l e R_Se s m #[(.ref a1)] below meth c Z n0 T168 h169 (6) (60) → One u189 → One u190 → One u191 → One u192 → One u193 → One u194 → One u195 → HS Z a0 n0 h0 [a1, a2, aV, aF, aE, aN, rp, r0, r1, r2, r3, r4, r5, r6, r7] h169 [ob a1 cA F, ob a2 cE G, ia aV 70 V1, ia aF nf V2, ia aE 70 V3, ia aN 70 V4, ia rp 67 V5, ia r0 nn A175, ia r1 nn A176, ia r2 nn A177, ia r3 nn A178, ia r4 nn A179, ia r5 nn A180, ia r6 nn A181, ia r7 nn A182, ia a113 nn A183, ia a120 nn A184, ia a127 nn A185, ia a153 y152 A186, ia a158 y152 A187, ia a163 y152 A188] → Kx75 i172 i173 i174 A175 A176 A177 A178 A179 A180 A181 A182 A183 A184 A185 A186 A187 A188 = some r → WGo p e below s n0 (QSe Z a0 n0 h0 a1 a2 aV aF aE aN rp r0 r1 r2 r3 r4 r5 r6 r7 F G nn nf hc V1 V2 V3 V4 V5 A0 A1 A2 A3 A4 A5 A6 A7 Kf r) R_Se.cells R_Se.slots T168 (mkF m 414 #[.val (.ref a1), .val (.ref a113), .val (.ref a120), .val (.ref a127), .val (.ref a153), .val (.ref a158), .val (.ref a163), .val (.int (E i172)), .val (.int (E i173)), .val (.int (E i174)), u189, u190, u191, u192, u193, u194, u195] []) := by
    intro T168 h169 u189 u190 u191 u192 u193 u194 u195 i172 i173 i174 A175 A176 A177 A178 A179 A180 A181 A182 A183 A184 A185 A186 A187 A188 S170 hu189 hu190 hu191 hu192 hu193 hu194 hu195 d171 hf
    rw [eKx75] at hf
    show WGo _ _ _ _ _ _ _ _ T168 (mkF m 414 #[.val (.ref a1), .val (.ref a113), .val (.ref a120), .val (.ref a127), .val (.ref a153), .val (.ref a158), .val (.ref a163), .val (.int (E i172)), .val (.int (E i173)), .val (.int (E i174)), u189, u190, u191, u192, u193, u194, u195] [])
    refine WGo.st (fun _ q => XS.aloadN S170.here hx rfl (hb hby e13_414) rfl rfl q) ?_
    refine WGo.st (fun _ q => XS.aload S170.here hx rfl (hb hby e13_415) rfl rfl q) ?_
    refine WGo.st (fun _ q => XS.aload S170.here hx rfl (hb hby e13_417) rfl rfl q) ?_
    refine WGo.st (fun _ q => XS.aload S170.here hx rfl (hb hby e13_419) rfl rfl q) ?_
    refine WGo.st (fun _ q => XS.iload S170.here hx rfl (hb hby e13_421) rfl q) ?_
    show WGo _ _ _ _ _ _ _ _ T168 (mkF m 423 #[.val (.ref a1), .val (.ref a113), .val (.ref a120), .val (.ref a127), .val (.ref a153), .val (.ref a158), .val (.ref a163), .val (.int (E i172)), .val (.int (E i173)), .val (.int (E i174)), u189, u190, u191, u192, u193, u194, u195] [(.int (E i172)), (.ref a163), (.ref a158), (.ref a153), (.ref a1)])
    refine w_private S170 (y := (⟨"com/example/ookayama/ookayama/EdgeAddition", "listBackEdges", "([I[I[II)V"⟩ : MethodName)) (z := (⟨"com/example/ookayama/ookayama/EdgeAddition", "searchRoots", "()[I"⟩ : MethodName)) hown (hwi hw 151 rfl) (hwi hw 152 rfl) (hwi hw 153 rfl) (hwi hw 11 rfl) (hwi hw 154 rfl) (hwi hw 176 rfl) rfl (by decide) (HS.obj d171 (i := 0) rfl) (rm_Lb l Z a0 hw n0 h169 a1 a153 a158 a163 (F) nn y152 A186 A187 A188 i172 S170.ge (hF4) (hF33) (hF34) (hF35) (HS.pw d171 [0, 18, 19, 20] (by decide) rfl rfl) _ _ hf) (W := 0) (by decide) (by decide) (by decide) (by decide) rfl (by rw [hml]; rfl) (argsL := [(.ref a153), (.ref a158), (.ref a163), (.int (E i172))]) (rest := []) (ps := [(.array .int), (.array .int), (.array .int), .int]) (rt := none) (by decide) rfl rfl rfl (by show 2 * 0 + _ ≤ _; exact Nat.le_of_eq rfl) (hb hby e13_423) ?_
    intro T196 h198 w199 S197 q200
    obtain ⟨a203, a204, a205, rfl, d201, hf⟩ := q200
    have d202 : HS Z a0 n0 h0 [a1, a2, aV, aF, aE, aN, rp, r0, r1, r2, r3, r4, r5, r6, r7] h198 [ob a1 cA (((F.set 33 ("backStart", "[I", (.ref a203))).set 34 ("backEnd", "[I", (.ref a204))).set 35 ("backLower", "[I", (.ref a205))), ob a2 cE G, ia aV 70 V1, ia aF nf V2, ia aE 70 V3, ia aN 70 V4, ia rp 67 V5, ia r0 nn A175, ia r1 nn A176, ia r2 nn A177, ia r3 nn A178, ia r4 nn A179, ia r5 nn A180, ia r6 nn A181, ia r7 nn A182, ia a113 nn A183, ia a120 nn A184, ia a127 nn A185, ia a153 y152 A186, ia a158 y152 A187, ia a163 y152 A188] := HS.call d171 [0, 18, 19, 20] [ob a1 cA F, ia a153 y152 A186, ia a158 y152 A187, ia a163 y152 A188] [ob a1 cA (((F.set 33 ("backStart", "[I", (.ref a203))).set 34 ("backEnd", "[I", (.ref a204))).set 35 ("backLower", "[I", (.ref a205))), ia a153 y152 A186, ia a158 y152 A187, ia a163 y152 A188] [] (by decide) rfl rfl d201
    show WGo _ _ _ _ _ _ _ _ T196 (mkF m 426 #[.val (.ref a1), .val (.ref a113), .val (.ref a120), .val (.ref a127), .val (.ref a153), .val (.ref a158), .val (.ref a163), .val (.int (E i172)), .val (.int (E i173)), .val (.int (E i174)), u189, u190, u191, u192, u193, u194, u195] [])
    refine WGo.st (fun _ q => XS.aloadN S197.here hx rfl (hb hby e13_426) rfl rfl q) ?_
    refine w_agf S197 d202 (i := 0) (fi := 4) hown (hwi hw 46 rfl) rfl (fn rfl (fn rfl (fn rfl hF4))) rfl rfl (hb hby e13_427) ?_
    intro T206 S207
    show WGo _ _ _ _ _ _ _ _ T206 (mkF m 430 #[.val (.ref a1), .val (.ref a113), .val (.ref a120), .val (.ref a127), .val (.ref a153), .val (.ref a158), .val (.ref a163), .val (.int (E i172)), .val (.int (E i173)), .val (.int (E i174)), u189, u190, u191, u192, u193, u194, u195] [(.int (E nn))])
    refine WGo.st (fun _ q => XS.iconst S207.here hx rfl (hb hby e13_430) q) ?_
    refine w_subN S207 rfl (hb hby e13_431) rfl hf ?_
    intro z208 hf
    show WGo _ _ _ _ _ _ _ _ T206 (mkF m 432 #[.val (.ref a1), .val (.ref a113), .val (.ref a120), .val (.ref a127), .val (.ref a153), .val (.ref a158), .val (.ref a163), .val (.int (E i172)), .val (.int (E i173)), .val (.int (E i174)), u189, u190, u191, u192, u193, u194, u195] [(.int (E z208))])
    refine WGo.st (fun _ q => XS.istore S207.here hx rfl (hb hby e13_432) rfl (l' := #[.val (.ref a1), .val (.ref a113), .val (.ref a120), .val (.ref a127), .val (.ref a153), .val (.ref a158), .val (.ref a163), .val (.int (E i172)), .val (.int (E i173)), .val (.int (E z208)), u189, u190, u191, u192, u193, u194, u195]) rfl q) ?_
    show WGo _ _ _ _ _ _ _ _ T206 (mkF m 434 #[.val (.ref a1), .val (.ref a113), .val (.ref a120), .val (.ref a127), .val (.ref a153), .val (.ref a158), .val (.ref a163), .val (.int (E i172)), .val (.int (E i173)), .val (.int (E z208)), u189, u190, u191, u192, u193, u194, u195] [])
    obtain ⟨Kx434, eKx434⟩ : ∃ K : Nat → Nat → Nat → Option Rt, K = (fun i213 A214 A215 => Kf A175 A176 A177 A178 A179 A180 A214 A215) := ⟨_, rfl⟩
    rw [← eKx434] at hf
    have hK434 : ∀ (T209 : State) (h210 : Heap) (i213 : Nat) (A214 : Nat) (A215 : Nat), WSt p l e R_Se s m #[(.ref a1)] below meth c Z n0 T209 h210 (10) (77) → HS Z a0 n0 h0 [a1, a2, aV, aF, aE, aN, rp, r0, r1, r2, r3, r4, r5, r6, r7] h210 [ob a1 cA (((F.set 33 ("backStart", "[I", (.ref a203))).set 34 ("backEnd", "[I", (.ref a204))).set 35 ("backLower", "[I", (.ref a205))), ob a2 cE G, ia aV 70 V1, ia aF nf V2, ia aE 70 V3, ia aN 70 V4, ia rp 67 V5, ia r0 nn A175, ia r1 nn A176, ia r2 nn A177, ia r3 nn A178, ia r4 nn A179, ia r5 nn A180, ia r6 nn A214, ia r7 nn A215, ia a113 nn A183, ia a120 nn A184, ia a127 nn A185, ia a153 y152 A186, ia a158 y152 A187, ia a163 y152 A188] → Kx434 i213 A214 A215 = some r → WGo p e below s n0 (QSe Z a0 n0 h0 a1 a2 aV aF aE aN rp r0 r1 r2 r3 r4 r5 r6 r7 F G nn nf hc V1 V2 V3 V4 V5 A0 A1 A2 A3 A4 A5 A6 A7 Kf r) R_Se.cells R_Se.slots T209 (mkF m 549 #[.val (.ref a1), .val (.ref a113), .val (.ref a120), .val (.ref a127), .val (.ref a153), .val (.ref a158), .val (.ref a163), .val (.int (E i172)), .val (.int (E i173)), .val (.int (E i213)), u189, u190, u191, u192, u193, u194, u195] []) := by
      intro T209 h210  i213 A214 A215 S211  d212 hf
      rw [eKx434] at hf
      show WGo _ _ _ _ _ _ _ _ T209 (mkF m 549 #[.val (.ref a1), .val (.ref a113), .val (.ref a120), .val (.ref a127), .val (.ref a153), .val (.ref a158), .val (.ref a163), .val (.int (E i172)), .val (.int (E i173)), .val (.int (E i213)), u189, u190, u191, u192, u193, u194, u195] [])
      refine w_retV S211 hret (hb hby e13_549) (by decide) (by decide) ?_
      exact ⟨a203, a204, a205, A175, A176, A177, A178, A179, A180, A214, A215, rfl, HS.take d212 15, hf⟩
    have hL434 : ∀ (T209 : State) (h210 : Heap) (i213 : Nat) (A214 : Nat) (A215 : Nat), WSt p l e R_Se s m #[(.ref a1)] below meth c Z n0 T209 h210 (10) (77) → HS Z a0 n0 h0 [a1, a2, aV, aF, aE, aN, rp, r0, r1, r2, r3, r4, r5, r6, r7] h210 [ob a1 cA (((F.set 33 ("backStart", "[I", (.ref a203))).set 34 ("backEnd", "[I", (.ref a204))).set 35 ("backLower", "[I", (.ref a205))), ob a2 cE G, ia aV 70 V1, ia aF nf V2, ia aE 70 V3, ia aN 70 V4, ia rp 67 V5, ia r0 nn A175, ia r1 nn A176, ia r2 nn A177, ia r3 nn A178, ia r4 nn A179, ia r5 nn A180, ia r6 nn A214, ia r7 nn A215, ia a113 nn A183, ia a120 nn A184, ia a127 nn A185, ia a153 y152 A186, ia a158 y152 A187, ia a163 y152 A188] → fSe_L434 nn A177 A179 Kx434 i213 A214 A215 = some r → WGo p e below s n0 (QSe Z a0 n0 h0 a1 a2 aV aF aE aN rp r0 r1 r2 r3 r4 r5 r6 r7 F G nn nf hc V1 V2 V3 V4 V5 A0 A1 A2 A3 A4 A5 A6 A7 Kf r) R_Se.cells R_Se.slots T209 (mkF m 434 #[.val (.ref a1), .val (.ref a113), .val (.ref a120), .val (.ref a127), .val (.ref a153), .val (.ref a158), .val (.ref a163), .val (.int (E i172)), .val (.int (E i173)), .val (.int (E i213)), u189, u190, u191, u192, u193, u194, u195] []) := by
      refine it8_ind (F := fSe_L434b nn A177 A179 Kx434) (P := fun (gv434 : Nat → Nat → Nat → Option Rt) => ∀ (T209 : State) (h210 : Heap) (i213 : Nat) (A214 : Nat) (A215 : Nat), WSt p l e R_Se s m #[(.ref a1)] below meth c Z n0 T209 h210 (10) (77) → HS Z a0 n0 h0 [a1, a2, aV, aF, aE, aN, rp, r0, r1, r2, r3, r4, r5, r6, r7] h210 [ob a1 cA (((F.set 33 ("backStart", "[I", (.ref a203))).set 34 ("backEnd", "[I", (.ref a204))).set 35 ("backLower", "[I", (.ref a205))), ob a2 cE G, ia aV 70 V1, ia aF nf V2, ia aE 70 V3, ia aN 70 V4, ia rp 67 V5, ia r0 nn A175, ia r1 nn A176, ia r2 nn A177, ia r3 nn A178, ia r4 nn A179, ia r5 nn A180, ia r6 nn A214, ia r7 nn A215, ia a113 nn A183, ia a120 nn A184, ia a127 nn A185, ia a153 y152 A186, ia a158 y152 A187, ia a163 y152 A188] → gv434 i213 A214 A215 = some r → WGo p e below s n0 (QSe Z a0 n0 h0 a1 a2 aV aF aE aN rp r0 r1 r2 r3 r4 r5 r6 r7 F G nn nf hc V1 V2 V3 V4 V5 A0 A1 A2 A3 A4 A5 A6 A7 Kf r) R_Se.cells R_Se.slots T209 (mkF m 434 #[.val (.ref a1), .val (.ref a113), .val (.ref a120), .val (.ref a127), .val (.ref a153), .val (.ref a158), .val (.ref a163), .val (.int (E i172)), .val (.int (E i173)), .val (.int (E i213)), u189, u190, u191, u192, u193, u194, u195] [])) ?_ ?_
      · intro T209 h210  i213 A214 A215 S211  d212 hf
        cases (show (none : Option _) = some r from hf)
      · intro gv434 ih T209 h210  i213 A214 A215 S211  d212 hf
        rw [fSe_L434b] at hf
        show WGo _ _ _ _ _ _ _ _ T209 (mkF m 434 #[.val (.ref a1), .val (.ref a113), .val (.ref a120), .val (.ref a127), .val (.ref a153), .val (.ref a158), .val (.ref a163), .val (.int (E i172)), .val (.int (E i173)), .val (.int (E i213)), u189, u190, u191, u192, u193, u194, u195] [])
        refine WGo.st (fun _ q => XS.iload S211.here hx rfl (hb hby e13_434) rfl q) ?_
        rcases ltN_some hf with ⟨c436, hf⟩ | ⟨c436, hf⟩
        · refine WGo.st (fun _ q => XS.ifYes S211.here hx rfl (pc0 := 436) (pc' := 549) rfl (hb hby e13_436) rfl ((if0E _ _).trans (tlt c436).1) (by decide) (by decide) q) ?_
          show WGo _ _ _ _ _ _ _ _ T209 (mkF m 549 #[.val (.ref a1), .val (.ref a113), .val (.ref a120), .val (.ref a127), .val (.ref a153), .val (.ref a158), .val (.ref a163), .val (.int (E i172)), .val (.int (E i173)), .val (.int (E i213)), u189, u190, u191, u192, u193, u194, u195] [])
          exact hK434 T209 h210  i213 A214 A215 S211  d212 hf
        · refine WGo.st (fun _ q => XS.ifNo S211.here hx rfl (hb hby e13_436) rfl ((if0E _ _).trans (flt c436).1) q) ?_
          show WGo _ _ _ _ _ _ _ _ T209 (mkF m 439 #[.val (.ref a1), .val (.ref a113), .val (.ref a120), .val (.ref a127), .val (.ref a153), .val (.ref a158), .val (.ref a163), .val (.int (E i172)), .val (.int (E i173)), .val (.int (E i213)), u189, u190, u191, u192, u193, u194, u195] [])
          refine WGo.st (fun _ q => XS.aloadN S211.here hx rfl (hb hby e13_439) rfl rfl q) ?_
          refine w_agf S211 d212 (i := 0) (fi := 11) hown (hwi hw 91 rfl) rfl (fn rfl (fn rfl (fn rfl hF11))) rfl rfl (hb hby e13_440) ?_
          intro T216 S217
          show WGo _ _ _ _ _ _ _ _ T216 (mkF m 443 #[.val (.ref a1), .val (.ref a113), .val (.ref a120), .val (.ref a127), .val (.ref a153), .val (.ref a158), .val (.ref a163), .val (.int (E i172)), .val (.int (E i173)), .val (.int (E i213)), u189, u190, u191, u192, u193, u194, u195] [(.ref r4)])
          refine WGo.st (fun _ q => XS.iload S217.here hx rfl (hb hby e13_443) rfl q) ?_
          refine w_ald S217 d212 (i := 11) rfl rfl (hb hby e13_445) rfl hf ?_
          intro x218 hf
          show WGo _ _ _ _ _ _ _ _ T216 (mkF m 446 #[.val (.ref a1), .val (.ref a113), .val (.ref a120), .val (.ref a127), .val (.ref a153), .val (.ref a158), .val (.ref a163), .val (.int (E i172)), .val (.int (E i173)), .val (.int (E i213)), u189, u190, u191, u192, u193, u194, u195] [(.int (E x218))])
          refine WGo.st (fun _ q => XS.aloadN S217.here hx rfl (hb hby e13_446) rfl rfl q) ?_
          refine w_agf S217 d212 (i := 0) (fi := 13) hown (hwi hw 95 rfl) rfl (fn rfl (fn rfl (fn rfl hF13))) rfl rfl (hb hby e13_447) ?_
          intro T219 S220
          show WGo _ _ _ _ _ _ _ _ T219 (mkF m 450 #[.val (.ref a1), .val (.ref a113), .val (.ref a120), .val (.ref a127), .val (.ref a153), .val (.ref a158), .val (.ref a163), .val (.int (E i172)), .val (.int (E i173)), .val (.int (E i213)), u189, u190, u191, u192, u193, u194, u195] [(.ref r6), (.int (E x218))])
          refine WGo.st (fun _ q => XS.iload S220.here hx rfl (hb hby e13_450) rfl q) ?_
          refine w_ald S220 d212 (i := 13) rfl rfl (hb hby e13_452) rfl hf ?_
          intro x221 hf
          show WGo _ _ _ _ _ _ _ _ T219 (mkF m 453 #[.val (.ref a1), .val (.ref a113), .val (.ref a120), .val (.ref a127), .val (.ref a153), .val (.ref a158), .val (.ref a163), .val (.int (E i172)), .val (.int (E i173)), .val (.int (E i213)), u189, u190, u191, u192, u193, u194, u195] [(.int (E x221)), (.int (E x218))])
          rcases ltN_some hf with ⟨c453, hf⟩ | ⟨c453, hf⟩
          · refine WGo.st (fun _ q => XS.icmpYes S220.here hx rfl (pc0 := 453) (pc' := 478) rfl (hb hby e13_453) rfl (tlt c453).2.2.1 (by decide) (by decide) q) ?_
            show WGo _ _ _ _ _ _ _ _ T219 (mkF m 478 #[.val (.ref a1), .val (.ref a113), .val (.ref a120), .val (.ref a127), .val (.ref a153), .val (.ref a158), .val (.ref a163), .val (.int (E i172)), .val (.int (E i173)), .val (.int (E i213)), u189, u190, u191, u192, u193, u194, u195] [])
            refine WGo.st (fun _ q => XS.aloadN S220.here hx rfl (hb hby e13_478) rfl rfl q) ?_
            refine w_agf S220 d212 (i := 0) (fi := 9) hown (hwi hw 87 rfl) rfl (fn rfl (fn rfl (fn rfl hF9))) rfl rfl (hb hby e13_479) ?_
            intro T222 S223
            show WGo _ _ _ _ _ _ _ _ T222 (mkF m 482 #[.val (.ref a1), .val (.ref a113), .val (.ref a120), .val (.ref a127), .val (.ref a153), .val (.ref a158), .val (.ref a163), .val (.int (E i172)), .val (.int (E i173)), .val (.int (E i213)), u189, u190, u191, u192, u193, u194, u195] [(.ref r2)])
            refine WGo.st (fun _ q => XS.iload S223.here hx rfl (hb hby e13_482) rfl q) ?_
            refine w_ald S223 d212 (i := 9) rfl rfl (hb hby e13_484) rfl hf ?_
            intro x224 hf
            show WGo _ _ _ _ _ _ _ _ T222 (mkF m 485 #[.val (.ref a1), .val (.ref a113), .val (.ref a120), .val (.ref a127), .val (.ref a153), .val (.ref a158), .val (.ref a163), .val (.int (E i172)), .val (.int (E i173)), .val (.int (E i213)), u189, u190, u191, u192, u193, u194, u195] [(.int (E x224))])
            rcases ltN_some hf with ⟨c485, hf⟩ | ⟨c485, hf⟩
            · refine WGo.st (fun _ q => XS.ifYes S223.here hx rfl (pc0 := 485) (pc' := 543) rfl (hb hby e13_485) rfl ((if0E _ _).trans (tlt c485).1) (by decide) (by decide) q) ?_
              show WGo _ _ _ _ _ _ _ _ T222 (mkF m 543 #[.val (.ref a1), .val (.ref a113), .val (.ref a120), .val (.ref a127), .val (.ref a153), .val (.ref a158), .val (.ref a163), .val (.int (E i172)), .val (.int (E i173)), .val (.int (E i213)), u189, u190, u191, u192, u193, u194, u195] [])
              refine w_incN S223 rfl (hb hby e13_543) (y := 63) (by decide) rfl (l1 := fun z0 => #[.val (.ref a1), .val (.ref a113), .val (.ref a120), .val (.ref a127), .val (.ref a153), .val (.ref a158), .val (.ref a163), .val (.int (E i172)), .val (.int (E i173)), .val (.int (E z0)), u189, u190, u191, u192, u193, u194, u195]) (fun _ => rfl) (fun _ => rfl) hf ?_
              intro z225 hf
              show WGo _ _ _ _ _ _ _ _ T222 (mkF m 546 #[.val (.ref a1), .val (.ref a113), .val (.ref a120), .val (.ref a127), .val (.ref a153), .val (.ref a158), .val (.ref a163), .val (.int (E i172)), .val (.int (E i173)), .val (.int (E z225)), u189, u190, u191, u192, u193, u194, u195] [])
              refine WGo.st (fun _ q => XS.goto S223.here hx rfl (pc0 := 546) (pc' := 434) rfl (hb hby e13_546) (by decide) (by decide) q) ?_
              show WGo _ _ _ _ _ _ _ _ T222 (mkF m 434 #[.val (.ref a1), .val (.ref a113), .val (.ref a120), .val (.ref a127), .val (.ref a153), .val (.ref a158), .val (.ref a163), .val (.int (E i172)), .val (.int (E i173)), .val (.int (E z225)), u189, u190, u191, u192, u193, u194, u195] [])
              exact ih T222 h210  z225 A214 A215 S223  d212  hf
            · refine WGo.st (fun _ q => XS.ifNo S223.here hx rfl (hb hby e13_485) rfl ((if0E _ _).trans (flt c485).1) q) ?_
              show WGo _ _ _ _ _ _ _ _ T222 (mkF m 488 #[.val (.ref a1), .val (.ref a113), .val (.ref a120), .val (.ref a127), .val (.ref a153), .val (.ref a158), .val (.ref a163), .val (.int (E i172)), .val (.int (E i173)), .val (.int (E i213)), u189, u190, u191, u192, u193, u194, u195] [])
              refine WGo.st (fun _ q => XS.aloadN S223.here hx rfl (hb hby e13_488) rfl rfl q) ?_
              refine w_agf S223 d212 (i := 0) (fi := 13) hown (hwi hw 95 rfl) rfl (fn rfl (fn rfl (fn rfl hF13))) rfl rfl (hb hby e13_489) ?_
              intro T226 S227
              show WGo _ _ _ _ _ _ _ _ T226 (mkF m 492 #[.val (.ref a1), .val (.ref a113), .val (.ref a120), .val (.ref a127), .val (.ref a153), .val (.ref a158), .val (.ref a163), .val (.int (E i172)), .val (.int (E i173)), .val (.int (E i213)), u189, u190, u191, u192, u193, u194, u195] [(.ref r6)])
              refine WGo.st (fun _ q => XS.iload S227.here hx rfl (hb hby e13_492) rfl q) ?_
              refine w_ald S227 d212 (i := 13) rfl rfl (hb hby e13_494) rfl hf ?_
              intro x228 hf
              show WGo _ _ _ _ _ _ _ _ T226 (mkF m 495 #[.val (.ref a1), .val (.ref a113), .val (.ref a120), .val (.ref a127), .val (.ref a153), .val (.ref a158), .val (.ref a163), .val (.int (E i172)), .val (.int (E i173)), .val (.int (E i213)), u189, u190, u191, u192, u193, u194, u195] [(.int (E x228))])
              refine WGo.st (fun _ q => XS.aloadN S227.here hx rfl (hb hby e13_495) rfl rfl q) ?_
              refine w_agf S227 d212 (i := 0) (fi := 13) hown (hwi hw 95 rfl) rfl (fn rfl (fn rfl (fn rfl hF13))) rfl rfl (hb hby e13_496) ?_
              intro T229 S230
              show WGo _ _ _ _ _ _ _ _ T229 (mkF m 499 #[.val (.ref a1), .val (.ref a113), .val (.ref a120), .val (.ref a127), .val (.ref a153), .val (.ref a158), .val (.ref a163), .val (.int (E i172)), .val (.int (E i173)), .val (.int (E i213)), u189, u190, u191, u192, u193, u194, u195] [(.ref r6), (.int (E x228))])
              refine WGo.st (fun _ q => XS.aloadN S230.here hx rfl (hb hby e13_499) rfl rfl q) ?_
              refine w_agf S230 d212 (i := 0) (fi := 9) hown (hwi hw 87 rfl) rfl (fn rfl (fn rfl (fn rfl hF9))) rfl rfl (hb hby e13_500) ?_
              intro T231 S232
              show WGo _ _ _ _ _ _ _ _ T231 (mkF m 503 #[.val (.ref a1), .val (.ref a113), .val (.ref a120), .val (.ref a127), .val (.ref a153), .val (.ref a158), .val (.ref a163), .val (.int (E i172)), .val (.int (E i173)), .val (.int (E i213)), u189, u190, u191, u192, u193, u194, u195] [(.ref r2), (.ref r6), (.int (E x228))])
              refine WGo.st (fun _ q => XS.iload S232.here hx rfl (hb hby e13_503) rfl q) ?_
              refine w_ald S232 d212 (i := 9) rfl rfl (hb hby e13_505) rfl hf ?_
              intro x233 hf
              show WGo _ _ _ _ _ _ _ _ T231 (mkF m 506 #[.val (.ref a1), .val (.ref a113), .val (.ref a120), .val (.ref a127), .val (.ref a153), .val (.ref a158), .val (.ref a163), .val (.int (E i172)), .val (.int (E i173)), .val (.int (E i213)), u189, u190, u191, u192, u193, u194, u195] [(.int (E x233)), (.ref r6), (.int (E x228))])
              refine w_ald S232 d212 (i := 13) rfl rfl (hb hby e13_506) rfl hf ?_
              intro x234 hf
              show WGo _ _ _ _ _ _ _ _ T231 (mkF m 507 #[.val (.ref a1), .val (.ref a113), .val (.ref a120), .val (.ref a127), .val (.ref a153), .val (.ref a158), .val (.ref a163), .val (.int (E i172)), .val (.int (E i173)), .val (.int (E i213)), u189, u190, u191, u192, u193, u194, u195] [(.int (E x234)), (.int (E x228))])
              rcases ltN_some hf with ⟨c507, hf⟩ | ⟨c507, hf⟩
              · refine WGo.st (fun _ q => XS.icmpNo S232.here hx rfl (hb hby e13_507) rfl (tlt c507).2.1 q) ?_
                show WGo _ _ _ _ _ _ _ _ T231 (mkF m 510 #[.val (.ref a1), .val (.ref a113), .val (.ref a120), .val (.ref a127), .val (.ref a153), .val (.ref a158), .val (.ref a163), .val (.int (E i172)), .val (.int (E i173)), .val (.int (E i213)), u189, u190, u191, u192, u193, u194, u195] [])
                refine WGo.st (fun _ q => XS.aloadN S232.here hx rfl (hb hby e13_510) rfl rfl q) ?_
                refine w_agf S232 d212 (i := 0) (fi := 13) hown (hwi hw 95 rfl) rfl (fn rfl (fn rfl (fn rfl hF13))) rfl rfl (hb hby e13_511) ?_
                intro T235 S236
                show WGo _ _ _ _ _ _ _ _ T235 (mkF m 514 #[.val (.ref a1), .val (.ref a113), .val (.ref a120), .val (.ref a127), .val (.ref a153), .val (.ref a158), .val (.ref a163), .val (.int (E i172)), .val (.int (E i173)), .val (.int (E i213)), u189, u190, u191, u192, u193, u194, u195] [(.ref r6)])
                refine WGo.st (fun _ q => XS.aloadN S236.here hx rfl (hb hby e13_514) rfl rfl q) ?_
                refine w_agf S236 d212 (i := 0) (fi := 9) hown (hwi hw 87 rfl) rfl (fn rfl (fn rfl (fn rfl hF9))) rfl rfl (hb hby e13_515) ?_
                intro T237 S238
                show WGo _ _ _ _ _ _ _ _ T237 (mkF m 518 #[.val (.ref a1), .val (.ref a113), .val (.ref a120), .val (.ref a127), .val (.ref a153), .val (.ref a158), .val (.ref a163), .val (.int (E i172)), .val (.int (E i173)), .val (.int (E i213)), u189, u190, u191, u192, u193, u194, u195] [(.ref r2), (.ref r6)])
                refine WGo.st (fun _ q => XS.iload S238.here hx rfl (hb hby e13_518) rfl q) ?_
                refine w_ald S238 d212 (i := 9) rfl rfl (hb hby e13_520) rfl hf ?_
                intro x239 hf
                show WGo _ _ _ _ _ _ _ _ T237 (mkF m 521 #[.val (.ref a1), .val (.ref a113), .val (.ref a120), .val (.ref a127), .val (.ref a153), .val (.ref a158), .val (.ref a163), .val (.int (E i172)), .val (.int (E i173)), .val (.int (E i213)), u189, u190, u191, u192, u193, u194, u195] [(.int (E x239)), (.ref r6)])
                refine WGo.st (fun _ q => XS.aloadN S238.here hx rfl (hb hby e13_521) rfl rfl q) ?_
                refine w_agf S238 d212 (i := 0) (fi := 13) hown (hwi hw 95 rfl) rfl (fn rfl (fn rfl (fn rfl hF13))) rfl rfl (hb hby e13_522) ?_
                intro T240 S241
                show WGo _ _ _ _ _ _ _ _ T240 (mkF m 525 #[.val (.ref a1), .val (.ref a113), .val (.ref a120), .val (.ref a127), .val (.ref a153), .val (.ref a158), .val (.ref a163), .val (.int (E i172)), .val (.int (E i173)), .val (.int (E i213)), u189, u190, u191, u192, u193, u194, u195] [(.ref r6), (.int (E x239)), (.ref r6)])
                refine WGo.st (fun _ q => XS.iload S241.here hx rfl (hb hby e13_525) rfl q) ?_
                refine w_ald S241 d212 (i := 13) rfl rfl (hb hby e13_527) rfl hf ?_
                intro x242 hf
                show WGo _ _ _ _ _ _ _ _ T240 (mkF m 528 #[.val (.ref a1), .val (.ref a113), .val (.ref a120), .val (.ref a127), .val (.ref a153), .val (.ref a158), .val (.ref a163), .val (.int (E i172)), .val (.int (E i173)), .val (.int (E i213)), u189, u190, u191, u192, u193, u194, u195] [(.int (E x242)), (.int (E x239)), (.ref r6)])
                refine w_ast S241 d212 (i := 13) rfl rfl (hb hby e13_528) rfl hf ?_
                intro T244 h245 A243 S246 d247 hf
                show WGo _ _ _ _ _ _ _ _ T244 (mkF m 529 #[.val (.ref a1), .val (.ref a113), .val (.ref a120), .val (.ref a127), .val (.ref a153), .val (.ref a158), .val (.ref a163), .val (.int (E i172)), .val (.int (E i173)), .val (.int (E i213)), u189, u190, u191, u192, u193, u194, u195] [])
                refine WGo.st (fun _ q => XS.aloadN S246.here hx rfl (hb hby e13_529) rfl rfl q) ?_
                refine w_agf S246 d247 (i := 0) (fi := 14) hown (hwi hw 97 rfl) rfl (fn rfl (fn rfl (fn rfl hF14))) rfl rfl (hb hby e13_530) ?_
                intro T248 S249
                show WGo _ _ _ _ _ _ _ _ T248 (mkF m 533 #[.val (.ref a1), .val (.ref a113), .val (.ref a120), .val (.ref a127), .val (.ref a153), .val (.ref a158), .val (.ref a163), .val (.int (E i172)), .val (.int (E i173)), .val (.int (E i213)), u189, u190, u191, u192, u193, u194, u195] [(.ref r7)])
                refine WGo.st (fun _ q => XS.aloadN S249.here hx rfl (hb hby e13_533) rfl rfl q) ?_
                refine w_agf S249 d247 (i := 0) (fi := 9) hown (hwi hw 87 rfl) rfl (fn rfl (fn rfl (fn rfl hF9))) rfl rfl (hb hby e13_534) ?_
                intro T250 S251
                show WGo _ _ _ _ _ _ _ _ T250 (mkF m 537 #[.val (.ref a1), .val (.ref a113), .val (.ref a120), .val (.ref a127), .val (.ref a153), .val (.ref a158), .val (.ref a163), .val (.int (E i172)), .val (.int (E i173)), .val (.int (E i213)), u189, u190, u191, u192, u193, u194, u195] [(.ref r2), (.ref r7)])
                refine WGo.st (fun _ q => XS.iload S251.here hx rfl (hb hby e13_537) rfl q) ?_
                refine w_ald S251 d247 (i := 9) rfl rfl (hb hby e13_539) rfl hf ?_
                intro x252 hf
                show WGo _ _ _ _ _ _ _ _ T250 (mkF m 540 #[.val (.ref a1), .val (.ref a113), .val (.ref a120), .val (.ref a127), .val (.ref a153), .val (.ref a158), .val (.ref a163), .val (.int (E i172)), .val (.int (E i173)), .val (.int (E i213)), u189, u190, u191, u192, u193, u194, u195] [(.int (E x252)), (.ref r7)])
                refine WGo.st (fun _ q => XS.iload S251.here hx rfl (hb hby e13_540) rfl q) ?_
                refine w_ast S251 d247 (i := 14) rfl rfl (hb hby e13_542) rfl hf ?_
                intro T254 h255 A253 S256 d257 hf
                show WGo _ _ _ _ _ _ _ _ T254 (mkF m 543 #[.val (.ref a1), .val (.ref a113), .val (.ref a120), .val (.ref a127), .val (.ref a153), .val (.ref a158), .val (.ref a163), .val (.int (E i172)), .val (.int (E i173)), .val (.int (E i213)), u189, u190, u191, u192, u193, u194, u195] [])
                refine w_incN S256 rfl (hb hby e13_543) (y := 63) (by decide) rfl (l1 := fun z0 => #[.val (.ref a1), .val (.ref a113), .val (.ref a120), .val (.ref a127), .val (.ref a153), .val (.ref a158), .val (.ref a163), .val (.int (E i172)), .val (.int (E i173)), .val (.int (E z0)), u189, u190, u191, u192, u193, u194, u195]) (fun _ => rfl) (fun _ => rfl) hf ?_
                intro z258 hf
                show WGo _ _ _ _ _ _ _ _ T254 (mkF m 546 #[.val (.ref a1), .val (.ref a113), .val (.ref a120), .val (.ref a127), .val (.ref a153), .val (.ref a158), .val (.ref a163), .val (.int (E i172)), .val (.int (E i173)), .val (.int (E z258)), u189, u190, u191, u192, u193, u194, u195] [])
                refine WGo.st (fun _ q => XS.goto S256.here hx rfl (pc0 := 546) (pc' := 434) rfl (hb hby e13_546) (by decide) (by decide) q) ?_
                show WGo _ _ _ _ _ _ _ _ T254 (mkF m 434 #[.val (.ref a1), .val (.ref a113), .val (.ref a120), .val (.ref a127), .val (.ref a153), .val (.ref a158), .val (.ref a163), .val (.int (E i172)), .val (.int (E i173)), .val (.int (E z258)), u189, u190, u191, u192, u193, u194, u195] [])
                exact ih T254 h255  z258 A243 A253 S256  d257  hf
              · refine WGo.st (fun _ q => XS.icmpYes S232.here hx rfl (pc0 := 507) (pc' := 543) rfl (hb hby e13_507) rfl (flt c507).2.1 (by decide) (by decide) q) ?_
                show WGo _ _ _ _ _ _ _ _ T231 (mkF m 543 #[.val (.ref a1), .val (.ref a113), .val (.ref a120), .val (.ref a127), .val (.ref a153), .val (.ref a158), .val (.ref a163), .val (.int (E i172)), .val (.int (E i173)), .val (.int (E i213)), u189, u190, u191, u192, u193, u194, u195] [])
                refine w_incN S232 rfl (hb hby e13_543) (y := 63) (by decide) rfl (l1 := fun z0 => #[.val (.ref a1), .val (.ref a113), .val (.ref a120), .val (.ref a127), .val (.ref a153), .val (.ref a158), .val (.ref a163), .val (.int (E i172)), .val (.int (E i173)), .val (.int (E z0)), u189, u190, u191, u192, u193, u194, u195]) (fun _ => rfl) (fun _ => rfl) hf ?_
                intro z259 hf
                show WGo _ _ _ _ _ _ _ _ T231 (mkF m 546 #[.val (.ref a1), .val (.ref a113), .val (.ref a120), .val (.ref a127), .val (.ref a153), .val (.ref a158), .val (.ref a163), .val (.int (E i172)), .val (.int (E i173)), .val (.int (E z259)), u189, u190, u191, u192, u193, u194, u195] [])
                refine WGo.st (fun _ q => XS.goto S232.here hx rfl (pc0 := 546) (pc' := 434) rfl (hb hby e13_546) (by decide) (by decide) q) ?_
                show WGo _ _ _ _ _ _ _ _ T231 (mkF m 434 #[.val (.ref a1), .val (.ref a113), .val (.ref a120), .val (.ref a127), .val (.ref a153), .val (.ref a158), .val (.ref a163), .val (.int (E i172)), .val (.int (E i173)), .val (.int (E z259)), u189, u190, u191, u192, u193, u194, u195] [])
                exact ih T231 h210  z259 A214 A215 S232  d212  hf
          · refine WGo.st (fun _ q => XS.icmpNo S220.here hx rfl (hb hby e13_453) rfl (flt c453).2.2.1 q) ?_
            show WGo _ _ _ _ _ _ _ _ T219 (mkF m 456 #[.val (.ref a1), .val (.ref a113), .val (.ref a120), .val (.ref a127), .val (.ref a153), .val (.ref a158), .val (.ref a163), .val (.int (E i172)), .val (.int (E i173)), .val (.int (E i213)), u189, u190, u191, u192, u193, u194, u195] [])
            refine WGo.st (fun _ q => XS.aloadN S220.here hx rfl (hb hby e13_456) rfl rfl q) ?_
            refine w_agf S220 d212 (i := 0) (fi := 13) hown (hwi hw 95 rfl) rfl (fn rfl (fn rfl (fn rfl hF13))) rfl rfl (hb hby e13_457) ?_
            intro T260 S261
            show WGo _ _ _ _ _ _ _ _ T260 (mkF m 460 #[.val (.ref a1), .val (.ref a113), .val (.ref a120), .val (.ref a127), .val (.ref a153), .val (.ref a158), .val (.ref a163), .val (.int (E i172)), .val (.int (E i173)), .val (.int (E i213)), u189, u190, u191, u192, u193, u194, u195] [(.ref r6)])
            refine WGo.st (fun _ q => XS.iload S261.here hx rfl (hb hby e13_460) rfl q) ?_
            refine WGo.st (fun _ q => XS.aloadN S261.here hx rfl (hb hby e13_462) rfl rfl q) ?_
            refine w_agf S261 d212 (i := 0) (fi := 11) hown (hwi hw 91 rfl) rfl (fn rfl (fn rfl (fn rfl hF11))) rfl rfl (hb hby e13_463) ?_
            intro T262 S263
            show WGo _ _ _ _ _ _ _ _ T262 (mkF m 466 #[.val (.ref a1), .val (.ref a113), .val (.ref a120), .val (.ref a127), .val (.ref a153), .val (.ref a158), .val (.ref a163), .val (.int (E i172)), .val (.int (E i173)), .val (.int (E i213)), u189, u190, u191, u192, u193, u194, u195] [(.ref r4), (.int (E i213)), (.ref r6)])
            refine WGo.st (fun _ q => XS.iload S263.here hx rfl (hb hby e13_466) rfl q) ?_
            refine w_ald S263 d212 (i := 11) rfl rfl (hb hby e13_468) rfl hf ?_
            intro x264 hf
            show WGo _ _ _ _ _ _ _ _ T262 (mkF m 469 #[.val (.ref a1), .val (.ref a113), .val (.ref a120), .val (.ref a127), .val (.ref a153), .val (.ref a158), .val (.ref a163), .val (.int (E i172)), .val (.int (E i173)), .val (.int (E i213)), u189, u190, u191, u192, u193, u194, u195] [(.int (E x264)), (.int (E i213)), (.ref r6)])
            refine w_ast S263 d212 (i := 13) rfl rfl (hb hby e13_469) rfl hf ?_
            intro T266 h267 A265 S268 d269 hf
            show WGo _ _ _ _ _ _ _ _ T266 (mkF m 470 #[.val (.ref a1), .val (.ref a113), .val (.ref a120), .val (.ref a127), .val (.ref a153), .val (.ref a158), .val (.ref a163), .val (.int (E i172)), .val (.int (E i173)), .val (.int (E i213)), u189, u190, u191, u192, u193, u194, u195] [])
            refine WGo.st (fun _ q => XS.aloadN S268.here hx rfl (hb hby e13_470) rfl rfl q) ?_
            refine w_agf S268 d269 (i := 0) (fi := 14) hown (hwi hw 97 rfl) rfl (fn rfl (fn rfl (fn rfl hF14))) rfl rfl (hb hby e13_471) ?_
            intro T270 S271
            show WGo _ _ _ _ _ _ _ _ T270 (mkF m 474 #[.val (.ref a1), .val (.ref a113), .val (.ref a120), .val (.ref a127), .val (.ref a153), .val (.ref a158), .val (.ref a163), .val (.int (E i172)), .val (.int (E i173)), .val (.int (E i213)), u189, u190, u191, u192, u193, u194, u195] [(.ref r7)])
            refine WGo.st (fun _ q => XS.iload S271.here hx rfl (hb hby e13_474) rfl q) ?_
            refine WGo.st (fun _ q => XS.iconst S271.here hx rfl (hb hby e13_476) q) ?_
            refine w_ast S271 d269 (i := 14) rfl rfl (hb hby e13_477) rfl hf ?_
            intro T273 h274 A272 S275 d276 hf
            show WGo _ _ _ _ _ _ _ _ T273 (mkF m 478 #[.val (.ref a1), .val (.ref a113), .val (.ref a120), .val (.ref a127), .val (.ref a153), .val (.ref a158), .val (.ref a163), .val (.int (E i172)), .val (.int (E i173)), .val (.int (E i213)), u189, u190, u191, u192, u193, u194, u195] [])
            refine WGo.st (fun _ q => XS.aloadN S275.here hx rfl (hb hby e13_478) rfl rfl q) ?_
            refine w_agf S275 d276 (i := 0) (fi := 9) hown (hwi hw 87 rfl) rfl (fn rfl (fn rfl (fn rfl hF9))) rfl rfl (hb hby e13_479) ?_
            intro T277 S278
            show WGo _ _ _ _ _ _ _ _ T277 (mkF m 482 #[.val (.ref a1), .val (.ref a113), .val (.ref a120), .val (.ref a127), .val (.ref a153), .val (.ref a158), .val (.ref a163), .val (.int (E i172)), .val (.int (E i173)), .val (.int (E i213)), u189, u190, u191, u192, u193, u194, u195] [(.ref r2)])
            refine WGo.st (fun _ q => XS.iload S278.here hx rfl (hb hby e13_482) rfl q) ?_
            refine w_ald S278 d276 (i := 9) rfl rfl (hb hby e13_484) rfl hf ?_
            intro x279 hf
            show WGo _ _ _ _ _ _ _ _ T277 (mkF m 485 #[.val (.ref a1), .val (.ref a113), .val (.ref a120), .val (.ref a127), .val (.ref a153), .val (.ref a158), .val (.ref a163), .val (.int (E i172)), .val (.int (E i173)), .val (.int (E i213)), u189, u190, u191, u192, u193, u194, u195] [(.int (E x279))])
            rcases ltN_some hf with ⟨c485, hf⟩ | ⟨c485, hf⟩
            · refine WGo.st (fun _ q => XS.ifYes S278.here hx rfl (pc0 := 485) (pc' := 543) rfl (hb hby e13_485) rfl ((if0E _ _).trans (tlt c485).1) (by decide) (by decide) q) ?_
              show WGo _ _ _ _ _ _ _ _ T277 (mkF m 543 #[.val (.ref a1), .val (.ref a113), .val (.ref a120), .val (.ref a127), .val (.ref a153), .val (.ref a158), .val (.ref a163), .val (.int (E i172)), .val (.int (E i173)), .val (.int (E i213)), u189, u190, u191, u192, u193, u194, u195] [])
              refine w_incN S278 rfl (hb hby e13_543) (y := 63) (by decide) rfl (l1 := fun z0 => #[.val (.ref a1), .val (.ref a113), .val (.ref a120), .val (.ref a127), .val (.ref a153), .val (.ref a158), .val (.ref a163), .val (.int (E i172)), .val (.int (E i173)), .val (.int (E z0)), u189, u190, u191, u192, u193, u194, u195]) (fun _ => rfl) (fun _ => rfl) hf ?_
              intro z280 hf
              show WGo _ _ _ _ _ _ _ _ T277 (mkF m 546 #[.val (.ref a1), .val (.ref a113), .val (.ref a120), .val (.ref a127), .val (.ref a153), .val (.ref a158), .val (.ref a163), .val (.int (E i172)), .val (.int (E i173)), .val (.int (E z280)), u189, u190, u191, u192, u193, u194, u195] [])
              refine WGo.st (fun _ q => XS.goto S278.here hx rfl (pc0 := 546) (pc' := 434) rfl (hb hby e13_546) (by decide) (by decide) q) ?_
              show WGo _ _ _ _ _ _ _ _ T277 (mkF m 434 #[.val (.ref a1), .val (.ref a113), .val (.ref a120), .val (.ref a127), .val (.ref a153), .val (.ref a158), .val (.ref a163), .val (.int (E i172)), .val (.int (E i173)), .val (.int (E z280)), u189, u190, u191, u192, u193, u194, u195] [])
              exact ih T277 h274  z280 A265 A272 S278  d276  hf
            · refine WGo.st (fun _ q => XS.ifNo S278.here hx rfl (hb hby e13_485) rfl ((if0E _ _).trans (flt c485).1) q) ?_
              show WGo _ _ _ _ _ _ _ _ T277 (mkF m 488 #[.val (.ref a1), .val (.ref a113), .val (.ref a120), .val (.ref a127), .val (.ref a153), .val (.ref a158), .val (.ref a163), .val (.int (E i172)), .val (.int (E i173)), .val (.int (E i213)), u189, u190, u191, u192, u193, u194, u195] [])
              refine WGo.st (fun _ q => XS.aloadN S278.here hx rfl (hb hby e13_488) rfl rfl q) ?_
              refine w_agf S278 d276 (i := 0) (fi := 13) hown (hwi hw 95 rfl) rfl (fn rfl (fn rfl (fn rfl hF13))) rfl rfl (hb hby e13_489) ?_
              intro T281 S282
              show WGo _ _ _ _ _ _ _ _ T281 (mkF m 492 #[.val (.ref a1), .val (.ref a113), .val (.ref a120), .val (.ref a127), .val (.ref a153), .val (.ref a158), .val (.ref a163), .val (.int (E i172)), .val (.int (E i173)), .val (.int (E i213)), u189, u190, u191, u192, u193, u194, u195] [(.ref r6)])
              refine WGo.st (fun _ q => XS.iload S282.here hx rfl (hb hby e13_492) rfl q) ?_
              refine w_ald S282 d276 (i := 13) rfl rfl (hb hby e13_494) rfl hf ?_
              intro x283 hf
              show WGo _ _ _ _ _ _ _ _ T281 (mkF m 495 #[.val (.ref a1), .val (.ref a113), .val (.ref a120), .val (.ref a127), .val (.ref a153), .val (.ref a158), .val (.ref a163), .val (.int (E i172)), .val (.int (E i173)), .val (.int (E i213)), u189, u190, u191, u192, u193, u194, u195] [(.int (E x283))])
              refine WGo.st (fun _ q => XS.aloadN S282.here hx rfl (hb hby e13_495) rfl rfl q) ?_
              refine w_agf S282 d276 (i := 0) (fi := 13) hown (hwi hw 95 rfl) rfl (fn rfl (fn rfl (fn rfl hF13))) rfl rfl (hb hby e13_496) ?_
              intro T284 S285
              show WGo _ _ _ _ _ _ _ _ T284 (mkF m 499 #[.val (.ref a1), .val (.ref a113), .val (.ref a120), .val (.ref a127), .val (.ref a153), .val (.ref a158), .val (.ref a163), .val (.int (E i172)), .val (.int (E i173)), .val (.int (E i213)), u189, u190, u191, u192, u193, u194, u195] [(.ref r6), (.int (E x283))])
              refine WGo.st (fun _ q => XS.aloadN S285.here hx rfl (hb hby e13_499) rfl rfl q) ?_
              refine w_agf S285 d276 (i := 0) (fi := 9) hown (hwi hw 87 rfl) rfl (fn rfl (fn rfl (fn rfl hF9))) rfl rfl (hb hby e13_500) ?_
              intro T286 S287
              show WGo _ _ _ _ _ _ _ _ T286 (mkF m 503 #[.val (.ref a1), .val (.ref a113), .val (.ref a120), .val (.ref a127), .val (.ref a153), .val (.ref a158), .val (.ref a163), .val (.int (E i172)), .val (.int (E i173)), .val (.int (E i213)), u189, u190, u191, u192, u193, u194, u195] [(.ref r2), (.ref r6), (.int (E x283))])
              refine WGo.st (fun _ q => XS.iload S287.here hx rfl (hb hby e13_503) rfl q) ?_
              refine w_ald S287 d276 (i := 9) rfl rfl (hb hby e13_505) rfl hf ?_
              intro x288 hf
              show WGo _ _ _ _ _ _ _ _ T286 (mkF m 506 #[.val (.ref a1), .val (.ref a113), .val (.ref a120), .val (.ref a127), .val (.ref a153), .val (.ref a158), .val (.ref a163), .val (.int (E i172)), .val (.int (E i173)), .val (.int (E i213)), u189, u190, u191, u192, u193, u194, u195] [(.int (E x288)), (.ref r6), (.int (E x283))])
              refine w_ald S287 d276 (i := 13) rfl rfl (hb hby e13_506) rfl hf ?_
              intro x289 hf
              show WGo _ _ _ _ _ _ _ _ T286 (mkF m 507 #[.val (.ref a1), .val (.ref a113), .val (.ref a120), .val (.ref a127), .val (.ref a153), .val (.ref a158), .val (.ref a163), .val (.int (E i172)), .val (.int (E i173)), .val (.int (E i213)), u189, u190, u191, u192, u193, u194, u195] [(.int (E x289)), (.int (E x283))])
              rcases ltN_some hf with ⟨c507, hf⟩ | ⟨c507, hf⟩
              · refine WGo.st (fun _ q => XS.icmpNo S287.here hx rfl (hb hby e13_507) rfl (tlt c507).2.1 q) ?_
                show WGo _ _ _ _ _ _ _ _ T286 (mkF m 510 #[.val (.ref a1), .val (.ref a113), .val (.ref a120), .val (.ref a127), .val (.ref a153), .val (.ref a158), .val (.ref a163), .val (.int (E i172)), .val (.int (E i173)), .val (.int (E i213)), u189, u190, u191, u192, u193, u194, u195] [])
                refine WGo.st (fun _ q => XS.aloadN S287.here hx rfl (hb hby e13_510) rfl rfl q) ?_
                refine w_agf S287 d276 (i := 0) (fi := 13) hown (hwi hw 95 rfl) rfl (fn rfl (fn rfl (fn rfl hF13))) rfl rfl (hb hby e13_511) ?_
                intro T290 S291
                show WGo _ _ _ _ _ _ _ _ T290 (mkF m 514 #[.val (.ref a1), .val (.ref a113), .val (.ref a120), .val (.ref a127), .val (.ref a153), .val (.ref a158), .val (.ref a163), .val (.int (E i172)), .val (.int (E i173)), .val (.int (E i213)), u189, u190, u191, u192, u193, u194, u195] [(.ref r6)])
                refine WGo.st (fun _ q => XS.aloadN S291.here hx rfl (hb hby e13_514) rfl rfl q) ?_
                refine w_agf S291 d276 (i := 0) (fi := 9) hown (hwi hw 87 rfl) rfl (fn rfl (fn rfl (fn rfl hF9))) rfl rfl (hb hby e13_515) ?_
                intro T292 S293
                show WGo _ _ _ _ _ _ _ _ T292 (mkF m 518 #[.val (.ref a1), .val (.ref a113), .val (.ref a120), .val (.ref a127), .val (.ref a153), .val (.ref a158), .val (.ref a163), .val (.int (E i172)), .val (.int (E i173)), .val (.int (E i213)), u189, u190, u191, u192, u193, u194, u195] [(.ref r2), (.ref r6)])
                refine WGo.st (fun _ q => XS.iload S293.here hx rfl (hb hby e13_518) rfl q) ?_
                refine w_ald S293 d276 (i := 9) rfl rfl (hb hby e13_520) rfl hf ?_
                intro x294 hf
                show WGo _ _ _ _ _ _ _ _ T292 (mkF m 521 #[.val (.ref a1), .val (.ref a113), .val (.ref a120), .val (.ref a127), .val (.ref a153), .val (.ref a158), .val (.ref a163), .val (.int (E i172)), .val (.int (E i173)), .val (.int (E i213)), u189, u190, u191, u192, u193, u194, u195] [(.int (E x294)), (.ref r6)])
                refine WGo.st (fun _ q => XS.aloadN S293.here hx rfl (hb hby e13_521) rfl rfl q) ?_
                refine w_agf S293 d276 (i := 0) (fi := 13) hown (hwi hw 95 rfl) rfl (fn rfl (fn rfl (fn rfl hF13))) rfl rfl (hb hby e13_522) ?_
                intro T295 S296
                show WGo _ _ _ _ _ _ _ _ T295 (mkF m 525 #[.val (.ref a1), .val (.ref a113), .val (.ref a120), .val (.ref a127), .val (.ref a153), .val (.ref a158), .val (.ref a163), .val (.int (E i172)), .val (.int (E i173)), .val (.int (E i213)), u189, u190, u191, u192, u193, u194, u195] [(.ref r6), (.int (E x294)), (.ref r6)])
                refine WGo.st (fun _ q => XS.iload S296.here hx rfl (hb hby e13_525) rfl q) ?_
                refine w_ald S296 d276 (i := 13) rfl rfl (hb hby e13_527) rfl hf ?_
                intro x297 hf
                show WGo _ _ _ _ _ _ _ _ T295 (mkF m 528 #[.val (.ref a1), .val (.ref a113), .val (.ref a120), .val (.ref a127), .val (.ref a153), .val (.ref a158), .val (.ref a163), .val (.int (E i172)), .val (.int (E i173)), .val (.int (E i213)), u189, u190, u191, u192, u193, u194, u195] [(.int (E x297)), (.int (E x294)), (.ref r6)])
                refine w_ast S296 d276 (i := 13) rfl rfl (hb hby e13_528) rfl hf ?_
                intro T299 h300 A298 S301 d302 hf
                show WGo _ _ _ _ _ _ _ _ T299 (mkF m 529 #[.val (.ref a1), .val (.ref a113), .val (.ref a120), .val (.ref a127), .val (.ref a153), .val (.ref a158), .val (.ref a163), .val (.int (E i172)), .val (.int (E i173)), .val (.int (E i213)), u189, u190, u191, u192, u193, u194, u195] [])
                refine WGo.st (fun _ q => XS.aloadN S301.here hx rfl (hb hby e13_529) rfl rfl q) ?_
                refine w_agf S301 d302 (i := 0) (fi := 14) hown (hwi hw 97 rfl) rfl (fn rfl (fn rfl (fn rfl hF14))) rfl rfl (hb hby e13_530) ?_
                intro T303 S304
                show WGo _ _ _ _ _ _ _ _ T303 (mkF m 533 #[.val (.ref a1), .val (.ref a113), .val (.ref a120), .val (.ref a127), .val (.ref a153), .val (.ref a158), .val (.ref a163), .val (.int (E i172)), .val (.int (E i173)), .val (.int (E i213)), u189, u190, u191, u192, u193, u194, u195] [(.ref r7)])
                refine WGo.st (fun _ q => XS.aloadN S304.here hx rfl (hb hby e13_533) rfl rfl q) ?_
                refine w_agf S304 d302 (i := 0) (fi := 9) hown (hwi hw 87 rfl) rfl (fn rfl (fn rfl (fn rfl hF9))) rfl rfl (hb hby e13_534) ?_
                intro T305 S306
                show WGo _ _ _ _ _ _ _ _ T305 (mkF m 537 #[.val (.ref a1), .val (.ref a113), .val (.ref a120), .val (.ref a127), .val (.ref a153), .val (.ref a158), .val (.ref a163), .val (.int (E i172)), .val (.int (E i173)), .val (.int (E i213)), u189, u190, u191, u192, u193, u194, u195] [(.ref r2), (.ref r7)])
                refine WGo.st (fun _ q => XS.iload S306.here hx rfl (hb hby e13_537) rfl q) ?_
                refine w_ald S306 d302 (i := 9) rfl rfl (hb hby e13_539) rfl hf ?_
                intro x307 hf
                show WGo _ _ _ _ _ _ _ _ T305 (mkF m 540 #[.val (.ref a1), .val (.ref a113), .val (.ref a120), .val (.ref a127), .val (.ref a153), .val (.ref a158), .val (.ref a163), .val (.int (E i172)), .val (.int (E i173)), .val (.int (E i213)), u189, u190, u191, u192, u193, u194, u195] [(.int (E x307)), (.ref r7)])
                refine WGo.st (fun _ q => XS.iload S306.here hx rfl (hb hby e13_540) rfl q) ?_
                refine w_ast S306 d302 (i := 14) rfl rfl (hb hby e13_542) rfl hf ?_
                intro T309 h310 A308 S311 d312 hf
                show WGo _ _ _ _ _ _ _ _ T309 (mkF m 543 #[.val (.ref a1), .val (.ref a113), .val (.ref a120), .val (.ref a127), .val (.ref a153), .val (.ref a158), .val (.ref a163), .val (.int (E i172)), .val (.int (E i173)), .val (.int (E i213)), u189, u190, u191, u192, u193, u194, u195] [])
                refine w_incN S311 rfl (hb hby e13_543) (y := 63) (by decide) rfl (l1 := fun z0 => #[.val (.ref a1), .val (.ref a113), .val (.ref a120), .val (.ref a127), .val (.ref a153), .val (.ref a158), .val (.ref a163), .val (.int (E i172)), .val (.int (E i173)), .val (.int (E z0)), u189, u190, u191, u192, u193, u194, u195]) (fun _ => rfl) (fun _ => rfl) hf ?_
                intro z313 hf
                show WGo _ _ _ _ _ _ _ _ T309 (mkF m 546 #[.val (.ref a1), .val (.ref a113), .val (.ref a120), .val (.ref a127), .val (.ref a153), .val (.ref a158), .val (.ref a163), .val (.int (E i172)), .val (.int (E i173)), .val (.int (E z313)), u189, u190, u191, u192, u193, u194, u195] [])
                refine WGo.st (fun _ q => XS.goto S311.here hx rfl (pc0 := 546) (pc' := 434) rfl (hb hby e13_546) (by decide) (by decide) q) ?_
                show WGo _ _ _ _ _ _ _ _ T309 (mkF m 434 #[.val (.ref a1), .val (.ref a113), .val (.ref a120), .val (.ref a127), .val (.ref a153), .val (.ref a158), .val (.ref a163), .val (.int (E i172)), .val (.int (E i173)), .val (.int (E z313)), u189, u190, u191, u192, u193, u194, u195] [])
                exact ih T309 h310  z313 A298 A308 S311  d312  hf
              · refine WGo.st (fun _ q => XS.icmpYes S287.here hx rfl (pc0 := 507) (pc' := 543) rfl (hb hby e13_507) rfl (flt c507).2.1 (by decide) (by decide) q) ?_
                show WGo _ _ _ _ _ _ _ _ T286 (mkF m 543 #[.val (.ref a1), .val (.ref a113), .val (.ref a120), .val (.ref a127), .val (.ref a153), .val (.ref a158), .val (.ref a163), .val (.int (E i172)), .val (.int (E i173)), .val (.int (E i213)), u189, u190, u191, u192, u193, u194, u195] [])
                refine w_incN S287 rfl (hb hby e13_543) (y := 63) (by decide) rfl (l1 := fun z0 => #[.val (.ref a1), .val (.ref a113), .val (.ref a120), .val (.ref a127), .val (.ref a153), .val (.ref a158), .val (.ref a163), .val (.int (E i172)), .val (.int (E i173)), .val (.int (E z0)), u189, u190, u191, u192, u193, u194, u195]) (fun _ => rfl) (fun _ => rfl) hf ?_
                intro z314 hf
                show WGo _ _ _ _ _ _ _ _ T286 (mkF m 546 #[.val (.ref a1), .val (.ref a113), .val (.ref a120), .val (.ref a127), .val (.ref a153), .val (.ref a158), .val (.ref a163), .val (.int (E i172)), .val (.int (E i173)), .val (.int (E z314)), u189, u190, u191, u192, u193, u194, u195] [])
                refine WGo.st (fun _ q => XS.goto S287.here hx rfl (pc0 := 546) (pc' := 434) rfl (hb hby e13_546) (by decide) (by decide) q) ?_
                show WGo _ _ _ _ _ _ _ _ T286 (mkF m 434 #[.val (.ref a1), .val (.ref a113), .val (.ref a120), .val (.ref a127), .val (.ref a153), .val (.ref a158), .val (.ref a163), .val (.int (E i172)), .val (.int (E i173)), .val (.int (E z314)), u189, u190, u191, u192, u193, u194, u195] [])
                exact ih T286 h274  z314 A265 A272 S287  d276  hf
    exact hL434 T206 h198  z208 A181 A182 S207  d202 hf
  have hL75 : ∀ (T168 : State) (h169 : Heap) (u189 : Slot) (u190 : Slot) (u191 : Slot) (u192 : Slot) (u193 : Slot) (u194 : Slot) (u195 : Slot) (i172 : Nat) (i173 : Nat) (i174 : Nat) (A175 : Nat) (A176 : Nat) (A177 : Nat) (A178 : Nat) (A179 : Nat) (A180 : Nat) (A181 : Nat) (A182 : Nat) (A183 : Nat) (A184 : Nat) (A185 : Nat) (A186 : Nat) (A187 : Nat) (A188 : Nat), WSt p l e R_Se s m #[(.ref a1)] below meth c Z n0 T168 h169 (6) (60) → One u189 → One u190 → One u191 → One u192 → One u193 → One u194 → One u195 → HS Z a0 n0 h0 [a1, a2, aV, aF, aE, aN, rp, r0, r1, r2, r3, r4, r5, r6, r7] h169 [ob a1 cA F, ob a2 cE G, ia aV 70 V1, ia aF nf V2, ia aE 70 V3, ia aN 70 V4, ia rp 67 V5, ia r0 nn A175, ia r1 nn A176, ia r2 nn A177, ia r3 nn A178, ia r4 nn A179, ia r5 nn A180, ia r6 nn A181, ia r7 nn A182, ia a113 nn A183, ia a120 nn A184, ia a127 nn A185, ia a153 y152 A186, ia a158 y152 A187, ia a163 y152 A188] → fSe_L75 nn nf hc V2 V3 V4 V5 y152 Kx75 i172 i173 i174 A175 A176 A177 A178 A179 A180 A181 A182 A183 A184 A185 A186 A187 A188 = some r → WGo p e below s n0 (QSe Z a0 n0 h0 a1 a2 aV aF aE aN rp r0 r1 r2 r3 r4 r5 r6 r7 F G nn nf hc V1 V2 V3 V4 V5 A0 A1 A2 A3 A4 A5 A6 A7 Kf r) R_Se.cells R_Se.slots T168 (mkF m 75 #[.val (.ref a1), .val (.ref a113), .val (.ref a120), .val (.ref a127), .val (.ref a153), .val (.ref a158), .val (.ref a163), .val (.int (E i172)), .val (.int (E i173)), .val (.int (E i174)), u189, u190, u191, u192, u193, u194, u195] []) := by
    refine it8_ind (F := fSe_L75b nn nf hc V2 V3 V4 V5 y152 Kx75) (P := fun (gv75 : Nat → Nat → Nat → Nat → Nat → Nat → Nat → Nat → Nat → Nat → Nat → Nat → Nat → Nat → Nat → Nat → Nat → Option Rt) => ∀ (T168 : State) (h169 : Heap) (u189 : Slot) (u190 : Slot) (u191 : Slot) (u192 : Slot) (u193 : Slot) (u194 : Slot) (u195 : Slot) (i172 : Nat) (i173 : Nat) (i174 : Nat) (A175 : Nat) (A176 : Nat) (A177 : Nat) (A178 : Nat) (A179 : Nat) (A180 : Nat) (A181 : Nat) (A182 : Nat) (A183 : Nat) (A184 : Nat) (A185 : Nat) (A186 : Nat) (A187 : Nat) (A188 : Nat), WSt p l e R_Se s m #[(.ref a1)] below meth c Z n0 T168 h169 (6) (60) → One u189 → One u190 → One u191 → One u192 → One u193 → One u194 → One u195 → HS Z a0 n0 h0 [a1, a2, aV, aF, aE, aN, rp, r0, r1, r2, r3, r4, r5, r6, r7] h169 [ob a1 cA F, ob a2 cE G, ia aV 70 V1, ia aF nf V2, ia aE 70 V3, ia aN 70 V4, ia rp 67 V5, ia r0 nn A175, ia r1 nn A176, ia r2 nn A177, ia r3 nn A178, ia r4 nn A179, ia r5 nn A180, ia r6 nn A181, ia r7 nn A182, ia a113 nn A183, ia a120 nn A184, ia a127 nn A185, ia a153 y152 A186, ia a158 y152 A187, ia a163 y152 A188] → gv75 i172 i173 i174 A175 A176 A177 A178 A179 A180 A181 A182 A183 A184 A185 A186 A187 A188 = some r → WGo p e below s n0 (QSe Z a0 n0 h0 a1 a2 aV aF aE aN rp r0 r1 r2 r3 r4 r5 r6 r7 F G nn nf hc V1 V2 V3 V4 V5 A0 A1 A2 A3 A4 A5 A6 A7 Kf r) R_Se.cells R_Se.slots T168 (mkF m 75 #[.val (.ref a1), .val (.ref a113), .val (.ref a120), .val (.ref a127), .val (.ref a153), .val (.ref a158), .val (.ref a163), .val (.int (E i172)), .val (.int (E i173)), .val (.int (E i174)), u189, u190, u191, u192, u193, u194, u195] [])) ?_ ?_
    · intro T168 h169 u189 u190 u191 u192 u193 u194 u195 i172 i173 i174 A175 A176 A177 A178 A179 A180 A181 A182 A183 A184 A185 A186 A187 A188 S170 hu189 hu190 hu191 hu192 hu193 hu194 hu195 d171 hf
      cases (show (none : Option _) = some r from hf)
    · intro gv75 ih T168 h169 u189 u190 u191 u192 u193 u194 u195 i172 i173 i174 A175 A176 A177 A178 A179 A180 A181 A182 A183 A184 A185 A186 A187 A188 S170 hu189 hu190 hu191 hu192 hu193 hu194 hu195 d171 hf
      rw [fSe_L75b] at hf
      show WGo _ _ _ _ _ _ _ _ T168 (mkF m 75 #[.val (.ref a1), .val (.ref a113), .val (.ref a120), .val (.ref a127), .val (.ref a153), .val (.ref a158), .val (.ref a163), .val (.int (E i172)), .val (.int (E i173)), .val (.int (E i174)), u189, u190, u191, u192, u193, u194, u195] [])
      refine WGo.st (fun _ q => XS.iload S170.here hx rfl (hb hby e13_75) rfl q) ?_
      refine WGo.st (fun _ q => XS.aloadN S170.here hx rfl (hb hby e13_77) rfl rfl q) ?_
      refine w_agf S170 d171 (i := 0) (fi := 4) hown (hwi hw 46 rfl) rfl hF4 rfl rfl (hb hby e13_78) ?_
      intro T315 S316
      show WGo _ _ _ _ _ _ _ _ T315 (mkF m 81 #[.val (.ref a1), .val (.ref a113), .val (.ref a120), .val (.ref a127), .val (.ref a153), .val (.ref a158), .val (.ref a163), .val (.int (E i172)), .val (.int (E i173)), .val (.int (E i174)), u189, u190, u191, u192, u193, u194, u195] [(.int (E nn)), (.int (E i174))])
      rcases ltN_some hf with ⟨c81, hf⟩ | ⟨c81, hf⟩
      · refine WGo.st (fun _ q => XS.icmpNo S316.here hx rfl (hb hby e13_81) rfl (tlt c81).2.1 q) ?_
        show WGo _ _ _ _ _ _ _ _ T315 (mkF m 84 #[.val (.ref a1), .val (.ref a113), .val (.ref a120), .val (.ref a127), .val (.ref a153), .val (.ref a158), .val (.ref a163), .val (.int (E i172)), .val (.int (E i173)), .val (.int (E i174)), u189, u190, u191, u192, u193, u194, u195] [])
        refine WGo.st (fun _ q => XS.aloadN S316.here hx rfl (hb hby e13_84) rfl rfl q) ?_
        refine w_agf S316 d171 (i := 0) (fi := 7) hown (hwi hw 83 rfl) rfl hF7 rfl rfl (hb hby e13_85) ?_
        intro T317 S318
        show WGo _ _ _ _ _ _ _ _ T317 (mkF m 88 #[.val (.ref a1), .val (.ref a113), .val (.ref a120), .val (.ref a127), .val (.ref a153), .val (.ref a158), .val (.ref a163), .val (.int (E i172)), .val (.int (E i173)), .val (.int (E i174)), u189, u190, u191, u192, u193, u194, u195] [(.ref r0)])
        refine WGo.st (fun _ q => XS.iload S318.here hx rfl (hb hby e13_88) rfl q) ?_
        refine w_ald S318 d171 (i := 7) rfl rfl (hb hby e13_90) rfl hf ?_
        intro x319 hf
        show WGo _ _ _ _ _ _ _ _ T317 (mkF m 91 #[.val (.ref a1), .val (.ref a113), .val (.ref a120), .val (.ref a127), .val (.ref a153), .val (.ref a158), .val (.ref a163), .val (.int (E i172)), .val (.int (E i173)), .val (.int (E i174)), u189, u190, u191, u192, u193, u194, u195] [(.int (E x319))])
        rcases ltN_some hf with ⟨c91, hf⟩ | ⟨c91, hf⟩
        · refine WGo.st (fun _ q => XS.ifYes S318.here hx rfl (pc0 := 91) (pc' := 97) rfl (hb hby e13_91) rfl ((if0E _ _).trans (tlt c91).1) (by decide) (by decide) q) ?_
          show WGo _ _ _ _ _ _ _ _ T317 (mkF m 97 #[.val (.ref a1), .val (.ref a113), .val (.ref a120), .val (.ref a127), .val (.ref a153), .val (.ref a158), .val (.ref a163), .val (.int (E i172)), .val (.int (E i173)), .val (.int (E i174)), u189, u190, u191, u192, u193, u194, u195] [])
          refine WGo.st (fun _ q => XS.aloadN S318.here hx rfl (hb hby e13_97) rfl rfl q) ?_
          refine WGo.st (fun _ q => XS.iload S318.here hx rfl (hb hby e13_98) rfl q) ?_
          refine WGo.st (fun _ q => XS.iload S318.here hx rfl (hb hby e13_100) rfl q) ?_
          refine WGo.st (fun _ q => XS.iconst S318.here hx rfl (hb hby e13_102) q) ?_
          refine WGo.st (fun _ q => XS.iconst S318.here hx rfl (hb hby e13_103) q) ?_
          show WGo _ _ _ _ _ _ _ _ T317 (mkF m 104 #[.val (.ref a1), .val (.ref a113), .val (.ref a120), .val (.ref a127), .val (.ref a153), .val (.ref a158), .val (.ref a163), .val (.int (E i172)), .val (.int (E i173)), .val (.int (E i174)), u189, u190, u191, u192, u193, u194, u195] [(.int (E 63)), (.int (E 63)), (.int (E i173)), (.int (E i174)), (.ref a1)])
          refine w_private S318 (y := (⟨"com/example/ookayama/ookayama/EdgeAddition", "reach", "(IIII)V"⟩ : MethodName)) (z := (⟨"com/example/ookayama/ookayama/EdgeAddition", "searchRoots", "()[I"⟩ : MethodName)) hown (hwi hw 143 rfl) (hwi hw 144 rfl) (hwi hw 145 rfl) (hwi hw 11 rfl) (hwi hw 146 rfl) (hwi hw 176 rfl) rfl (by decide) (HS.obj d171 (i := 0) rfl) (rm_Re l Z a0 hw n0 h169 a1 r0 r1 r2 r3 r4 r5 r6 r7 (F) nn A175 A176 A177 A178 A179 A180 A181 A182 i174 i173 63 63 S318.ge (hF7) (hF8) (hF9) (hF10) (hF11) (hF12) (hF13) (hF14) (HS.pw d171 [0, 7, 8, 9, 10, 11, 12, 13, 14] (by decide) rfl rfl) _ _ hf) (W := 0) (by decide) (by decide) (by decide) (by decide) rfl (by rw [hml]; rfl) (argsL := [(.int (E i174)), (.int (E i173)), (.int (E 63)), (.int (E 63))]) (rest := []) (ps := [.int, .int, .int, .int]) (rt := none) (by decide) rfl rfl rfl (by show 2 * 0 + _ ≤ _; exact Nat.le_of_eq rfl) (hb hby e13_104) ?_
          intro T320 h322 w323 S321 q324
          obtain ⟨y327, y328, y329, y330, y331, y332, y333, y334, rfl, d325, hf⟩ := q324
          have d326 : HS Z a0 n0 h0 [a1, a2, aV, aF, aE, aN, rp, r0, r1, r2, r3, r4, r5, r6, r7] h322 [ob a1 cA F, ob a2 cE G, ia aV 70 V1, ia aF nf V2, ia aE 70 V3, ia aN 70 V4, ia rp 67 V5, ia r0 nn y327, ia r1 nn y328, ia r2 nn y329, ia r3 nn y330, ia r4 nn y331, ia r5 nn y332, ia r6 nn y333, ia r7 nn y334, ia a113 nn A183, ia a120 nn A184, ia a127 nn A185, ia a153 y152 A186, ia a158 y152 A187, ia a163 y152 A188] := HS.call d171 [0, 7, 8, 9, 10, 11, 12, 13, 14] [ob a1 cA F, ia r0 nn A175, ia r1 nn A176, ia r2 nn A177, ia r3 nn A178, ia r4 nn A179, ia r5 nn A180, ia r6 nn A181, ia r7 nn A182] [ob a1 cA F, ia r0 nn y327, ia r1 nn y328, ia r2 nn y329, ia r3 nn y330, ia r4 nn y331, ia r5 nn y332, ia r6 nn y333, ia r7 nn y334] [] (by decide) rfl rfl d325
          show WGo _ _ _ _ _ _ _ _ T320 (mkF m 107 #[.val (.ref a1), .val (.ref a113), .val (.ref a120), .val (.ref a127), .val (.ref a153), .val (.ref a158), .val (.ref a163), .val (.int (E i172)), .val (.int (E i173)), .val (.int (E i174)), u189, u190, u191, u192, u193, u194, u195] [])
          refine WGo.st (fun _ q => XS.aloadN S321.here hx rfl (hb hby e13_107) rfl rfl q) ?_
          refine WGo.st (fun _ q => XS.iconst S321.here hx rfl (hb hby e13_108) q) ?_
          refine WGo.st (fun _ q => XS.iload S321.here hx rfl (hb hby e13_109) rfl q) ?_
          refine w_ast S321 d326 (i := 15) rfl rfl (hb hby e13_111) rfl hf ?_
          intro T336 h337 A335 S338 d339 hf
          show WGo _ _ _ _ _ _ _ _ T336 (mkF m 112 #[.val (.ref a1), .val (.ref a113), .val (.ref a120), .val (.ref a127), .val (.ref a153), .val (.ref a158), .val (.ref a163), .val (.int (E i172)), .val (.int (E i173)), .val (.int (E i174)), u189, u190, u191, u192, u193, u194, u195] [])
          refine WGo.st (fun _ q => XS.aloadN S338.here hx rfl (hb hby e13_112) rfl rfl q) ?_
          refine WGo.st (fun _ q => XS.iconst S338.here hx rfl (hb hby e13_113) q) ?_
          refine WGo.st (fun _ q => XS.iload S338.here hx rfl (hb hby e13_114) rfl q) ?_
          refine w_incN S338 rfl (hb hby e13_116) (y := 65) (by decide) rfl (l1 := fun z0 => #[.val (.ref a1), .val (.ref a113), .val (.ref a120), .val (.ref a127), .val (.ref a153), .val (.ref a158), .val (.ref a163), .val (.int (E i172)), .val (.int (E z0)), .val (.int (E i174)), u189, u190, u191, u192, u193, u194, u195]) (fun _ => rfl) (fun _ => rfl) hf ?_
          intro z340 hf
          show WGo _ _ _ _ _ _ _ _ T336 (mkF m 119 #[.val (.ref a1), .val (.ref a113), .val (.ref a120), .val (.ref a127), .val (.ref a153), .val (.ref a158), .val (.ref a163), .val (.int (E i172)), .val (.int (E z340)), .val (.int (E i174)), u189, u190, u191, u192, u193, u194, u195] [(.int (E i173)), (.int (E 64)), (.ref a120)])
          refine w_ast S338 d339 (i := 16) rfl rfl (hb hby e13_119) rfl hf ?_
          intro T342 h343 A341 S344 d345 hf
          show WGo _ _ _ _ _ _ _ _ T342 (mkF m 120 #[.val (.ref a1), .val (.ref a113), .val (.ref a120), .val (.ref a127), .val (.ref a153), .val (.ref a158), .val (.ref a163), .val (.int (E i172)), .val (.int (E z340)), .val (.int (E i174)), u189, u190, u191, u192, u193, u194, u195] [])
          refine WGo.st (fun _ q => XS.aloadN S344.here hx rfl (hb hby e13_120) rfl rfl q) ?_
          refine WGo.st (fun _ q => XS.iconst S344.here hx rfl (hb hby e13_121) q) ?_
          refine WGo.st (fun _ q => XS.iconst S344.here hx rfl (hb hby e13_122) q) ?_
          refine w_ast S344 d345 (i := 17) rfl rfl (hb hby e13_123) rfl hf ?_
          intro T347 h348 A346 S349 d350 hf
          show WGo _ _ _ _ _ _ _ _ T347 (mkF m 124 #[.val (.ref a1), .val (.ref a113), .val (.ref a120), .val (.ref a127), .val (.ref a153), .val (.ref a158), .val (.ref a163), .val (.int (E i172)), .val (.int (E z340)), .val (.int (E i174)), u189, u190, u191, u192, u193, u194, u195] [])
          refine WGo.st (fun _ q => XS.iconst S349.here hx rfl (hb hby e13_124) q) ?_
          refine WGo.st (fun _ q => XS.istoreS S349.here hx rfl (hb hby e13_125) rfl rfl hu189 q) ?_
          show WGo _ _ _ _ _ _ _ _ T347 (mkF m 127 #[.val (.ref a1), .val (.ref a113), .val (.ref a120), .val (.ref a127), .val (.ref a153), .val (.ref a158), .val (.ref a163), .val (.int (E i172)), .val (.int (E z340)), .val (.int (E i174)), .val (.int (E 65)), u190, u191, u192, u193, u194, u195] [])
          obtain ⟨Kx127, eKx127⟩ : ∃ K : Nat → Nat → Nat → Nat → Nat → Nat → Nat → Nat → Nat → Nat → Nat → Nat → Nat → Nat → Nat → Nat → Nat → Option Rt, K = (fun i355 i356 i357 A358 A359 A360 A361 A362 A363 A364 A365 A366 A367 A368 A369 A370 A371 => addN i174 65 fun z378 => (gv75 i355 i356 z378 A358 A359 A360 A361 A362 A363 A364 A365 A366 A367 A368 A369 A370 A371)) := ⟨_, rfl⟩
          rw [← eKx127] at hf
          have hK127 : ∀ (T351 : State) (h352 : Heap) (u372 : Slot) (u373 : Slot) (u374 : Slot) (u375 : Slot) (u376 : Slot) (u377 : Slot) (i355 : Nat) (i356 : Nat) (i357 : Nat) (A358 : Nat) (A359 : Nat) (A360 : Nat) (A361 : Nat) (A362 : Nat) (A363 : Nat) (A364 : Nat) (A365 : Nat) (A366 : Nat) (A367 : Nat) (A368 : Nat) (A369 : Nat) (A370 : Nat) (A371 : Nat), WSt p l e R_Se s m #[(.ref a1)] below meth c Z n0 T351 h352 (6) (60) → One u372 → One u373 → One u374 → One u375 → One u376 → One u377 → HS Z a0 n0 h0 [a1, a2, aV, aF, aE, aN, rp, r0, r1, r2, r3, r4, r5, r6, r7] h352 [ob a1 cA F, ob a2 cE G, ia aV 70 V1, ia aF nf V2, ia aE 70 V3, ia aN 70 V4, ia rp 67 V5, ia r0 nn A358, ia r1 nn A359, ia r2 nn A360, ia r3 nn A361, ia r4 nn A362, ia r5 nn A363, ia r6 nn A364, ia r7 nn A365, ia a113 nn A366, ia a120 nn A367, ia a127 nn A368, ia a153 y152 A369, ia a158 y152 A370, ia a163 y152 A371] → Kx127 i355 i356 i357 A358 A359 A360 A361 A362 A363 A364 A365 A366 A367 A368 A369 A370 A371 = some r → WGo p e below s n0 (QSe Z a0 n0 h0 a1 a2 aV aF aE aN rp r0 r1 r2 r3 r4 r5 r6 r7 F G nn nf hc V1 V2 V3 V4 V5 A0 A1 A2 A3 A4 A5 A6 A7 Kf r) R_Se.cells R_Se.slots T351 (mkF m 408 #[.val (.ref a1), .val (.ref a113), .val (.ref a120), .val (.ref a127), .val (.ref a153), .val (.ref a158), .val (.ref a163), .val (.int (E i355)), .val (.int (E i356)), .val (.int (E i174)), .val (.int (E i357)), u372, u373, u374, u375, u376, u377] []) := by
            intro T351 h352 u372 u373 u374 u375 u376 u377 i355 i356 i357 A358 A359 A360 A361 A362 A363 A364 A365 A366 A367 A368 A369 A370 A371 S353 hu372 hu373 hu374 hu375 hu376 hu377 d354 hf
            rw [eKx127] at hf
            show WGo _ _ _ _ _ _ _ _ T351 (mkF m 408 #[.val (.ref a1), .val (.ref a113), .val (.ref a120), .val (.ref a127), .val (.ref a153), .val (.ref a158), .val (.ref a163), .val (.int (E i355)), .val (.int (E i356)), .val (.int (E i174)), .val (.int (E i357)), u372, u373, u374, u375, u376, u377] [])
            refine w_incN S353 rfl (hb hby e13_408) (y := 65) (by decide) rfl (l1 := fun z0 => #[.val (.ref a1), .val (.ref a113), .val (.ref a120), .val (.ref a127), .val (.ref a153), .val (.ref a158), .val (.ref a163), .val (.int (E i355)), .val (.int (E i356)), .val (.int (E z0)), .val (.int (E i357)), u372, u373, u374, u375, u376, u377]) (fun _ => rfl) (fun _ => rfl) hf ?_
            intro z378 hf
            show WGo _ _ _ _ _ _ _ _ T351 (mkF m 411 #[.val (.ref a1), .val (.ref a113), .val (.ref a120), .val (.ref a127), .val (.ref a153), .val (.ref a158), .val (.ref a163), .val (.int (E i355)), .val (.int (E i356)), .val (.int (E z378)), .val (.int (E i357)), u372, u373, u374, u375, u376, u377] [])
            refine WGo.st (fun _ q => XS.goto S353.here hx rfl (pc0 := 411) (pc' := 75) rfl (hb hby e13_411) (by decide) (by decide) q) ?_
            show WGo _ _ _ _ _ _ _ _ T351 (mkF m 75 #[.val (.ref a1), .val (.ref a113), .val (.ref a120), .val (.ref a127), .val (.ref a153), .val (.ref a158), .val (.ref a163), .val (.int (E i355)), .val (.int (E i356)), .val (.int (E z378)), .val (.int (E i357)), u372, u373, u374, u375, u376, u377] [])
            exact ih T351 h352 (.val (.int (E i357))) u372 u373 u374 u375 u376 u377 i355 i356 z378 A358 A359 A360 A361 A362 A363 A364 A365 A366 A367 A368 A369 A370 A371 S353 (One.val rfl) hu372 hu373 hu374 hu375 hu376 hu377 d354  hf
          have hL127 : ∀ (T351 : State) (h352 : Heap) (u372 : Slot) (u373 : Slot) (u374 : Slot) (u375 : Slot) (u376 : Slot) (u377 : Slot) (i355 : Nat) (i356 : Nat) (i357 : Nat) (A358 : Nat) (A359 : Nat) (A360 : Nat) (A361 : Nat) (A362 : Nat) (A363 : Nat) (A364 : Nat) (A365 : Nat) (A366 : Nat) (A367 : Nat) (A368 : Nat) (A369 : Nat) (A370 : Nat) (A371 : Nat), WSt p l e R_Se s m #[(.ref a1)] below meth c Z n0 T351 h352 (6) (60) → One u372 → One u373 → One u374 → One u375 → One u376 → One u377 → HS Z a0 n0 h0 [a1, a2, aV, aF, aE, aN, rp, r0, r1, r2, r3, r4, r5, r6, r7] h352 [ob a1 cA F, ob a2 cE G, ia aV 70 V1, ia aF nf V2, ia aE 70 V3, ia aN 70 V4, ia rp 67 V5, ia r0 nn A358, ia r1 nn A359, ia r2 nn A360, ia r3 nn A361, ia r4 nn A362, ia r5 nn A363, ia r6 nn A364, ia r7 nn A365, ia a113 nn A366, ia a120 nn A367, ia a127 nn A368, ia a153 y152 A369, ia a158 y152 A370, ia a163 y152 A371] → fSe_L127 nn nf hc V2 V3 V4 V5 y152 Kx127 i355 i356 i357 A358 A359 A360 A361 A362 A363 A364 A365 A366 A367 A368 A369 A370 A371 = some r → WGo p e below s n0 (QSe Z a0 n0 h0 a1 a2 aV aF aE aN rp r0 r1 r2 r3 r4 r5 r6 r7 F G nn nf hc V1 V2 V3 V4 V5 A0 A1 A2 A3 A4 A5 A6 A7 Kf r) R_Se.cells R_Se.slots T351 (mkF m 127 #[.val (.ref a1), .val (.ref a113), .val (.ref a120), .val (.ref a127), .val (.ref a153), .val (.ref a158), .val (.ref a163), .val (.int (E i355)), .val (.int (E i356)), .val (.int (E i174)), .val (.int (E i357)), u372, u373, u374, u375, u376, u377] []) := by
            refine it32_ind (F := fSe_L127b nn nf hc V2 V3 V4 V5 y152 Kx127) (P := fun (gv127 : Nat → Nat → Nat → Nat → Nat → Nat → Nat → Nat → Nat → Nat → Nat → Nat → Nat → Nat → Nat → Nat → Nat → Option Rt) => ∀ (T351 : State) (h352 : Heap) (u372 : Slot) (u373 : Slot) (u374 : Slot) (u375 : Slot) (u376 : Slot) (u377 : Slot) (i355 : Nat) (i356 : Nat) (i357 : Nat) (A358 : Nat) (A359 : Nat) (A360 : Nat) (A361 : Nat) (A362 : Nat) (A363 : Nat) (A364 : Nat) (A365 : Nat) (A366 : Nat) (A367 : Nat) (A368 : Nat) (A369 : Nat) (A370 : Nat) (A371 : Nat), WSt p l e R_Se s m #[(.ref a1)] below meth c Z n0 T351 h352 (6) (60) → One u372 → One u373 → One u374 → One u375 → One u376 → One u377 → HS Z a0 n0 h0 [a1, a2, aV, aF, aE, aN, rp, r0, r1, r2, r3, r4, r5, r6, r7] h352 [ob a1 cA F, ob a2 cE G, ia aV 70 V1, ia aF nf V2, ia aE 70 V3, ia aN 70 V4, ia rp 67 V5, ia r0 nn A358, ia r1 nn A359, ia r2 nn A360, ia r3 nn A361, ia r4 nn A362, ia r5 nn A363, ia r6 nn A364, ia r7 nn A365, ia a113 nn A366, ia a120 nn A367, ia a127 nn A368, ia a153 y152 A369, ia a158 y152 A370, ia a163 y152 A371] → gv127 i355 i356 i357 A358 A359 A360 A361 A362 A363 A364 A365 A366 A367 A368 A369 A370 A371 = some r → WGo p e below s n0 (QSe Z a0 n0 h0 a1 a2 aV aF aE aN rp r0 r1 r2 r3 r4 r5 r6 r7 F G nn nf hc V1 V2 V3 V4 V5 A0 A1 A2 A3 A4 A5 A6 A7 Kf r) R_Se.cells R_Se.slots T351 (mkF m 127 #[.val (.ref a1), .val (.ref a113), .val (.ref a120), .val (.ref a127), .val (.ref a153), .val (.ref a158), .val (.ref a163), .val (.int (E i355)), .val (.int (E i356)), .val (.int (E i174)), .val (.int (E i357)), u372, u373, u374, u375, u376, u377] [])) ?_ ?_
            · intro T351 h352 u372 u373 u374 u375 u376 u377 i355 i356 i357 A358 A359 A360 A361 A362 A363 A364 A365 A366 A367 A368 A369 A370 A371 S353 hu372 hu373 hu374 hu375 hu376 hu377 d354 hf
              cases (show (none : Option _) = some r from hf)
            · intro gv127 ih T351 h352 u372 u373 u374 u375 u376 u377 i355 i356 i357 A358 A359 A360 A361 A362 A363 A364 A365 A366 A367 A368 A369 A370 A371 S353 hu372 hu373 hu374 hu375 hu376 hu377 d354 hf
              rw [fSe_L127b] at hf
              show WGo _ _ _ _ _ _ _ _ T351 (mkF m 127 #[.val (.ref a1), .val (.ref a113), .val (.ref a120), .val (.ref a127), .val (.ref a153), .val (.ref a158), .val (.ref a163), .val (.int (E i355)), .val (.int (E i356)), .val (.int (E i174)), .val (.int (E i357)), u372, u373, u374, u375, u376, u377] [])
              refine WGo.st (fun _ q => XS.iload S353.here hx rfl (hb hby e13_127) rfl q) ?_
              rcases ltN_some hf with ⟨c129, hf⟩ | ⟨c129, hf⟩
              · refine WGo.st (fun _ q => XS.ifNo S353.here hx rfl (hb hby e13_129) rfl ((if0E _ _).trans (tlt c129).2.2.2) q) ?_
                show WGo _ _ _ _ _ _ _ _ T351 (mkF m 132 #[.val (.ref a1), .val (.ref a113), .val (.ref a120), .val (.ref a127), .val (.ref a153), .val (.ref a158), .val (.ref a163), .val (.int (E i355)), .val (.int (E i356)), .val (.int (E i174)), .val (.int (E i357)), u372, u373, u374, u375, u376, u377] [])
                refine WGo.st (fun _ q => XS.aloadN S353.here hx rfl (hb hby e13_132) rfl rfl q) ?_
                refine WGo.st (fun _ q => XS.iload S353.here hx rfl (hb hby e13_133) rfl q) ?_
                refine WGo.st (fun _ q => XS.iconst S353.here hx rfl (hb hby e13_135) q) ?_
                refine w_subN S353 rfl (hb hby e13_136) rfl hf ?_
                intro z379 hf
                show WGo _ _ _ _ _ _ _ _ T351 (mkF m 137 #[.val (.ref a1), .val (.ref a113), .val (.ref a120), .val (.ref a127), .val (.ref a153), .val (.ref a158), .val (.ref a163), .val (.int (E i355)), .val (.int (E i356)), .val (.int (E i174)), .val (.int (E i357)), u372, u373, u374, u375, u376, u377] [(.int (E z379)), (.ref a113)])
                refine w_ald S353 d354 (i := 15) rfl rfl (hb hby e13_137) rfl hf ?_
                intro x380 hf
                show WGo _ _ _ _ _ _ _ _ T351 (mkF m 138 #[.val (.ref a1), .val (.ref a113), .val (.ref a120), .val (.ref a127), .val (.ref a153), .val (.ref a158), .val (.ref a163), .val (.int (E i355)), .val (.int (E i356)), .val (.int (E i174)), .val (.int (E i357)), u372, u373, u374, u375, u376, u377] [(.int (E x380))])
                refine WGo.st (fun _ q => XS.istoreS S353.here hx rfl (hb hby e13_138) rfl rfl hu372 q) ?_
                show WGo _ _ _ _ _ _ _ _ T351 (mkF m 140 #[.val (.ref a1), .val (.ref a113), .val (.ref a120), .val (.ref a127), .val (.ref a153), .val (.ref a158), .val (.ref a163), .val (.int (E i355)), .val (.int (E i356)), .val (.int (E i174)), .val (.int (E i357)), .val (.int (E x380)), u373, u374, u375, u376, u377] [])
                refine WGo.st (fun _ q => XS.aloadN S353.here hx rfl (hb hby e13_140) rfl rfl q) ?_
                refine WGo.st (fun _ q => XS.iload S353.here hx rfl (hb hby e13_141) rfl q) ?_
                refine WGo.st (fun _ q => XS.iconst S353.here hx rfl (hb hby e13_143) q) ?_
                refine w_subN S353 rfl (hb hby e13_144) rfl hf ?_
                intro z381 hf
                show WGo _ _ _ _ _ _ _ _ T351 (mkF m 145 #[.val (.ref a1), .val (.ref a113), .val (.ref a120), .val (.ref a127), .val (.ref a153), .val (.ref a158), .val (.ref a163), .val (.int (E i355)), .val (.int (E i356)), .val (.int (E i174)), .val (.int (E i357)), .val (.int (E x380)), u373, u374, u375, u376, u377] [(.int (E z381)), (.ref a120)])
                refine w_ald S353 d354 (i := 16) rfl rfl (hb hby e13_145) rfl hf ?_
                intro x382 hf
                show WGo _ _ _ _ _ _ _ _ T351 (mkF m 146 #[.val (.ref a1), .val (.ref a113), .val (.ref a120), .val (.ref a127), .val (.ref a153), .val (.ref a158), .val (.ref a163), .val (.int (E i355)), .val (.int (E i356)), .val (.int (E i174)), .val (.int (E i357)), .val (.int (E x380)), u373, u374, u375, u376, u377] [(.int (E x382))])
                refine WGo.st (fun _ q => XS.istoreS S353.here hx rfl (hb hby e13_146) rfl rfl hu373 q) ?_
                show WGo _ _ _ _ _ _ _ _ T351 (mkF m 148 #[.val (.ref a1), .val (.ref a113), .val (.ref a120), .val (.ref a127), .val (.ref a153), .val (.ref a158), .val (.ref a163), .val (.int (E i355)), .val (.int (E i356)), .val (.int (E i174)), .val (.int (E i357)), .val (.int (E x380)), .val (.int (E x382)), u374, u375, u376, u377] [])
                refine WGo.st (fun _ q => XS.aloadN S353.here hx rfl (hb hby e13_148) rfl rfl q) ?_
                refine WGo.st (fun _ q => XS.iload S353.here hx rfl (hb hby e13_149) rfl q) ?_
                refine WGo.st (fun _ q => XS.iconst S353.here hx rfl (hb hby e13_151) q) ?_
                refine w_subN S353 rfl (hb hby e13_152) rfl hf ?_
                intro z383 hf
                show WGo _ _ _ _ _ _ _ _ T351 (mkF m 153 #[.val (.ref a1), .val (.ref a113), .val (.ref a120), .val (.ref a127), .val (.ref a153), .val (.ref a158), .val (.ref a163), .val (.int (E i355)), .val (.int (E i356)), .val (.int (E i174)), .val (.int (E i357)), .val (.int (E x380)), .val (.int (E x382)), u374, u375, u376, u377] [(.int (E z383)), (.ref a127)])
                refine w_ald S353 d354 (i := 17) rfl rfl (hb hby e13_153) rfl hf ?_
                intro x384 hf
                show WGo _ _ _ _ _ _ _ _ T351 (mkF m 154 #[.val (.ref a1), .val (.ref a113), .val (.ref a120), .val (.ref a127), .val (.ref a153), .val (.ref a158), .val (.ref a163), .val (.int (E i355)), .val (.int (E i356)), .val (.int (E i174)), .val (.int (E i357)), .val (.int (E x380)), .val (.int (E x382)), u374, u375, u376, u377] [(.int (E x384))])
                refine WGo.st (fun _ q => XS.istoreS S353.here hx rfl (hb hby e13_154) rfl rfl hu374 q) ?_
                show WGo _ _ _ _ _ _ _ _ T351 (mkF m 156 #[.val (.ref a1), .val (.ref a113), .val (.ref a120), .val (.ref a127), .val (.ref a153), .val (.ref a158), .val (.ref a163), .val (.int (E i355)), .val (.int (E i356)), .val (.int (E i174)), .val (.int (E i357)), .val (.int (E x380)), .val (.int (E x382)), .val (.int (E x384)), u375, u376, u377] [])
                refine WGo.st (fun _ q => XS.iload S353.here hx rfl (hb hby e13_156) rfl q) ?_
                refine WGo.st (fun _ q => XS.aloadN S353.here hx rfl (hb hby e13_158) rfl rfl q) ?_
                refine w_agf S353 d354 (i := 0) (fi := 3) hown (hwi hw 39 rfl) rfl hF3 rfl rfl (hb hby e13_159) ?_
                intro T385 S386
                show WGo _ _ _ _ _ _ _ _ T385 (mkF m 162 #[.val (.ref a1), .val (.ref a113), .val (.ref a120), .val (.ref a127), .val (.ref a153), .val (.ref a158), .val (.ref a163), .val (.int (E i355)), .val (.int (E i356)), .val (.int (E i174)), .val (.int (E i357)), .val (.int (E x380)), .val (.int (E x382)), .val (.int (E x384)), u375, u376, u377] [(.ref a2), (.int (E x384))])
                refine WGo.st (fun _ q => XS.iload S386.here hx rfl (hb hby e13_162) rfl q) ?_
                refine w_virtual S386 (y := (⟨"com/example/ookayama/ookayama/EdgeEnds", "degree", "(I)I"⟩ : MethodName)) hown (hwi hw 60 rfl) (hwi hw 61 rfl) (hwi hw 63 rfl) (hwi hw 62 rfl) (hwi hw 14 rfl) (hwi hw 64 rfl) (by decide) (HS.obj d354 (i := 1) rfl) (rm_Dg l Z a0 hw n0 h352 a2 aF (G) nf V2 x380 S386.ge (hG1) (HS.pw d354 [1, 3] (by decide) rfl rfl) _ _ hf) (W := 1) (by decide) (by decide) (by decide) (by decide) rfl (by rw [hml]; rfl) (argsL := [(.int (E x380))]) (rest := [(.int (E x384))]) (ps := [.int]) (rt := (some .int)) (by decide) rfl rfl rfl (by show 2 * 0 + _ ≤ _; exact Nat.le_of_eq rfl) (hb hby e13_164) ?_
                intro T387 h389 w390 S388 q391
                obtain ⟨y394, rfl, d392, hf⟩ := q391
                have d393 : HS Z a0 n0 h0 [a1, a2, aV, aF, aE, aN, rp, r0, r1, r2, r3, r4, r5, r6, r7] h389 [ob a1 cA F, ob a2 cE G, ia aV 70 V1, ia aF nf V2, ia aE 70 V3, ia aN 70 V4, ia rp 67 V5, ia r0 nn A358, ia r1 nn A359, ia r2 nn A360, ia r3 nn A361, ia r4 nn A362, ia r5 nn A363, ia r6 nn A364, ia r7 nn A365, ia a113 nn A366, ia a120 nn A367, ia a127 nn A368, ia a153 y152 A369, ia a158 y152 A370, ia a163 y152 A371] := HS.call d354 [1, 3] [ob a2 cE G, ia aF nf V2] [ob a2 cE G, ia aF nf V2] [] (by decide) rfl rfl d392
                show WGo _ _ _ _ _ _ _ _ T387 (mkF m 167 #[.val (.ref a1), .val (.ref a113), .val (.ref a120), .val (.ref a127), .val (.ref a153), .val (.ref a158), .val (.ref a163), .val (.int (E i355)), .val (.int (E i356)), .val (.int (E i174)), .val (.int (E i357)), .val (.int (E x380)), .val (.int (E x382)), .val (.int (E x384)), u375, u376, u377] [(.int (E y394)), (.int (E x384))])
                rcases eqN_some hf with ⟨c167, hf⟩ | ⟨c167, hf⟩
                · refine WGo.st (fun _ q => XS.icmpNo S388.here hx rfl (hb hby e13_167) rfl (teq c167).2 q) ?_
                  show WGo _ _ _ _ _ _ _ _ T387 (mkF m 170 #[.val (.ref a1), .val (.ref a113), .val (.ref a120), .val (.ref a127), .val (.ref a153), .val (.ref a158), .val (.ref a163), .val (.int (E i355)), .val (.int (E i356)), .val (.int (E i174)), .val (.int (E i357)), .val (.int (E x380)), .val (.int (E x382)), .val (.int (E x384)), u375, u376, u377] [])
                  refine w_incN S388 rfl (hb hby e13_170) (y := 63) (by decide) rfl (l1 := fun z0 => #[.val (.ref a1), .val (.ref a113), .val (.ref a120), .val (.ref a127), .val (.ref a153), .val (.ref a158), .val (.ref a163), .val (.int (E i355)), .val (.int (E i356)), .val (.int (E i174)), .val (.int (E z0)), .val (.int (E x380)), .val (.int (E x382)), .val (.int (E x384)), u375, u376, u377]) (fun _ => rfl) (fun _ => rfl) hf ?_
                  intro z395 hf
                  show WGo _ _ _ _ _ _ _ _ T387 (mkF m 173 #[.val (.ref a1), .val (.ref a113), .val (.ref a120), .val (.ref a127), .val (.ref a153), .val (.ref a158), .val (.ref a163), .val (.int (E i355)), .val (.int (E i356)), .val (.int (E i174)), .val (.int (E z395)), .val (.int (E x380)), .val (.int (E x382)), .val (.int (E x384)), u375, u376, u377] [])
                  refine WGo.st (fun _ q => XS.goto S388.here hx rfl (pc0 := 173) (pc' := 127) rfl (hb hby e13_173) (by decide) (by decide) q) ?_
                  show WGo _ _ _ _ _ _ _ _ T387 (mkF m 127 #[.val (.ref a1), .val (.ref a113), .val (.ref a120), .val (.ref a127), .val (.ref a153), .val (.ref a158), .val (.ref a163), .val (.int (E i355)), .val (.int (E i356)), .val (.int (E i174)), .val (.int (E z395)), .val (.int (E x380)), .val (.int (E x382)), .val (.int (E x384)), u375, u376, u377] [])
                  exact ih T387 h389 (.val (.int (E x380))) (.val (.int (E x382))) (.val (.int (E x384))) u375 u376 u377 i355 i356 z395 A358 A359 A360 A361 A362 A363 A364 A365 A366 A367 A368 A369 A370 A371 S388 (One.val rfl) (One.val rfl) (One.val rfl) hu375 hu376 hu377 d393  hf
                · refine WGo.st (fun _ q => XS.icmpYes S388.here hx rfl (pc0 := 167) (pc' := 176) rfl (hb hby e13_167) rfl (feq c167).2 (by decide) (by decide) q) ?_
                  show WGo _ _ _ _ _ _ _ _ T387 (mkF m 176 #[.val (.ref a1), .val (.ref a113), .val (.ref a120), .val (.ref a127), .val (.ref a153), .val (.ref a158), .val (.ref a163), .val (.int (E i355)), .val (.int (E i356)), .val (.int (E i174)), .val (.int (E i357)), .val (.int (E x380)), .val (.int (E x382)), .val (.int (E x384)), u375, u376, u377] [])
                  refine WGo.st (fun _ q => XS.aloadN S388.here hx rfl (hb hby e13_176) rfl rfl q) ?_
                  refine WGo.st (fun _ q => XS.iload S388.here hx rfl (hb hby e13_177) rfl q) ?_
                  refine WGo.st (fun _ q => XS.iconst S388.here hx rfl (hb hby e13_179) q) ?_
                  refine w_subN S388 rfl (hb hby e13_180) rfl hf ?_
                  intro z396 hf
                  show WGo _ _ _ _ _ _ _ _ T387 (mkF m 181 #[.val (.ref a1), .val (.ref a113), .val (.ref a120), .val (.ref a127), .val (.ref a153), .val (.ref a158), .val (.ref a163), .val (.int (E i355)), .val (.int (E i356)), .val (.int (E i174)), .val (.int (E i357)), .val (.int (E x380)), .val (.int (E x382)), .val (.int (E x384)), u375, u376, u377] [(.int (E z396)), (.ref a127)])
                  refine WGo.st (fun _ q => XS.iload S388.here hx rfl (hb hby e13_181) rfl q) ?_
                  refine WGo.st (fun _ q => XS.iconst S388.here hx rfl (hb hby e13_183) q) ?_
                  refine w_addN S388 rfl (hb hby e13_184) rfl hf ?_
                  intro z397 hf
                  show WGo _ _ _ _ _ _ _ _ T387 (mkF m 185 #[.val (.ref a1), .val (.ref a113), .val (.ref a120), .val (.ref a127), .val (.ref a153), .val (.ref a158), .val (.ref a163), .val (.int (E i355)), .val (.int (E i356)), .val (.int (E i174)), .val (.int (E i357)), .val (.int (E x380)), .val (.int (E x382)), .val (.int (E x384)), u375, u376, u377] [(.int (E z397)), (.int (E z396)), (.ref a127)])
                  refine w_ast S388 d393 (i := 17) rfl rfl (hb hby e13_185) rfl hf ?_
                  intro T399 h400 A398 S401 d402 hf
                  show WGo _ _ _ _ _ _ _ _ T399 (mkF m 186 #[.val (.ref a1), .val (.ref a113), .val (.ref a120), .val (.ref a127), .val (.ref a153), .val (.ref a158), .val (.ref a163), .val (.int (E i355)), .val (.int (E i356)), .val (.int (E i174)), .val (.int (E i357)), .val (.int (E x380)), .val (.int (E x382)), .val (.int (E x384)), u375, u376, u377] [])
                  refine WGo.st (fun _ q => XS.aloadN S401.here hx rfl (hb hby e13_186) rfl rfl q) ?_
                  refine w_agf S401 d402 (i := 0) (fi := 3) hown (hwi hw 39 rfl) rfl hF3 rfl rfl (hb hby e13_187) ?_
                  intro T403 S404
                  show WGo _ _ _ _ _ _ _ _ T403 (mkF m 190 #[.val (.ref a1), .val (.ref a113), .val (.ref a120), .val (.ref a127), .val (.ref a153), .val (.ref a158), .val (.ref a163), .val (.int (E i355)), .val (.int (E i356)), .val (.int (E i174)), .val (.int (E i357)), .val (.int (E x380)), .val (.int (E x382)), .val (.int (E x384)), u375, u376, u377] [(.ref a2)])
                  refine WGo.st (fun _ q => XS.iload S404.here hx rfl (hb hby e13_190) rfl q) ?_
                  refine WGo.st (fun _ q => XS.iload S404.here hx rfl (hb hby e13_192) rfl q) ?_
                  refine w_virtual S404 (y := (⟨"com/example/ookayama/ookayama/EdgeEnds", "endAt", "(II)I"⟩ : MethodName)) hown (hwi hw 65 rfl) (hwi hw 66 rfl) (hwi hw 68 rfl) (hwi hw 67 rfl) (hwi hw 14 rfl) (hwi hw 69 rfl) (by decide) (HS.obj d402 (i := 1) rfl) (rm_Ea l Z a0 hw n0 h400 a2 aF aE (G) nf V2 V3 x380 x384 S404.ge (hG1) (hG2) (HS.pw d402 [1, 3, 4] (by decide) rfl rfl) _ _ hf) (W := 0) (by decide) (by decide) (by decide) (by decide) rfl (by rw [hml]; rfl) (argsL := [(.int (E x380)), (.int (E x384))]) (rest := []) (ps := [.int, .int]) (rt := (some .int)) (by decide) rfl rfl rfl (by show 2 * 0 + _ ≤ _; exact Nat.le_of_eq rfl) (hb hby e13_194) ?_
                  intro T405 h407 w408 S406 q409
                  obtain ⟨y412, rfl, d410, hf⟩ := q409
                  have d411 : HS Z a0 n0 h0 [a1, a2, aV, aF, aE, aN, rp, r0, r1, r2, r3, r4, r5, r6, r7] h407 [ob a1 cA F, ob a2 cE G, ia aV 70 V1, ia aF nf V2, ia aE 70 V3, ia aN 70 V4, ia rp 67 V5, ia r0 nn A358, ia r1 nn A359, ia r2 nn A360, ia r3 nn A361, ia r4 nn A362, ia r5 nn A363, ia r6 nn A364, ia r7 nn A365, ia a113 nn A366, ia a120 nn A367, ia a127 nn A398, ia a153 y152 A369, ia a158 y152 A370, ia a163 y152 A371] := HS.call d402 [1, 3, 4] [ob a2 cE G, ia aF nf V2, ia aE 70 V3] [ob a2 cE G, ia aF nf V2, ia aE 70 V3] [] (by decide) rfl rfl d410
                  show WGo _ _ _ _ _ _ _ _ T405 (mkF m 197 #[.val (.ref a1), .val (.ref a113), .val (.ref a120), .val (.ref a127), .val (.ref a153), .val (.ref a158), .val (.ref a163), .val (.int (E i355)), .val (.int (E i356)), .val (.int (E i174)), .val (.int (E i357)), .val (.int (E x380)), .val (.int (E x382)), .val (.int (E x384)), u375, u376, u377] [(.int (E y412))])
                  refine WGo.st (fun _ q => XS.istoreS S406.here hx rfl (hb hby e13_197) rfl rfl hu375 q) ?_
                  show WGo _ _ _ _ _ _ _ _ T405 (mkF m 199 #[.val (.ref a1), .val (.ref a113), .val (.ref a120), .val (.ref a127), .val (.ref a153), .val (.ref a158), .val (.ref a163), .val (.int (E i355)), .val (.int (E i356)), .val (.int (E i174)), .val (.int (E i357)), .val (.int (E x380)), .val (.int (E x382)), .val (.int (E x384)), .val (.int (E y412)), u376, u377] [])
                  refine WGo.st (fun _ q => XS.aloadN S406.here hx rfl (hb hby e13_199) rfl rfl q) ?_
                  refine w_agf S406 d411 (i := 0) (fi := 6) hown (hwi hw 81 rfl) rfl hF6 rfl rfl (hb hby e13_200) ?_
                  intro T413 S414
                  show WGo _ _ _ _ _ _ _ _ T413 (mkF m 203 #[.val (.ref a1), .val (.ref a113), .val (.ref a120), .val (.ref a127), .val (.ref a153), .val (.ref a158), .val (.ref a163), .val (.int (E i355)), .val (.int (E i356)), .val (.int (E i174)), .val (.int (E i357)), .val (.int (E x380)), .val (.int (E x382)), .val (.int (E x384)), .val (.int (E y412)), u376, u377] [(.int (E hc))])
                  rcases eqN_some hf with ⟨c203, hf⟩ | ⟨c203, hf⟩
                  · refine WGo.st (fun _ q => XS.ifYes S414.here hx rfl (pc0 := 203) (pc' := 220) rfl (hb hby e13_203) rfl ((if0E _ _).trans (teq c203).1) (by decide) (by decide) q) ?_
                    show WGo _ _ _ _ _ _ _ _ T413 (mkF m 220 #[.val (.ref a1), .val (.ref a113), .val (.ref a120), .val (.ref a127), .val (.ref a153), .val (.ref a158), .val (.ref a163), .val (.int (E i355)), .val (.int (E i356)), .val (.int (E i174)), .val (.int (E i357)), .val (.int (E x380)), .val (.int (E x382)), .val (.int (E x384)), .val (.int (E y412)), u376, u377] [])
                    refine WGo.st (fun _ q => XS.aloadN S414.here hx rfl (hb hby e13_220) rfl rfl q) ?_
                    refine w_agf S414 d411 (i := 0) (fi := 3) hown (hwi hw 39 rfl) rfl hF3 rfl rfl (hb hby e13_221) ?_
                    intro T415 S416
                    show WGo _ _ _ _ _ _ _ _ T415 (mkF m 224 #[.val (.ref a1), .val (.ref a113), .val (.ref a120), .val (.ref a127), .val (.ref a153), .val (.ref a158), .val (.ref a163), .val (.int (E i355)), .val (.int (E i356)), .val (.int (E i174)), .val (.int (E i357)), .val (.int (E x380)), .val (.int (E x382)), .val (.int (E x384)), .val (.int (E y412)), u376, u377] [(.ref a2)])
                    refine WGo.st (fun _ q => XS.iload S416.here hx rfl (hb hby e13_224) rfl q) ?_
                    refine WGo.st (fun _ q => XS.iload S416.here hx rfl (hb hby e13_226) rfl q) ?_
                    refine w_virtual S416 (y := (⟨"com/example/ookayama/ookayama/EdgeEnds", "neighbour", "(II)I"⟩ : MethodName)) hown (hwi hw 71 rfl) (hwi hw 72 rfl) (hwi hw 74 rfl) (hwi hw 73 rfl) (hwi hw 14 rfl) (hwi hw 75 rfl) (by decide) (HS.obj d411 (i := 1) rfl) (rm_Nb l Z a0 hw n0 h407 a2 aF aN (G) nf V2 V4 x380 x384 S416.ge (hG1) (hG3) (HS.pw d411 [1, 3, 5] (by decide) rfl rfl) _ _ hf) (W := 0) (by decide) (by decide) (by decide) (by decide) rfl (by rw [hml]; rfl) (argsL := [(.int (E x380)), (.int (E x384))]) (rest := []) (ps := [.int, .int]) (rt := (some .int)) (by decide) rfl rfl rfl (by show 2 * 0 + _ ≤ _; exact Nat.le_of_eq rfl) (hb hby e13_228) ?_
                    intro T417 h419 w420 S418 q421
                    obtain ⟨y424, rfl, d422, hf⟩ := q421
                    have d423 : HS Z a0 n0 h0 [a1, a2, aV, aF, aE, aN, rp, r0, r1, r2, r3, r4, r5, r6, r7] h419 [ob a1 cA F, ob a2 cE G, ia aV 70 V1, ia aF nf V2, ia aE 70 V3, ia aN 70 V4, ia rp 67 V5, ia r0 nn A358, ia r1 nn A359, ia r2 nn A360, ia r3 nn A361, ia r4 nn A362, ia r5 nn A363, ia r6 nn A364, ia r7 nn A365, ia a113 nn A366, ia a120 nn A367, ia a127 nn A398, ia a153 y152 A369, ia a158 y152 A370, ia a163 y152 A371] := HS.call d411 [1, 3, 5] [ob a2 cE G, ia aF nf V2, ia aN 70 V4] [ob a2 cE G, ia aF nf V2, ia aN 70 V4] [] (by decide) rfl rfl d422
                    show WGo _ _ _ _ _ _ _ _ T417 (mkF m 231 #[.val (.ref a1), .val (.ref a113), .val (.ref a120), .val (.ref a127), .val (.ref a153), .val (.ref a158), .val (.ref a163), .val (.int (E i355)), .val (.int (E i356)), .val (.int (E i174)), .val (.int (E i357)), .val (.int (E x380)), .val (.int (E x382)), .val (.int (E x384)), .val (.int (E y412)), u376, u377] [(.int (E y424))])
                    refine WGo.st (fun _ q => XS.istoreS S418.here hx rfl (hb hby e13_231) rfl rfl hu376 q) ?_
                    show WGo _ _ _ _ _ _ _ _ T417 (mkF m 233 #[.val (.ref a1), .val (.ref a113), .val (.ref a120), .val (.ref a127), .val (.ref a153), .val (.ref a158), .val (.ref a163), .val (.int (E i355)), .val (.int (E i356)), .val (.int (E i174)), .val (.int (E i357)), .val (.int (E x380)), .val (.int (E x382)), .val (.int (E x384)), .val (.int (E y412)), .val (.int (E y424)), u377] [])
                    refine WGo.st (fun _ q => XS.aloadN S418.here hx rfl (hb hby e13_233) rfl rfl q) ?_
                    refine w_agf S418 d423 (i := 0) (fi := 7) hown (hwi hw 83 rfl) rfl hF7 rfl rfl (hb hby e13_234) ?_
                    intro T425 S426
                    show WGo _ _ _ _ _ _ _ _ T425 (mkF m 237 #[.val (.ref a1), .val (.ref a113), .val (.ref a120), .val (.ref a127), .val (.ref a153), .val (.ref a158), .val (.ref a163), .val (.int (E i355)), .val (.int (E i356)), .val (.int (E i174)), .val (.int (E i357)), .val (.int (E x380)), .val (.int (E x382)), .val (.int (E x384)), .val (.int (E y412)), .val (.int (E y424)), u377] [(.ref r0)])
                    refine WGo.st (fun _ q => XS.iload S426.here hx rfl (hb hby e13_237) rfl q) ?_
                    refine w_ald S426 d423 (i := 7) rfl rfl (hb hby e13_239) rfl hf ?_
                    intro x427 hf
                    show WGo _ _ _ _ _ _ _ _ T425 (mkF m 240 #[.val (.ref a1), .val (.ref a113), .val (.ref a120), .val (.ref a127), .val (.ref a153), .val (.ref a158), .val (.ref a163), .val (.int (E i355)), .val (.int (E i356)), .val (.int (E i174)), .val (.int (E i357)), .val (.int (E x380)), .val (.int (E x382)), .val (.int (E x384)), .val (.int (E y412)), .val (.int (E y424)), u377] [(.int (E x427))])
                    refine WGo.st (fun _ q => XS.istoreS S426.here hx rfl (hb hby e13_240) rfl rfl hu377 q) ?_
                    show WGo _ _ _ _ _ _ _ _ T425 (mkF m 242 #[.val (.ref a1), .val (.ref a113), .val (.ref a120), .val (.ref a127), .val (.ref a153), .val (.ref a158), .val (.ref a163), .val (.int (E i355)), .val (.int (E i356)), .val (.int (E i174)), .val (.int (E i357)), .val (.int (E x380)), .val (.int (E x382)), .val (.int (E x384)), .val (.int (E y412)), .val (.int (E y424)), .val (.int (E x427))] [])
                    refine WGo.st (fun _ q => XS.iload S426.here hx rfl (hb hby e13_242) rfl q) ?_
                    rcases ltN_some hf with ⟨c244, hf⟩ | ⟨c244, hf⟩
                    · refine WGo.st (fun _ q => XS.ifNo S426.here hx rfl (hb hby e13_244) rfl ((if0E _ _).trans (tlt c244).2.1) q) ?_
                      show WGo _ _ _ _ _ _ _ _ T425 (mkF m 247 #[.val (.ref a1), .val (.ref a113), .val (.ref a120), .val (.ref a127), .val (.ref a153), .val (.ref a158), .val (.ref a163), .val (.int (E i355)), .val (.int (E i356)), .val (.int (E i174)), .val (.int (E i357)), .val (.int (E x380)), .val (.int (E x382)), .val (.int (E x384)), .val (.int (E y412)), .val (.int (E y424)), .val (.int (E x427))] [])
                      refine WGo.st (fun _ q => XS.aloadN S426.here hx rfl (hb hby e13_247) rfl rfl q) ?_
                      refine WGo.st (fun _ q => XS.iload S426.here hx rfl (hb hby e13_248) rfl q) ?_
                      refine WGo.st (fun _ q => XS.iload S426.here hx rfl (hb hby e13_250) rfl q) ?_
                      refine WGo.st (fun _ q => XS.iload S426.here hx rfl (hb hby e13_252) rfl q) ?_
                      refine WGo.st (fun _ q => XS.iload S426.here hx rfl (hb hby e13_254) rfl q) ?_
                      show WGo _ _ _ _ _ _ _ _ T425 (mkF m 256 #[.val (.ref a1), .val (.ref a113), .val (.ref a120), .val (.ref a127), .val (.ref a153), .val (.ref a158), .val (.ref a163), .val (.int (E i355)), .val (.int (E i356)), .val (.int (E i174)), .val (.int (E i357)), .val (.int (E x380)), .val (.int (E x382)), .val (.int (E x384)), .val (.int (E y412)), .val (.int (E y424)), .val (.int (E x427))] [(.int (E y412)), (.int (E x382)), (.int (E i356)), (.int (E y424)), (.ref a1)])
                      refine w_private S426 (y := (⟨"com/example/ookayama/ookayama/EdgeAddition", "reach", "(IIII)V"⟩ : MethodName)) (z := (⟨"com/example/ookayama/ookayama/EdgeAddition", "searchRoots", "()[I"⟩ : MethodName)) hown (hwi hw 143 rfl) (hwi hw 144 rfl) (hwi hw 145 rfl) (hwi hw 11 rfl) (hwi hw 146 rfl) (hwi hw 176 rfl) rfl (by decide) (HS.obj d423 (i := 0) rfl) (rm_Re l Z a0 hw n0 h419 a1 r0 r1 r2 r3 r4 r5 r6 r7 (F) nn A358 A359 A360 A361 A362 A363 A364 A365 y424 i356 x382 y412 S426.ge (hF7) (hF8) (hF9) (hF10) (hF11) (hF12) (hF13) (hF14) (HS.pw d423 [0, 7, 8, 9, 10, 11, 12, 13, 14] (by decide) rfl rfl) _ _ hf) (W := 0) (by decide) (by decide) (by decide) (by decide) rfl (by rw [hml]; rfl) (argsL := [(.int (E y424)), (.int (E i356)), (.int (E x382)), (.int (E y412))]) (rest := []) (ps := [.int, .int, .int, .int]) (rt := none) (by decide) rfl rfl rfl (by show 2 * 0 + _ ≤ _; exact Nat.le_of_eq rfl) (hb hby e13_256) ?_
                      intro T428 h430 w431 S429 q432
                      obtain ⟨y435, y436, y437, y438, y439, y440, y441, y442, rfl, d433, hf⟩ := q432
                      have d434 : HS Z a0 n0 h0 [a1, a2, aV, aF, aE, aN, rp, r0, r1, r2, r3, r4, r5, r6, r7] h430 [ob a1 cA F, ob a2 cE G, ia aV 70 V1, ia aF nf V2, ia aE 70 V3, ia aN 70 V4, ia rp 67 V5, ia r0 nn y435, ia r1 nn y436, ia r2 nn y437, ia r3 nn y438, ia r4 nn y439, ia r5 nn y440, ia r6 nn y441, ia r7 nn y442, ia a113 nn A366, ia a120 nn A367, ia a127 nn A398, ia a153 y152 A369, ia a158 y152 A370, ia a163 y152 A371] := HS.call d423 [0, 7, 8, 9, 10, 11, 12, 13, 14] [ob a1 cA F, ia r0 nn A358, ia r1 nn A359, ia r2 nn A360, ia r3 nn A361, ia r4 nn A362, ia r5 nn A363, ia r6 nn A364, ia r7 nn A365] [ob a1 cA F, ia r0 nn y435, ia r1 nn y436, ia r2 nn y437, ia r3 nn y438, ia r4 nn y439, ia r5 nn y440, ia r6 nn y441, ia r7 nn y442] [] (by decide) rfl rfl d433
                      show WGo _ _ _ _ _ _ _ _ T428 (mkF m 259 #[.val (.ref a1), .val (.ref a113), .val (.ref a120), .val (.ref a127), .val (.ref a153), .val (.ref a158), .val (.ref a163), .val (.int (E i355)), .val (.int (E i356)), .val (.int (E i174)), .val (.int (E i357)), .val (.int (E x380)), .val (.int (E x382)), .val (.int (E x384)), .val (.int (E y412)), .val (.int (E y424)), .val (.int (E x427))] [])
                      refine WGo.st (fun _ q => XS.aloadN S429.here hx rfl (hb hby e13_259) rfl rfl q) ?_
                      refine WGo.st (fun _ q => XS.iload S429.here hx rfl (hb hby e13_260) rfl q) ?_
                      refine WGo.st (fun _ q => XS.iload S429.here hx rfl (hb hby e13_262) rfl q) ?_
                      refine w_ast S429 d434 (i := 15) rfl rfl (hb hby e13_264) rfl hf ?_
                      intro T444 h445 A443 S446 d447 hf
                      show WGo _ _ _ _ _ _ _ _ T444 (mkF m 265 #[.val (.ref a1), .val (.ref a113), .val (.ref a120), .val (.ref a127), .val (.ref a153), .val (.ref a158), .val (.ref a163), .val (.int (E i355)), .val (.int (E i356)), .val (.int (E i174)), .val (.int (E i357)), .val (.int (E x380)), .val (.int (E x382)), .val (.int (E x384)), .val (.int (E y412)), .val (.int (E y424)), .val (.int (E x427))] [])
                      refine WGo.st (fun _ q => XS.aloadN S446.here hx rfl (hb hby e13_265) rfl rfl q) ?_
                      refine WGo.st (fun _ q => XS.iload S446.here hx rfl (hb hby e13_266) rfl q) ?_
                      refine WGo.st (fun _ q => XS.iload S446.here hx rfl (hb hby e13_268) rfl q) ?_
                      refine w_incN S446 rfl (hb hby e13_270) (y := 65) (by decide) rfl (l1 := fun z0 => #[.val (.ref a1), .val (.ref a113), .val (.ref a120), .val (.ref a127), .val (.ref a153), .val (.ref a158), .val (.ref a163), .val (.int (E i355)), .val (.int (E z0)), .val (.int (E i174)), .val (.int (E i357)), .val (.int (E x380)), .val (.int (E x382)), .val (.int (E x384)), .val (.int (E y412)), .val (.int (E y424)), .val (.int (E x427))]) (fun _ => rfl) (fun _ => rfl) hf ?_
                      intro z448 hf
                      show WGo _ _ _ _ _ _ _ _ T444 (mkF m 273 #[.val (.ref a1), .val (.ref a113), .val (.ref a120), .val (.ref a127), .val (.ref a153), .val (.ref a158), .val (.ref a163), .val (.int (E i355)), .val (.int (E z448)), .val (.int (E i174)), .val (.int (E i357)), .val (.int (E x380)), .val (.int (E x382)), .val (.int (E x384)), .val (.int (E y412)), .val (.int (E y424)), .val (.int (E x427))] [(.int (E i356)), (.int (E i357)), (.ref a120)])
                      refine w_ast S446 d447 (i := 16) rfl rfl (hb hby e13_273) rfl hf ?_
                      intro T450 h451 A449 S452 d453 hf
                      show WGo _ _ _ _ _ _ _ _ T450 (mkF m 274 #[.val (.ref a1), .val (.ref a113), .val (.ref a120), .val (.ref a127), .val (.ref a153), .val (.ref a158), .val (.ref a163), .val (.int (E i355)), .val (.int (E z448)), .val (.int (E i174)), .val (.int (E i357)), .val (.int (E x380)), .val (.int (E x382)), .val (.int (E x384)), .val (.int (E y412)), .val (.int (E y424)), .val (.int (E x427))] [])
                      refine WGo.st (fun _ q => XS.aloadN S452.here hx rfl (hb hby e13_274) rfl rfl q) ?_
                      refine WGo.st (fun _ q => XS.iload S452.here hx rfl (hb hby e13_275) rfl q) ?_
                      refine w_incN S452 rfl (hb hby e13_277) (y := 65) (by decide) rfl (l1 := fun z0 => #[.val (.ref a1), .val (.ref a113), .val (.ref a120), .val (.ref a127), .val (.ref a153), .val (.ref a158), .val (.ref a163), .val (.int (E i355)), .val (.int (E z448)), .val (.int (E i174)), .val (.int (E z0)), .val (.int (E x380)), .val (.int (E x382)), .val (.int (E x384)), .val (.int (E y412)), .val (.int (E y424)), .val (.int (E x427))]) (fun _ => rfl) (fun _ => rfl) hf ?_
                      intro z454 hf
                      show WGo _ _ _ _ _ _ _ _ T450 (mkF m 280 #[.val (.ref a1), .val (.ref a113), .val (.ref a120), .val (.ref a127), .val (.ref a153), .val (.ref a158), .val (.ref a163), .val (.int (E i355)), .val (.int (E z448)), .val (.int (E i174)), .val (.int (E z454)), .val (.int (E x380)), .val (.int (E x382)), .val (.int (E x384)), .val (.int (E y412)), .val (.int (E y424)), .val (.int (E x427))] [(.int (E i357)), (.ref a127)])
                      refine WGo.st (fun _ q => XS.iconst S452.here hx rfl (hb hby e13_280) q) ?_
                      refine w_ast S452 d453 (i := 17) rfl rfl (hb hby e13_281) rfl hf ?_
                      intro T456 h457 A455 S458 d459 hf
                      show WGo _ _ _ _ _ _ _ _ T456 (mkF m 282 #[.val (.ref a1), .val (.ref a113), .val (.ref a120), .val (.ref a127), .val (.ref a153), .val (.ref a158), .val (.ref a163), .val (.int (E i355)), .val (.int (E z448)), .val (.int (E i174)), .val (.int (E z454)), .val (.int (E x380)), .val (.int (E x382)), .val (.int (E x384)), .val (.int (E y412)), .val (.int (E y424)), .val (.int (E x427))] [])
                      refine WGo.st (fun _ q => XS.goto S458.here hx rfl (pc0 := 282) (pc' := 405) rfl (hb hby e13_282) (by decide) (by decide) q) ?_
                      show WGo _ _ _ _ _ _ _ _ T456 (mkF m 405 #[.val (.ref a1), .val (.ref a113), .val (.ref a120), .val (.ref a127), .val (.ref a153), .val (.ref a158), .val (.ref a163), .val (.int (E i355)), .val (.int (E z448)), .val (.int (E i174)), .val (.int (E z454)), .val (.int (E x380)), .val (.int (E x382)), .val (.int (E x384)), .val (.int (E y412)), .val (.int (E y424)), .val (.int (E x427))] [])
                      refine WGo.st (fun _ q => XS.goto S458.here hx rfl (pc0 := 405) (pc' := 127) rfl (hb hby e13_405) (by decide) (by decide) q) ?_
                      show WGo _ _ _ _ _ _ _ _ T456 (mkF m 127 #[.val (.ref a1), .val (.ref a113), .val (.ref a120), .val (.ref a127), .val (.ref a153), .val (.ref a158), .val (.ref a163), .val (.int (E i355)), .val (.int (E z448)), .val (.int (E i174)), .val (.int (E z454)), .val (.int (E x380)), .val (.int (E x382)), .val (.int (E x384)), .val (.int (E y412)), .val (.int (E y424)), .val (.int (E x427))] [])
                      exact ih T456 h457 (.val (.int (E x380))) (.val (.int (E x382))) (.val (.int (E x384))) (.val (.int (E y412))) (.val (.int (E y424))) (.val (.int (E x427))) i355 z448 z454 y435 y436 y437 y438 y439 y440 y441 y442 A443 A449 A455 A369 A370 A371 S458 (One.val rfl) (One.val rfl) (One.val rfl) (One.val rfl) (One.val rfl) (One.val rfl) d459  hf
                    · refine WGo.st (fun _ q => XS.ifYes S426.here hx rfl (pc0 := 244) (pc' := 285) rfl (hb hby e13_244) rfl ((if0E _ _).trans (flt c244).2.1) (by decide) (by decide) q) ?_
                      show WGo _ _ _ _ _ _ _ _ T425 (mkF m 285 #[.val (.ref a1), .val (.ref a113), .val (.ref a120), .val (.ref a127), .val (.ref a153), .val (.ref a158), .val (.ref a163), .val (.int (E i355)), .val (.int (E i356)), .val (.int (E i174)), .val (.int (E i357)), .val (.int (E x380)), .val (.int (E x382)), .val (.int (E x384)), .val (.int (E y412)), .val (.int (E y424)), .val (.int (E x427))] [])
                      refine WGo.st (fun _ q => XS.iload S426.here hx rfl (hb hby e13_285) rfl q) ?_
                      refine WGo.st (fun _ q => XS.iload S426.here hx rfl (hb hby e13_287) rfl q) ?_
                      rcases ltN_some hf with ⟨c289, hf⟩ | ⟨c289, hf⟩
                      · refine WGo.st (fun _ q => XS.icmpNo S426.here hx rfl (hb hby e13_289) rfl (tlt c289).2.1 q) ?_
                        show WGo _ _ _ _ _ _ _ _ T425 (mkF m 292 #[.val (.ref a1), .val (.ref a113), .val (.ref a120), .val (.ref a127), .val (.ref a153), .val (.ref a158), .val (.ref a163), .val (.int (E i355)), .val (.int (E i356)), .val (.int (E i174)), .val (.int (E i357)), .val (.int (E x380)), .val (.int (E x382)), .val (.int (E x384)), .val (.int (E y412)), .val (.int (E y424)), .val (.int (E x427))] [])
                        refine WGo.st (fun _ q => XS.iload S426.here hx rfl (hb hby e13_292) rfl q) ?_
                        refine WGo.st (fun _ q => XS.aloadN S426.here hx rfl (hb hby e13_294) rfl rfl q) ?_
                        refine w_agf S426 d423 (i := 0) (fi := 10) hown (hwi hw 89 rfl) rfl hF10 rfl rfl (hb hby e13_295) ?_
                        intro T460 S461
                        show WGo _ _ _ _ _ _ _ _ T460 (mkF m 298 #[.val (.ref a1), .val (.ref a113), .val (.ref a120), .val (.ref a127), .val (.ref a153), .val (.ref a158), .val (.ref a163), .val (.int (E i355)), .val (.int (E i356)), .val (.int (E i174)), .val (.int (E i357)), .val (.int (E x380)), .val (.int (E x382)), .val (.int (E x384)), .val (.int (E y412)), .val (.int (E y424)), .val (.int (E x427))] [(.ref r3), (.int (E y412))])
                        refine WGo.st (fun _ q => XS.iload S461.here hx rfl (hb hby e13_298) rfl q) ?_
                        refine w_ald S461 d423 (i := 10) rfl rfl (hb hby e13_300) rfl hf ?_
                        intro x462 hf
                        show WGo _ _ _ _ _ _ _ _ T460 (mkF m 301 #[.val (.ref a1), .val (.ref a113), .val (.ref a120), .val (.ref a127), .val (.ref a153), .val (.ref a158), .val (.ref a163), .val (.int (E i355)), .val (.int (E i356)), .val (.int (E i174)), .val (.int (E i357)), .val (.int (E x380)), .val (.int (E x382)), .val (.int (E x384)), .val (.int (E y412)), .val (.int (E y424)), .val (.int (E x427))] [(.int (E x462)), (.int (E y412))])
                        refine WGo.st (fun _ q => XS.iconst S461.here hx rfl (hb hby e13_301) q) ?_
                        refine w_xorN S461 rfl (hb hby e13_302) rfl hf ?_
                        intro z463 hf
                        show WGo _ _ _ _ _ _ _ _ T460 (mkF m 303 #[.val (.ref a1), .val (.ref a113), .val (.ref a120), .val (.ref a127), .val (.ref a153), .val (.ref a158), .val (.ref a163), .val (.int (E i355)), .val (.int (E i356)), .val (.int (E i174)), .val (.int (E i357)), .val (.int (E x380)), .val (.int (E x382)), .val (.int (E x384)), .val (.int (E y412)), .val (.int (E y424)), .val (.int (E x427))] [(.int (E z463)), (.int (E y412))])
                        rcases eqN_some hf with ⟨c303, hf⟩ | ⟨c303, hf⟩
                        · refine WGo.st (fun _ q => XS.icmpYes S461.here hx rfl (pc0 := 303) (pc' := 405) rfl (hb hby e13_303) rfl (teq c303).1 (by decide) (by decide) q) ?_
                          show WGo _ _ _ _ _ _ _ _ T460 (mkF m 405 #[.val (.ref a1), .val (.ref a113), .val (.ref a120), .val (.ref a127), .val (.ref a153), .val (.ref a158), .val (.ref a163), .val (.int (E i355)), .val (.int (E i356)), .val (.int (E i174)), .val (.int (E i357)), .val (.int (E x380)), .val (.int (E x382)), .val (.int (E x384)), .val (.int (E y412)), .val (.int (E y424)), .val (.int (E x427))] [])
                          refine WGo.st (fun _ q => XS.goto S461.here hx rfl (pc0 := 405) (pc' := 127) rfl (hb hby e13_405) (by decide) (by decide) q) ?_
                          show WGo _ _ _ _ _ _ _ _ T460 (mkF m 127 #[.val (.ref a1), .val (.ref a113), .val (.ref a120), .val (.ref a127), .val (.ref a153), .val (.ref a158), .val (.ref a163), .val (.int (E i355)), .val (.int (E i356)), .val (.int (E i174)), .val (.int (E i357)), .val (.int (E x380)), .val (.int (E x382)), .val (.int (E x384)), .val (.int (E y412)), .val (.int (E y424)), .val (.int (E x427))] [])
                          exact ih T460 h419 (.val (.int (E x380))) (.val (.int (E x382))) (.val (.int (E x384))) (.val (.int (E y412))) (.val (.int (E y424))) (.val (.int (E x427))) i355 i356 i357 A358 A359 A360 A361 A362 A363 A364 A365 A366 A367 A398 A369 A370 A371 S461 (One.val rfl) (One.val rfl) (One.val rfl) (One.val rfl) (One.val rfl) (One.val rfl) d423  hf
                        · refine WGo.st (fun _ q => XS.icmpNo S461.here hx rfl (hb hby e13_303) rfl (feq c303).1 q) ?_
                          show WGo _ _ _ _ _ _ _ _ T460 (mkF m 306 #[.val (.ref a1), .val (.ref a113), .val (.ref a120), .val (.ref a127), .val (.ref a153), .val (.ref a158), .val (.ref a163), .val (.int (E i355)), .val (.int (E i356)), .val (.int (E i174)), .val (.int (E i357)), .val (.int (E x380)), .val (.int (E x382)), .val (.int (E x384)), .val (.int (E y412)), .val (.int (E y424)), .val (.int (E x427))] [])
                          refine WGo.st (fun _ q => XS.iload S461.here hx rfl (hb hby e13_306) rfl q) ?_
                          refine WGo.st (fun _ q => XS.aload S461.here hx rfl (hb hby e13_308) rfl rfl q) ?_
                          refine w_aln S461 d423 (i := 18) rfl rfl (hb hby e13_310) rfl hf ?_
                          intro hf
                          show WGo _ _ _ _ _ _ _ _ T460 (mkF m 311 #[.val (.ref a1), .val (.ref a113), .val (.ref a120), .val (.ref a127), .val (.ref a153), .val (.ref a158), .val (.ref a163), .val (.int (E i355)), .val (.int (E i356)), .val (.int (E i174)), .val (.int (E i357)), .val (.int (E x380)), .val (.int (E x382)), .val (.int (E x384)), .val (.int (E y412)), .val (.int (E y424)), .val (.int (E x427))] [(.int (E y152)), (.int (E i355))])
                          rcases eqN_some hf with ⟨c311, hf⟩ | ⟨c311, hf⟩
                          · refine WGo.st (fun _ q => XS.icmpNo S461.here hx rfl (hb hby e13_311) rfl (teq c311).2 q) ?_
                            show WGo _ _ _ _ _ _ _ _ T460 (mkF m 314 #[.val (.ref a1), .val (.ref a113), .val (.ref a120), .val (.ref a127), .val (.ref a153), .val (.ref a158), .val (.ref a163), .val (.int (E i355)), .val (.int (E i356)), .val (.int (E i174)), .val (.int (E i357)), .val (.int (E x380)), .val (.int (E x382)), .val (.int (E x384)), .val (.int (E y412)), .val (.int (E y424)), .val (.int (E x427))] [])
                            cases hf
                          · refine WGo.st (fun _ q => XS.icmpYes S461.here hx rfl (pc0 := 311) (pc' := 347) rfl (hb hby e13_311) rfl (feq c311).2 (by decide) (by decide) q) ?_
                            show WGo _ _ _ _ _ _ _ _ T460 (mkF m 347 #[.val (.ref a1), .val (.ref a113), .val (.ref a120), .val (.ref a127), .val (.ref a153), .val (.ref a158), .val (.ref a163), .val (.int (E i355)), .val (.int (E i356)), .val (.int (E i174)), .val (.int (E i357)), .val (.int (E x380)), .val (.int (E x382)), .val (.int (E x384)), .val (.int (E y412)), .val (.int (E y424)), .val (.int (E x427))] [])
                            refine WGo.st (fun _ q => XS.aload S461.here hx rfl (hb hby e13_347) rfl rfl q) ?_
                            refine WGo.st (fun _ q => XS.iload S461.here hx rfl (hb hby e13_349) rfl q) ?_
                            refine WGo.st (fun _ q => XS.iload S461.here hx rfl (hb hby e13_351) rfl q) ?_
                            refine w_ast S461 d423 (i := 18) rfl rfl (hb hby e13_353) rfl hf ?_
                            intro T465 h466 A464 S467 d468 hf
                            show WGo _ _ _ _ _ _ _ _ T465 (mkF m 354 #[.val (.ref a1), .val (.ref a113), .val (.ref a120), .val (.ref a127), .val (.ref a153), .val (.ref a158), .val (.ref a163), .val (.int (E i355)), .val (.int (E i356)), .val (.int (E i174)), .val (.int (E i357)), .val (.int (E x380)), .val (.int (E x382)), .val (.int (E x384)), .val (.int (E y412)), .val (.int (E y424)), .val (.int (E x427))] [])
                            refine WGo.st (fun _ q => XS.aload S467.here hx rfl (hb hby e13_354) rfl rfl q) ?_
                            refine WGo.st (fun _ q => XS.iload S467.here hx rfl (hb hby e13_356) rfl q) ?_
                            refine WGo.st (fun _ q => XS.iload S467.here hx rfl (hb hby e13_358) rfl q) ?_
                            refine WGo.st (fun _ q => XS.iconst S467.here hx rfl (hb hby e13_360) q) ?_
                            refine w_xorN S467 rfl (hb hby e13_361) rfl hf ?_
                            intro z469 hf
                            show WGo _ _ _ _ _ _ _ _ T465 (mkF m 362 #[.val (.ref a1), .val (.ref a113), .val (.ref a120), .val (.ref a127), .val (.ref a153), .val (.ref a158), .val (.ref a163), .val (.int (E i355)), .val (.int (E i356)), .val (.int (E i174)), .val (.int (E i357)), .val (.int (E x380)), .val (.int (E x382)), .val (.int (E x384)), .val (.int (E y412)), .val (.int (E y424)), .val (.int (E x427))] [(.int (E z469)), (.int (E i355)), (.ref a158)])
                            refine w_ast S467 d468 (i := 19) rfl rfl (hb hby e13_362) rfl hf ?_
                            intro T471 h472 A470 S473 d474 hf
                            show WGo _ _ _ _ _ _ _ _ T471 (mkF m 363 #[.val (.ref a1), .val (.ref a113), .val (.ref a120), .val (.ref a127), .val (.ref a153), .val (.ref a158), .val (.ref a163), .val (.int (E i355)), .val (.int (E i356)), .val (.int (E i174)), .val (.int (E i357)), .val (.int (E x380)), .val (.int (E x382)), .val (.int (E x384)), .val (.int (E y412)), .val (.int (E y424)), .val (.int (E x427))] [])
                            refine WGo.st (fun _ q => XS.aload S473.here hx rfl (hb hby e13_363) rfl rfl q) ?_
                            refine WGo.st (fun _ q => XS.iload S473.here hx rfl (hb hby e13_365) rfl q) ?_
                            refine w_incN S473 rfl (hb hby e13_367) (y := 65) (by decide) rfl (l1 := fun z0 => #[.val (.ref a1), .val (.ref a113), .val (.ref a120), .val (.ref a127), .val (.ref a153), .val (.ref a158), .val (.ref a163), .val (.int (E z0)), .val (.int (E i356)), .val (.int (E i174)), .val (.int (E i357)), .val (.int (E x380)), .val (.int (E x382)), .val (.int (E x384)), .val (.int (E y412)), .val (.int (E y424)), .val (.int (E x427))]) (fun _ => rfl) (fun _ => rfl) hf ?_
                            intro z475 hf
                            show WGo _ _ _ _ _ _ _ _ T471 (mkF m 370 #[.val (.ref a1), .val (.ref a113), .val (.ref a120), .val (.ref a127), .val (.ref a153), .val (.ref a158), .val (.ref a163), .val (.int (E z475)), .val (.int (E i356)), .val (.int (E i174)), .val (.int (E i357)), .val (.int (E x380)), .val (.int (E x382)), .val (.int (E x384)), .val (.int (E y412)), .val (.int (E y424)), .val (.int (E x427))] [(.int (E i355)), (.ref a163)])
                            refine WGo.st (fun _ q => XS.iload S473.here hx rfl (hb hby e13_370) rfl q) ?_
                            refine w_ast S473 d474 (i := 20) rfl rfl (hb hby e13_372) rfl hf ?_
                            intro T477 h478 A476 S479 d480 hf
                            show WGo _ _ _ _ _ _ _ _ T477 (mkF m 373 #[.val (.ref a1), .val (.ref a113), .val (.ref a120), .val (.ref a127), .val (.ref a153), .val (.ref a158), .val (.ref a163), .val (.int (E z475)), .val (.int (E i356)), .val (.int (E i174)), .val (.int (E i357)), .val (.int (E x380)), .val (.int (E x382)), .val (.int (E x384)), .val (.int (E y412)), .val (.int (E y424)), .val (.int (E x427))] [])
                            refine WGo.st (fun _ q => XS.iload S479.here hx rfl (hb hby e13_373) rfl q) ?_
                            refine WGo.st (fun _ q => XS.aloadN S479.here hx rfl (hb hby e13_375) rfl rfl q) ?_
                            refine w_agf S479 d480 (i := 0) (fi := 11) hown (hwi hw 91 rfl) rfl hF11 rfl rfl (hb hby e13_376) ?_
                            intro T481 S482
                            show WGo _ _ _ _ _ _ _ _ T481 (mkF m 379 #[.val (.ref a1), .val (.ref a113), .val (.ref a120), .val (.ref a127), .val (.ref a153), .val (.ref a158), .val (.ref a163), .val (.int (E z475)), .val (.int (E i356)), .val (.int (E i174)), .val (.int (E i357)), .val (.int (E x380)), .val (.int (E x382)), .val (.int (E x384)), .val (.int (E y412)), .val (.int (E y424)), .val (.int (E x427))] [(.ref r4), (.int (E x427))])
                            refine WGo.st (fun _ q => XS.iload S482.here hx rfl (hb hby e13_379) rfl q) ?_
                            refine w_ald S482 d480 (i := 11) rfl rfl (hb hby e13_381) rfl hf ?_
                            intro x483 hf
                            show WGo _ _ _ _ _ _ _ _ T481 (mkF m 382 #[.val (.ref a1), .val (.ref a113), .val (.ref a120), .val (.ref a127), .val (.ref a153), .val (.ref a158), .val (.ref a163), .val (.int (E z475)), .val (.int (E i356)), .val (.int (E i174)), .val (.int (E i357)), .val (.int (E x380)), .val (.int (E x382)), .val (.int (E x384)), .val (.int (E y412)), .val (.int (E y424)), .val (.int (E x427))] [(.int (E x483)), (.int (E x427))])
                            rcases ltN_some hf with ⟨c382, hf⟩ | ⟨c382, hf⟩
                            · refine WGo.st (fun _ q => XS.icmpNo S482.here hx rfl (hb hby e13_382) rfl (tlt c382).2.1 q) ?_
                              show WGo _ _ _ _ _ _ _ _ T481 (mkF m 385 #[.val (.ref a1), .val (.ref a113), .val (.ref a120), .val (.ref a127), .val (.ref a153), .val (.ref a158), .val (.ref a163), .val (.int (E z475)), .val (.int (E i356)), .val (.int (E i174)), .val (.int (E i357)), .val (.int (E x380)), .val (.int (E x382)), .val (.int (E x384)), .val (.int (E y412)), .val (.int (E y424)), .val (.int (E x427))] [])
                              refine WGo.st (fun _ q => XS.aloadN S482.here hx rfl (hb hby e13_385) rfl rfl q) ?_
                              refine w_agf S482 d480 (i := 0) (fi := 11) hown (hwi hw 91 rfl) rfl hF11 rfl rfl (hb hby e13_386) ?_
                              intro T484 S485
                              show WGo _ _ _ _ _ _ _ _ T484 (mkF m 389 #[.val (.ref a1), .val (.ref a113), .val (.ref a120), .val (.ref a127), .val (.ref a153), .val (.ref a158), .val (.ref a163), .val (.int (E z475)), .val (.int (E i356)), .val (.int (E i174)), .val (.int (E i357)), .val (.int (E x380)), .val (.int (E x382)), .val (.int (E x384)), .val (.int (E y412)), .val (.int (E y424)), .val (.int (E x427))] [(.ref r4)])
                              refine WGo.st (fun _ q => XS.iload S485.here hx rfl (hb hby e13_389) rfl q) ?_
                              refine WGo.st (fun _ q => XS.iload S485.here hx rfl (hb hby e13_391) rfl q) ?_
                              refine w_ast S485 d480 (i := 11) rfl rfl (hb hby e13_393) rfl hf ?_
                              intro T487 h488 A486 S489 d490 hf
                              show WGo _ _ _ _ _ _ _ _ T487 (mkF m 394 #[.val (.ref a1), .val (.ref a113), .val (.ref a120), .val (.ref a127), .val (.ref a153), .val (.ref a158), .val (.ref a163), .val (.int (E z475)), .val (.int (E i356)), .val (.int (E i174)), .val (.int (E i357)), .val (.int (E x380)), .val (.int (E x382)), .val (.int (E x384)), .val (.int (E y412)), .val (.int (E y424)), .val (.int (E x427))] [])
                              refine WGo.st (fun _ q => XS.aloadN S489.here hx rfl (hb hby e13_394) rfl rfl q) ?_
                              refine w_agf S489 d490 (i := 0) (fi := 12) hown (hwi hw 93 rfl) rfl hF12 rfl rfl (hb hby e13_395) ?_
                              intro T491 S492
                              show WGo _ _ _ _ _ _ _ _ T491 (mkF m 398 #[.val (.ref a1), .val (.ref a113), .val (.ref a120), .val (.ref a127), .val (.ref a153), .val (.ref a158), .val (.ref a163), .val (.int (E z475)), .val (.int (E i356)), .val (.int (E i174)), .val (.int (E i357)), .val (.int (E x380)), .val (.int (E x382)), .val (.int (E x384)), .val (.int (E y412)), .val (.int (E y424)), .val (.int (E x427))] [(.ref r5)])
                              refine WGo.st (fun _ q => XS.iload S492.here hx rfl (hb hby e13_398) rfl q) ?_
                              refine WGo.st (fun _ q => XS.iload S492.here hx rfl (hb hby e13_400) rfl q) ?_
                              refine WGo.st (fun _ q => XS.iconst S492.here hx rfl (hb hby e13_402) q) ?_
                              refine w_shrN S492 rfl (hb hby e13_403) rfl hf ?_
                              intro z493 hf
                              show WGo _ _ _ _ _ _ _ _ T491 (mkF m 404 #[.val (.ref a1), .val (.ref a113), .val (.ref a120), .val (.ref a127), .val (.ref a153), .val (.ref a158), .val (.ref a163), .val (.int (E z475)), .val (.int (E i356)), .val (.int (E i174)), .val (.int (E i357)), .val (.int (E x380)), .val (.int (E x382)), .val (.int (E x384)), .val (.int (E y412)), .val (.int (E y424)), .val (.int (E x427))] [(.int (E z493)), (.int (E x382)), (.ref r5)])
                              refine w_ast S492 d490 (i := 12) rfl rfl (hb hby e13_404) rfl hf ?_
                              intro T495 h496 A494 S497 d498 hf
                              show WGo _ _ _ _ _ _ _ _ T495 (mkF m 405 #[.val (.ref a1), .val (.ref a113), .val (.ref a120), .val (.ref a127), .val (.ref a153), .val (.ref a158), .val (.ref a163), .val (.int (E z475)), .val (.int (E i356)), .val (.int (E i174)), .val (.int (E i357)), .val (.int (E x380)), .val (.int (E x382)), .val (.int (E x384)), .val (.int (E y412)), .val (.int (E y424)), .val (.int (E x427))] [])
                              refine WGo.st (fun _ q => XS.goto S497.here hx rfl (pc0 := 405) (pc' := 127) rfl (hb hby e13_405) (by decide) (by decide) q) ?_
                              show WGo _ _ _ _ _ _ _ _ T495 (mkF m 127 #[.val (.ref a1), .val (.ref a113), .val (.ref a120), .val (.ref a127), .val (.ref a153), .val (.ref a158), .val (.ref a163), .val (.int (E z475)), .val (.int (E i356)), .val (.int (E i174)), .val (.int (E i357)), .val (.int (E x380)), .val (.int (E x382)), .val (.int (E x384)), .val (.int (E y412)), .val (.int (E y424)), .val (.int (E x427))] [])
                              exact ih T495 h496 (.val (.int (E x380))) (.val (.int (E x382))) (.val (.int (E x384))) (.val (.int (E y412))) (.val (.int (E y424))) (.val (.int (E x427))) z475 i356 i357 A358 A359 A360 A361 A486 A494 A364 A365 A366 A367 A398 A464 A470 A476 S497 (One.val rfl) (One.val rfl) (One.val rfl) (One.val rfl) (One.val rfl) (One.val rfl) d498  hf
                            · refine WGo.st (fun _ q => XS.icmpYes S482.here hx rfl (pc0 := 382) (pc' := 405) rfl (hb hby e13_382) rfl (flt c382).2.1 (by decide) (by decide) q) ?_
                              show WGo _ _ _ _ _ _ _ _ T481 (mkF m 405 #[.val (.ref a1), .val (.ref a113), .val (.ref a120), .val (.ref a127), .val (.ref a153), .val (.ref a158), .val (.ref a163), .val (.int (E z475)), .val (.int (E i356)), .val (.int (E i174)), .val (.int (E i357)), .val (.int (E x380)), .val (.int (E x382)), .val (.int (E x384)), .val (.int (E y412)), .val (.int (E y424)), .val (.int (E x427))] [])
                              refine WGo.st (fun _ q => XS.goto S482.here hx rfl (pc0 := 405) (pc' := 127) rfl (hb hby e13_405) (by decide) (by decide) q) ?_
                              show WGo _ _ _ _ _ _ _ _ T481 (mkF m 127 #[.val (.ref a1), .val (.ref a113), .val (.ref a120), .val (.ref a127), .val (.ref a153), .val (.ref a158), .val (.ref a163), .val (.int (E z475)), .val (.int (E i356)), .val (.int (E i174)), .val (.int (E i357)), .val (.int (E x380)), .val (.int (E x382)), .val (.int (E x384)), .val (.int (E y412)), .val (.int (E y424)), .val (.int (E x427))] [])
                              exact ih T481 h478 (.val (.int (E x380))) (.val (.int (E x382))) (.val (.int (E x384))) (.val (.int (E y412))) (.val (.int (E y424))) (.val (.int (E x427))) z475 i356 i357 A358 A359 A360 A361 A362 A363 A364 A365 A366 A367 A398 A464 A470 A476 S482 (One.val rfl) (One.val rfl) (One.val rfl) (One.val rfl) (One.val rfl) (One.val rfl) d480  hf
                      · refine WGo.st (fun _ q => XS.icmpYes S426.here hx rfl (pc0 := 289) (pc' := 405) rfl (hb hby e13_289) rfl (flt c289).2.1 (by decide) (by decide) q) ?_
                        show WGo _ _ _ _ _ _ _ _ T425 (mkF m 405 #[.val (.ref a1), .val (.ref a113), .val (.ref a120), .val (.ref a127), .val (.ref a153), .val (.ref a158), .val (.ref a163), .val (.int (E i355)), .val (.int (E i356)), .val (.int (E i174)), .val (.int (E i357)), .val (.int (E x380)), .val (.int (E x382)), .val (.int (E x384)), .val (.int (E y412)), .val (.int (E y424)), .val (.int (E x427))] [])
                        refine WGo.st (fun _ q => XS.goto S426.here hx rfl (pc0 := 405) (pc' := 127) rfl (hb hby e13_405) (by decide) (by decide) q) ?_
                        show WGo _ _ _ _ _ _ _ _ T425 (mkF m 127 #[.val (.ref a1), .val (.ref a113), .val (.ref a120), .val (.ref a127), .val (.ref a153), .val (.ref a158), .val (.ref a163), .val (.int (E i355)), .val (.int (E i356)), .val (.int (E i174)), .val (.int (E i357)), .val (.int (E x380)), .val (.int (E x382)), .val (.int (E x384)), .val (.int (E y412)), .val (.int (E y424)), .val (.int (E x427))] [])
                        exact ih T425 h419 (.val (.int (E x380))) (.val (.int (E x382))) (.val (.int (E x384))) (.val (.int (E y412))) (.val (.int (E y424))) (.val (.int (E x427))) i355 i356 i357 A358 A359 A360 A361 A362 A363 A364 A365 A366 A367 A398 A369 A370 A371 S426 (One.val rfl) (One.val rfl) (One.val rfl) (One.val rfl) (One.val rfl) (One.val rfl) d423  hf
                  · refine WGo.st (fun _ q => XS.ifNo S414.here hx rfl (hb hby e13_203) rfl ((if0E _ _).trans (feq c203).1) q) ?_
                    show WGo _ _ _ _ _ _ _ _ T413 (mkF m 206 #[.val (.ref a1), .val (.ref a113), .val (.ref a120), .val (.ref a127), .val (.ref a153), .val (.ref a158), .val (.ref a163), .val (.int (E i355)), .val (.int (E i356)), .val (.int (E i174)), .val (.int (E i357)), .val (.int (E x380)), .val (.int (E x382)), .val (.int (E x384)), .val (.int (E y412)), u376, u377] [])
                    refine WGo.st (fun _ q => XS.aloadN S414.here hx rfl (hb hby e13_206) rfl rfl q) ?_
                    refine WGo.st (fun _ q => XS.iload S414.here hx rfl (hb hby e13_207) rfl q) ?_
                    refine WGo.st (fun _ q => XS.iconst S414.here hx rfl (hb hby e13_209) q) ?_
                    refine w_shrN S414 rfl (hb hby e13_210) rfl hf ?_
                    intro z499 hf
                    show WGo _ _ _ _ _ _ _ _ T413 (mkF m 211 #[.val (.ref a1), .val (.ref a113), .val (.ref a120), .val (.ref a127), .val (.ref a153), .val (.ref a158), .val (.ref a163), .val (.int (E i355)), .val (.int (E i356)), .val (.int (E i174)), .val (.int (E i357)), .val (.int (E x380)), .val (.int (E x382)), .val (.int (E x384)), .val (.int (E y412)), u376, u377] [(.int (E z499)), (.ref a1)])
                    refine w_private S414 (y := (⟨"com/example/ookayama/ookayama/EdgeAddition", "isRepresentative", "(I)Z"⟩ : MethodName)) (z := (⟨"com/example/ookayama/ookayama/EdgeAddition", "searchRoots", "()[I"⟩ : MethodName)) hown (hwi hw 147 rfl) (hwi hw 148 rfl) (hwi hw 149 rfl) (hwi hw 11 rfl) (hwi hw 150 rfl) (hwi hw 176 rfl) rfl (by decide) (HS.obj d411 (i := 0) rfl) (rm_Ir l Z a0 hw n0 h407 a1 rp (F) V5 z499 S414.ge (hF5) (HS.pw d411 [0, 6] (by decide) rfl rfl) _ _ hf) (W := 0) (by decide) (by decide) (by decide) (by decide) rfl (by rw [hml]; rfl) (argsL := [(.int (E z499))]) (rest := []) (ps := [.int]) (rt := (some .boolean)) (by decide) rfl rfl rfl (by show 2 * 0 + _ ≤ _; exact Nat.le_of_eq rfl) (hb hby e13_211) ?_
                    intro T500 h502 w503 S501 q504
                    obtain ⟨y507, rfl, d505, hf⟩ := q504
                    have d506 : HS Z a0 n0 h0 [a1, a2, aV, aF, aE, aN, rp, r0, r1, r2, r3, r4, r5, r6, r7] h502 [ob a1 cA F, ob a2 cE G, ia aV 70 V1, ia aF nf V2, ia aE 70 V3, ia aN 70 V4, ia rp 67 V5, ia r0 nn A358, ia r1 nn A359, ia r2 nn A360, ia r3 nn A361, ia r4 nn A362, ia r5 nn A363, ia r6 nn A364, ia r7 nn A365, ia a113 nn A366, ia a120 nn A367, ia a127 nn A398, ia a153 y152 A369, ia a158 y152 A370, ia a163 y152 A371] := HS.call d411 [0, 6] [ob a1 cA F, ia rp 67 V5] [ob a1 cA F, ia rp 67 V5] [] (by decide) rfl rfl d505
                    show WGo _ _ _ _ _ _ _ _ T500 (mkF m 214 #[.val (.ref a1), .val (.ref a113), .val (.ref a120), .val (.ref a127), .val (.ref a153), .val (.ref a158), .val (.ref a163), .val (.int (E i355)), .val (.int (E i356)), .val (.int (E i174)), .val (.int (E i357)), .val (.int (E x380)), .val (.int (E x382)), .val (.int (E x384)), .val (.int (E y412)), u376, u377] [(.int (E y507))])
                    rcases eqN_some hf with ⟨c214, hf⟩ | ⟨c214, hf⟩
                    · refine WGo.st (fun _ q => XS.ifNo S501.here hx rfl (hb hby e13_214) rfl ((if0E _ _).trans (teq c214).2) q) ?_
                      show WGo _ _ _ _ _ _ _ _ T500 (mkF m 217 #[.val (.ref a1), .val (.ref a113), .val (.ref a120), .val (.ref a127), .val (.ref a153), .val (.ref a158), .val (.ref a163), .val (.int (E i355)), .val (.int (E i356)), .val (.int (E i174)), .val (.int (E i357)), .val (.int (E x380)), .val (.int (E x382)), .val (.int (E x384)), .val (.int (E y412)), u376, u377] [])
                      refine WGo.st (fun _ q => XS.goto S501.here hx rfl (pc0 := 217) (pc' := 127) rfl (hb hby e13_217) (by decide) (by decide) q) ?_
                      show WGo _ _ _ _ _ _ _ _ T500 (mkF m 127 #[.val (.ref a1), .val (.ref a113), .val (.ref a120), .val (.ref a127), .val (.ref a153), .val (.ref a158), .val (.ref a163), .val (.int (E i355)), .val (.int (E i356)), .val (.int (E i174)), .val (.int (E i357)), .val (.int (E x380)), .val (.int (E x382)), .val (.int (E x384)), .val (.int (E y412)), u376, u377] [])
                      exact ih T500 h502 (.val (.int (E x380))) (.val (.int (E x382))) (.val (.int (E x384))) (.val (.int (E y412))) u376 u377 i355 i356 i357 A358 A359 A360 A361 A362 A363 A364 A365 A366 A367 A398 A369 A370 A371 S501 (One.val rfl) (One.val rfl) (One.val rfl) (One.val rfl) hu376 hu377 d506  hf
                    · refine WGo.st (fun _ q => XS.ifYes S501.here hx rfl (pc0 := 214) (pc' := 220) rfl (hb hby e13_214) rfl ((if0E _ _).trans (feq c214).2) (by decide) (by decide) q) ?_
                      show WGo _ _ _ _ _ _ _ _ T500 (mkF m 220 #[.val (.ref a1), .val (.ref a113), .val (.ref a120), .val (.ref a127), .val (.ref a153), .val (.ref a158), .val (.ref a163), .val (.int (E i355)), .val (.int (E i356)), .val (.int (E i174)), .val (.int (E i357)), .val (.int (E x380)), .val (.int (E x382)), .val (.int (E x384)), .val (.int (E y412)), u376, u377] [])
                      refine WGo.st (fun _ q => XS.aloadN S501.here hx rfl (hb hby e13_220) rfl rfl q) ?_
                      refine w_agf S501 d506 (i := 0) (fi := 3) hown (hwi hw 39 rfl) rfl hF3 rfl rfl (hb hby e13_221) ?_
                      intro T508 S509
                      show WGo _ _ _ _ _ _ _ _ T508 (mkF m 224 #[.val (.ref a1), .val (.ref a113), .val (.ref a120), .val (.ref a127), .val (.ref a153), .val (.ref a158), .val (.ref a163), .val (.int (E i355)), .val (.int (E i356)), .val (.int (E i174)), .val (.int (E i357)), .val (.int (E x380)), .val (.int (E x382)), .val (.int (E x384)), .val (.int (E y412)), u376, u377] [(.ref a2)])
                      refine WGo.st (fun _ q => XS.iload S509.here hx rfl (hb hby e13_224) rfl q) ?_
                      refine WGo.st (fun _ q => XS.iload S509.here hx rfl (hb hby e13_226) rfl q) ?_
                      refine w_virtual S509 (y := (⟨"com/example/ookayama/ookayama/EdgeEnds", "neighbour", "(II)I"⟩ : MethodName)) hown (hwi hw 71 rfl) (hwi hw 72 rfl) (hwi hw 74 rfl) (hwi hw 73 rfl) (hwi hw 14 rfl) (hwi hw 75 rfl) (by decide) (HS.obj d506 (i := 1) rfl) (rm_Nb l Z a0 hw n0 h502 a2 aF aN (G) nf V2 V4 x380 x384 S509.ge (hG1) (hG3) (HS.pw d506 [1, 3, 5] (by decide) rfl rfl) _ _ hf) (W := 0) (by decide) (by decide) (by decide) (by decide) rfl (by rw [hml]; rfl) (argsL := [(.int (E x380)), (.int (E x384))]) (rest := []) (ps := [.int, .int]) (rt := (some .int)) (by decide) rfl rfl rfl (by show 2 * 0 + _ ≤ _; exact Nat.le_of_eq rfl) (hb hby e13_228) ?_
                      intro T510 h512 w513 S511 q514
                      obtain ⟨y517, rfl, d515, hf⟩ := q514
                      have d516 : HS Z a0 n0 h0 [a1, a2, aV, aF, aE, aN, rp, r0, r1, r2, r3, r4, r5, r6, r7] h512 [ob a1 cA F, ob a2 cE G, ia aV 70 V1, ia aF nf V2, ia aE 70 V3, ia aN 70 V4, ia rp 67 V5, ia r0 nn A358, ia r1 nn A359, ia r2 nn A360, ia r3 nn A361, ia r4 nn A362, ia r5 nn A363, ia r6 nn A364, ia r7 nn A365, ia a113 nn A366, ia a120 nn A367, ia a127 nn A398, ia a153 y152 A369, ia a158 y152 A370, ia a163 y152 A371] := HS.call d506 [1, 3, 5] [ob a2 cE G, ia aF nf V2, ia aN 70 V4] [ob a2 cE G, ia aF nf V2, ia aN 70 V4] [] (by decide) rfl rfl d515
                      show WGo _ _ _ _ _ _ _ _ T510 (mkF m 231 #[.val (.ref a1), .val (.ref a113), .val (.ref a120), .val (.ref a127), .val (.ref a153), .val (.ref a158), .val (.ref a163), .val (.int (E i355)), .val (.int (E i356)), .val (.int (E i174)), .val (.int (E i357)), .val (.int (E x380)), .val (.int (E x382)), .val (.int (E x384)), .val (.int (E y412)), u376, u377] [(.int (E y517))])
                      refine WGo.st (fun _ q => XS.istoreS S511.here hx rfl (hb hby e13_231) rfl rfl hu376 q) ?_
                      show WGo _ _ _ _ _ _ _ _ T510 (mkF m 233 #[.val (.ref a1), .val (.ref a113), .val (.ref a120), .val (.ref a127), .val (.ref a153), .val (.ref a158), .val (.ref a163), .val (.int (E i355)), .val (.int (E i356)), .val (.int (E i174)), .val (.int (E i357)), .val (.int (E x380)), .val (.int (E x382)), .val (.int (E x384)), .val (.int (E y412)), .val (.int (E y517)), u377] [])
                      refine WGo.st (fun _ q => XS.aloadN S511.here hx rfl (hb hby e13_233) rfl rfl q) ?_
                      refine w_agf S511 d516 (i := 0) (fi := 7) hown (hwi hw 83 rfl) rfl hF7 rfl rfl (hb hby e13_234) ?_
                      intro T518 S519
                      show WGo _ _ _ _ _ _ _ _ T518 (mkF m 237 #[.val (.ref a1), .val (.ref a113), .val (.ref a120), .val (.ref a127), .val (.ref a153), .val (.ref a158), .val (.ref a163), .val (.int (E i355)), .val (.int (E i356)), .val (.int (E i174)), .val (.int (E i357)), .val (.int (E x380)), .val (.int (E x382)), .val (.int (E x384)), .val (.int (E y412)), .val (.int (E y517)), u377] [(.ref r0)])
                      refine WGo.st (fun _ q => XS.iload S519.here hx rfl (hb hby e13_237) rfl q) ?_
                      refine w_ald S519 d516 (i := 7) rfl rfl (hb hby e13_239) rfl hf ?_
                      intro x520 hf
                      show WGo _ _ _ _ _ _ _ _ T518 (mkF m 240 #[.val (.ref a1), .val (.ref a113), .val (.ref a120), .val (.ref a127), .val (.ref a153), .val (.ref a158), .val (.ref a163), .val (.int (E i355)), .val (.int (E i356)), .val (.int (E i174)), .val (.int (E i357)), .val (.int (E x380)), .val (.int (E x382)), .val (.int (E x384)), .val (.int (E y412)), .val (.int (E y517)), u377] [(.int (E x520))])
                      refine WGo.st (fun _ q => XS.istoreS S519.here hx rfl (hb hby e13_240) rfl rfl hu377 q) ?_
                      show WGo _ _ _ _ _ _ _ _ T518 (mkF m 242 #[.val (.ref a1), .val (.ref a113), .val (.ref a120), .val (.ref a127), .val (.ref a153), .val (.ref a158), .val (.ref a163), .val (.int (E i355)), .val (.int (E i356)), .val (.int (E i174)), .val (.int (E i357)), .val (.int (E x380)), .val (.int (E x382)), .val (.int (E x384)), .val (.int (E y412)), .val (.int (E y517)), .val (.int (E x520))] [])
                      refine WGo.st (fun _ q => XS.iload S519.here hx rfl (hb hby e13_242) rfl q) ?_
                      rcases ltN_some hf with ⟨c244, hf⟩ | ⟨c244, hf⟩
                      · refine WGo.st (fun _ q => XS.ifNo S519.here hx rfl (hb hby e13_244) rfl ((if0E _ _).trans (tlt c244).2.1) q) ?_
                        show WGo _ _ _ _ _ _ _ _ T518 (mkF m 247 #[.val (.ref a1), .val (.ref a113), .val (.ref a120), .val (.ref a127), .val (.ref a153), .val (.ref a158), .val (.ref a163), .val (.int (E i355)), .val (.int (E i356)), .val (.int (E i174)), .val (.int (E i357)), .val (.int (E x380)), .val (.int (E x382)), .val (.int (E x384)), .val (.int (E y412)), .val (.int (E y517)), .val (.int (E x520))] [])
                        refine WGo.st (fun _ q => XS.aloadN S519.here hx rfl (hb hby e13_247) rfl rfl q) ?_
                        refine WGo.st (fun _ q => XS.iload S519.here hx rfl (hb hby e13_248) rfl q) ?_
                        refine WGo.st (fun _ q => XS.iload S519.here hx rfl (hb hby e13_250) rfl q) ?_
                        refine WGo.st (fun _ q => XS.iload S519.here hx rfl (hb hby e13_252) rfl q) ?_
                        refine WGo.st (fun _ q => XS.iload S519.here hx rfl (hb hby e13_254) rfl q) ?_
                        show WGo _ _ _ _ _ _ _ _ T518 (mkF m 256 #[.val (.ref a1), .val (.ref a113), .val (.ref a120), .val (.ref a127), .val (.ref a153), .val (.ref a158), .val (.ref a163), .val (.int (E i355)), .val (.int (E i356)), .val (.int (E i174)), .val (.int (E i357)), .val (.int (E x380)), .val (.int (E x382)), .val (.int (E x384)), .val (.int (E y412)), .val (.int (E y517)), .val (.int (E x520))] [(.int (E y412)), (.int (E x382)), (.int (E i356)), (.int (E y517)), (.ref a1)])
                        refine w_private S519 (y := (⟨"com/example/ookayama/ookayama/EdgeAddition", "reach", "(IIII)V"⟩ : MethodName)) (z := (⟨"com/example/ookayama/ookayama/EdgeAddition", "searchRoots", "()[I"⟩ : MethodName)) hown (hwi hw 143 rfl) (hwi hw 144 rfl) (hwi hw 145 rfl) (hwi hw 11 rfl) (hwi hw 146 rfl) (hwi hw 176 rfl) rfl (by decide) (HS.obj d516 (i := 0) rfl) (rm_Re l Z a0 hw n0 h512 a1 r0 r1 r2 r3 r4 r5 r6 r7 (F) nn A358 A359 A360 A361 A362 A363 A364 A365 y517 i356 x382 y412 S519.ge (hF7) (hF8) (hF9) (hF10) (hF11) (hF12) (hF13) (hF14) (HS.pw d516 [0, 7, 8, 9, 10, 11, 12, 13, 14] (by decide) rfl rfl) _ _ hf) (W := 0) (by decide) (by decide) (by decide) (by decide) rfl (by rw [hml]; rfl) (argsL := [(.int (E y517)), (.int (E i356)), (.int (E x382)), (.int (E y412))]) (rest := []) (ps := [.int, .int, .int, .int]) (rt := none) (by decide) rfl rfl rfl (by show 2 * 0 + _ ≤ _; exact Nat.le_of_eq rfl) (hb hby e13_256) ?_
                        intro T521 h523 w524 S522 q525
                        obtain ⟨y528, y529, y530, y531, y532, y533, y534, y535, rfl, d526, hf⟩ := q525
                        have d527 : HS Z a0 n0 h0 [a1, a2, aV, aF, aE, aN, rp, r0, r1, r2, r3, r4, r5, r6, r7] h523 [ob a1 cA F, ob a2 cE G, ia aV 70 V1, ia aF nf V2, ia aE 70 V3, ia aN 70 V4, ia rp 67 V5, ia r0 nn y528, ia r1 nn y529, ia r2 nn y530, ia r3 nn y531, ia r4 nn y532, ia r5 nn y533, ia r6 nn y534, ia r7 nn y535, ia a113 nn A366, ia a120 nn A367, ia a127 nn A398, ia a153 y152 A369, ia a158 y152 A370, ia a163 y152 A371] := HS.call d516 [0, 7, 8, 9, 10, 11, 12, 13, 14] [ob a1 cA F, ia r0 nn A358, ia r1 nn A359, ia r2 nn A360, ia r3 nn A361, ia r4 nn A362, ia r5 nn A363, ia r6 nn A364, ia r7 nn A365] [ob a1 cA F, ia r0 nn y528, ia r1 nn y529, ia r2 nn y530, ia r3 nn y531, ia r4 nn y532, ia r5 nn y533, ia r6 nn y534, ia r7 nn y535] [] (by decide) rfl rfl d526
                        show WGo _ _ _ _ _ _ _ _ T521 (mkF m 259 #[.val (.ref a1), .val (.ref a113), .val (.ref a120), .val (.ref a127), .val (.ref a153), .val (.ref a158), .val (.ref a163), .val (.int (E i355)), .val (.int (E i356)), .val (.int (E i174)), .val (.int (E i357)), .val (.int (E x380)), .val (.int (E x382)), .val (.int (E x384)), .val (.int (E y412)), .val (.int (E y517)), .val (.int (E x520))] [])
                        refine WGo.st (fun _ q => XS.aloadN S522.here hx rfl (hb hby e13_259) rfl rfl q) ?_
                        refine WGo.st (fun _ q => XS.iload S522.here hx rfl (hb hby e13_260) rfl q) ?_
                        refine WGo.st (fun _ q => XS.iload S522.here hx rfl (hb hby e13_262) rfl q) ?_
                        refine w_ast S522 d527 (i := 15) rfl rfl (hb hby e13_264) rfl hf ?_
                        intro T537 h538 A536 S539 d540 hf
                        show WGo _ _ _ _ _ _ _ _ T537 (mkF m 265 #[.val (.ref a1), .val (.ref a113), .val (.ref a120), .val (.ref a127), .val (.ref a153), .val (.ref a158), .val (.ref a163), .val (.int (E i355)), .val (.int (E i356)), .val (.int (E i174)), .val (.int (E i357)), .val (.int (E x380)), .val (.int (E x382)), .val (.int (E x384)), .val (.int (E y412)), .val (.int (E y517)), .val (.int (E x520))] [])
                        refine WGo.st (fun _ q => XS.aloadN S539.here hx rfl (hb hby e13_265) rfl rfl q) ?_
                        refine WGo.st (fun _ q => XS.iload S539.here hx rfl (hb hby e13_266) rfl q) ?_
                        refine WGo.st (fun _ q => XS.iload S539.here hx rfl (hb hby e13_268) rfl q) ?_
                        refine w_incN S539 rfl (hb hby e13_270) (y := 65) (by decide) rfl (l1 := fun z0 => #[.val (.ref a1), .val (.ref a113), .val (.ref a120), .val (.ref a127), .val (.ref a153), .val (.ref a158), .val (.ref a163), .val (.int (E i355)), .val (.int (E z0)), .val (.int (E i174)), .val (.int (E i357)), .val (.int (E x380)), .val (.int (E x382)), .val (.int (E x384)), .val (.int (E y412)), .val (.int (E y517)), .val (.int (E x520))]) (fun _ => rfl) (fun _ => rfl) hf ?_
                        intro z541 hf
                        show WGo _ _ _ _ _ _ _ _ T537 (mkF m 273 #[.val (.ref a1), .val (.ref a113), .val (.ref a120), .val (.ref a127), .val (.ref a153), .val (.ref a158), .val (.ref a163), .val (.int (E i355)), .val (.int (E z541)), .val (.int (E i174)), .val (.int (E i357)), .val (.int (E x380)), .val (.int (E x382)), .val (.int (E x384)), .val (.int (E y412)), .val (.int (E y517)), .val (.int (E x520))] [(.int (E i356)), (.int (E i357)), (.ref a120)])
                        refine w_ast S539 d540 (i := 16) rfl rfl (hb hby e13_273) rfl hf ?_
                        intro T543 h544 A542 S545 d546 hf
                        show WGo _ _ _ _ _ _ _ _ T543 (mkF m 274 #[.val (.ref a1), .val (.ref a113), .val (.ref a120), .val (.ref a127), .val (.ref a153), .val (.ref a158), .val (.ref a163), .val (.int (E i355)), .val (.int (E z541)), .val (.int (E i174)), .val (.int (E i357)), .val (.int (E x380)), .val (.int (E x382)), .val (.int (E x384)), .val (.int (E y412)), .val (.int (E y517)), .val (.int (E x520))] [])
                        refine WGo.st (fun _ q => XS.aloadN S545.here hx rfl (hb hby e13_274) rfl rfl q) ?_
                        refine WGo.st (fun _ q => XS.iload S545.here hx rfl (hb hby e13_275) rfl q) ?_
                        refine w_incN S545 rfl (hb hby e13_277) (y := 65) (by decide) rfl (l1 := fun z0 => #[.val (.ref a1), .val (.ref a113), .val (.ref a120), .val (.ref a127), .val (.ref a153), .val (.ref a158), .val (.ref a163), .val (.int (E i355)), .val (.int (E z541)), .val (.int (E i174)), .val (.int (E z0)), .val (.int (E x380)), .val (.int (E x382)), .val (.int (E x384)), .val (.int (E y412)), .val (.int (E y517)), .val (.int (E x520))]) (fun _ => rfl) (fun _ => rfl) hf ?_
                        intro z547 hf
                        show WGo _ _ _ _ _ _ _ _ T543 (mkF m 280 #[.val (.ref a1), .val (.ref a113), .val (.ref a120), .val (.ref a127), .val (.ref a153), .val (.ref a158), .val (.ref a163), .val (.int (E i355)), .val (.int (E z541)), .val (.int (E i174)), .val (.int (E z547)), .val (.int (E x380)), .val (.int (E x382)), .val (.int (E x384)), .val (.int (E y412)), .val (.int (E y517)), .val (.int (E x520))] [(.int (E i357)), (.ref a127)])
                        refine WGo.st (fun _ q => XS.iconst S545.here hx rfl (hb hby e13_280) q) ?_
                        refine w_ast S545 d546 (i := 17) rfl rfl (hb hby e13_281) rfl hf ?_
                        intro T549 h550 A548 S551 d552 hf
                        show WGo _ _ _ _ _ _ _ _ T549 (mkF m 282 #[.val (.ref a1), .val (.ref a113), .val (.ref a120), .val (.ref a127), .val (.ref a153), .val (.ref a158), .val (.ref a163), .val (.int (E i355)), .val (.int (E z541)), .val (.int (E i174)), .val (.int (E z547)), .val (.int (E x380)), .val (.int (E x382)), .val (.int (E x384)), .val (.int (E y412)), .val (.int (E y517)), .val (.int (E x520))] [])
                        refine WGo.st (fun _ q => XS.goto S551.here hx rfl (pc0 := 282) (pc' := 405) rfl (hb hby e13_282) (by decide) (by decide) q) ?_
                        show WGo _ _ _ _ _ _ _ _ T549 (mkF m 405 #[.val (.ref a1), .val (.ref a113), .val (.ref a120), .val (.ref a127), .val (.ref a153), .val (.ref a158), .val (.ref a163), .val (.int (E i355)), .val (.int (E z541)), .val (.int (E i174)), .val (.int (E z547)), .val (.int (E x380)), .val (.int (E x382)), .val (.int (E x384)), .val (.int (E y412)), .val (.int (E y517)), .val (.int (E x520))] [])
                        refine WGo.st (fun _ q => XS.goto S551.here hx rfl (pc0 := 405) (pc' := 127) rfl (hb hby e13_405) (by decide) (by decide) q) ?_
                        show WGo _ _ _ _ _ _ _ _ T549 (mkF m 127 #[.val (.ref a1), .val (.ref a113), .val (.ref a120), .val (.ref a127), .val (.ref a153), .val (.ref a158), .val (.ref a163), .val (.int (E i355)), .val (.int (E z541)), .val (.int (E i174)), .val (.int (E z547)), .val (.int (E x380)), .val (.int (E x382)), .val (.int (E x384)), .val (.int (E y412)), .val (.int (E y517)), .val (.int (E x520))] [])
                        exact ih T549 h550 (.val (.int (E x380))) (.val (.int (E x382))) (.val (.int (E x384))) (.val (.int (E y412))) (.val (.int (E y517))) (.val (.int (E x520))) i355 z541 z547 y528 y529 y530 y531 y532 y533 y534 y535 A536 A542 A548 A369 A370 A371 S551 (One.val rfl) (One.val rfl) (One.val rfl) (One.val rfl) (One.val rfl) (One.val rfl) d552  hf
                      · refine WGo.st (fun _ q => XS.ifYes S519.here hx rfl (pc0 := 244) (pc' := 285) rfl (hb hby e13_244) rfl ((if0E _ _).trans (flt c244).2.1) (by decide) (by decide) q) ?_
                        show WGo _ _ _ _ _ _ _ _ T518 (mkF m 285 #[.val (.ref a1), .val (.ref a113), .val (.ref a120), .val (.ref a127), .val (.ref a153), .val (.ref a158), .val (.ref a163), .val (.int (E i355)), .val (.int (E i356)), .val (.int (E i174)), .val (.int (E i357)), .val (.int (E x380)), .val (.int (E x382)), .val (.int (E x384)), .val (.int (E y412)), .val (.int (E y517)), .val (.int (E x520))] [])
                        refine WGo.st (fun _ q => XS.iload S519.here hx rfl (hb hby e13_285) rfl q) ?_
                        refine WGo.st (fun _ q => XS.iload S519.here hx rfl (hb hby e13_287) rfl q) ?_
                        rcases ltN_some hf with ⟨c289, hf⟩ | ⟨c289, hf⟩
                        · refine WGo.st (fun _ q => XS.icmpNo S519.here hx rfl (hb hby e13_289) rfl (tlt c289).2.1 q) ?_
                          show WGo _ _ _ _ _ _ _ _ T518 (mkF m 292 #[.val (.ref a1), .val (.ref a113), .val (.ref a120), .val (.ref a127), .val (.ref a153), .val (.ref a158), .val (.ref a163), .val (.int (E i355)), .val (.int (E i356)), .val (.int (E i174)), .val (.int (E i357)), .val (.int (E x380)), .val (.int (E x382)), .val (.int (E x384)), .val (.int (E y412)), .val (.int (E y517)), .val (.int (E x520))] [])
                          refine WGo.st (fun _ q => XS.iload S519.here hx rfl (hb hby e13_292) rfl q) ?_
                          refine WGo.st (fun _ q => XS.aloadN S519.here hx rfl (hb hby e13_294) rfl rfl q) ?_
                          refine w_agf S519 d516 (i := 0) (fi := 10) hown (hwi hw 89 rfl) rfl hF10 rfl rfl (hb hby e13_295) ?_
                          intro T553 S554
                          show WGo _ _ _ _ _ _ _ _ T553 (mkF m 298 #[.val (.ref a1), .val (.ref a113), .val (.ref a120), .val (.ref a127), .val (.ref a153), .val (.ref a158), .val (.ref a163), .val (.int (E i355)), .val (.int (E i356)), .val (.int (E i174)), .val (.int (E i357)), .val (.int (E x380)), .val (.int (E x382)), .val (.int (E x384)), .val (.int (E y412)), .val (.int (E y517)), .val (.int (E x520))] [(.ref r3), (.int (E y412))])
                          refine WGo.st (fun _ q => XS.iload S554.here hx rfl (hb hby e13_298) rfl q) ?_
                          refine w_ald S554 d516 (i := 10) rfl rfl (hb hby e13_300) rfl hf ?_
                          intro x555 hf
                          show WGo _ _ _ _ _ _ _ _ T553 (mkF m 301 #[.val (.ref a1), .val (.ref a113), .val (.ref a120), .val (.ref a127), .val (.ref a153), .val (.ref a158), .val (.ref a163), .val (.int (E i355)), .val (.int (E i356)), .val (.int (E i174)), .val (.int (E i357)), .val (.int (E x380)), .val (.int (E x382)), .val (.int (E x384)), .val (.int (E y412)), .val (.int (E y517)), .val (.int (E x520))] [(.int (E x555)), (.int (E y412))])
                          refine WGo.st (fun _ q => XS.iconst S554.here hx rfl (hb hby e13_301) q) ?_
                          refine w_xorN S554 rfl (hb hby e13_302) rfl hf ?_
                          intro z556 hf
                          show WGo _ _ _ _ _ _ _ _ T553 (mkF m 303 #[.val (.ref a1), .val (.ref a113), .val (.ref a120), .val (.ref a127), .val (.ref a153), .val (.ref a158), .val (.ref a163), .val (.int (E i355)), .val (.int (E i356)), .val (.int (E i174)), .val (.int (E i357)), .val (.int (E x380)), .val (.int (E x382)), .val (.int (E x384)), .val (.int (E y412)), .val (.int (E y517)), .val (.int (E x520))] [(.int (E z556)), (.int (E y412))])
                          rcases eqN_some hf with ⟨c303, hf⟩ | ⟨c303, hf⟩
                          · refine WGo.st (fun _ q => XS.icmpYes S554.here hx rfl (pc0 := 303) (pc' := 405) rfl (hb hby e13_303) rfl (teq c303).1 (by decide) (by decide) q) ?_
                            show WGo _ _ _ _ _ _ _ _ T553 (mkF m 405 #[.val (.ref a1), .val (.ref a113), .val (.ref a120), .val (.ref a127), .val (.ref a153), .val (.ref a158), .val (.ref a163), .val (.int (E i355)), .val (.int (E i356)), .val (.int (E i174)), .val (.int (E i357)), .val (.int (E x380)), .val (.int (E x382)), .val (.int (E x384)), .val (.int (E y412)), .val (.int (E y517)), .val (.int (E x520))] [])
                            refine WGo.st (fun _ q => XS.goto S554.here hx rfl (pc0 := 405) (pc' := 127) rfl (hb hby e13_405) (by decide) (by decide) q) ?_
                            show WGo _ _ _ _ _ _ _ _ T553 (mkF m 127 #[.val (.ref a1), .val (.ref a113), .val (.ref a120), .val (.ref a127), .val (.ref a153), .val (.ref a158), .val (.ref a163), .val (.int (E i355)), .val (.int (E i356)), .val (.int (E i174)), .val (.int (E i357)), .val (.int (E x380)), .val (.int (E x382)), .val (.int (E x384)), .val (.int (E y412)), .val (.int (E y517)), .val (.int (E x520))] [])
                            exact ih T553 h512 (.val (.int (E x380))) (.val (.int (E x382))) (.val (.int (E x384))) (.val (.int (E y412))) (.val (.int (E y517))) (.val (.int (E x520))) i355 i356 i357 A358 A359 A360 A361 A362 A363 A364 A365 A366 A367 A398 A369 A370 A371 S554 (One.val rfl) (One.val rfl) (One.val rfl) (One.val rfl) (One.val rfl) (One.val rfl) d516  hf
                          · refine WGo.st (fun _ q => XS.icmpNo S554.here hx rfl (hb hby e13_303) rfl (feq c303).1 q) ?_
                            show WGo _ _ _ _ _ _ _ _ T553 (mkF m 306 #[.val (.ref a1), .val (.ref a113), .val (.ref a120), .val (.ref a127), .val (.ref a153), .val (.ref a158), .val (.ref a163), .val (.int (E i355)), .val (.int (E i356)), .val (.int (E i174)), .val (.int (E i357)), .val (.int (E x380)), .val (.int (E x382)), .val (.int (E x384)), .val (.int (E y412)), .val (.int (E y517)), .val (.int (E x520))] [])
                            refine WGo.st (fun _ q => XS.iload S554.here hx rfl (hb hby e13_306) rfl q) ?_
                            refine WGo.st (fun _ q => XS.aload S554.here hx rfl (hb hby e13_308) rfl rfl q) ?_
                            refine w_aln S554 d516 (i := 18) rfl rfl (hb hby e13_310) rfl hf ?_
                            intro hf
                            show WGo _ _ _ _ _ _ _ _ T553 (mkF m 311 #[.val (.ref a1), .val (.ref a113), .val (.ref a120), .val (.ref a127), .val (.ref a153), .val (.ref a158), .val (.ref a163), .val (.int (E i355)), .val (.int (E i356)), .val (.int (E i174)), .val (.int (E i357)), .val (.int (E x380)), .val (.int (E x382)), .val (.int (E x384)), .val (.int (E y412)), .val (.int (E y517)), .val (.int (E x520))] [(.int (E y152)), (.int (E i355))])
                            rcases eqN_some hf with ⟨c311, hf⟩ | ⟨c311, hf⟩
                            · refine WGo.st (fun _ q => XS.icmpNo S554.here hx rfl (hb hby e13_311) rfl (teq c311).2 q) ?_
                              show WGo _ _ _ _ _ _ _ _ T553 (mkF m 314 #[.val (.ref a1), .val (.ref a113), .val (.ref a120), .val (.ref a127), .val (.ref a153), .val (.ref a158), .val (.ref a163), .val (.int (E i355)), .val (.int (E i356)), .val (.int (E i174)), .val (.int (E i357)), .val (.int (E x380)), .val (.int (E x382)), .val (.int (E x384)), .val (.int (E y412)), .val (.int (E y517)), .val (.int (E x520))] [])
                              cases hf
                            · refine WGo.st (fun _ q => XS.icmpYes S554.here hx rfl (pc0 := 311) (pc' := 347) rfl (hb hby e13_311) rfl (feq c311).2 (by decide) (by decide) q) ?_
                              show WGo _ _ _ _ _ _ _ _ T553 (mkF m 347 #[.val (.ref a1), .val (.ref a113), .val (.ref a120), .val (.ref a127), .val (.ref a153), .val (.ref a158), .val (.ref a163), .val (.int (E i355)), .val (.int (E i356)), .val (.int (E i174)), .val (.int (E i357)), .val (.int (E x380)), .val (.int (E x382)), .val (.int (E x384)), .val (.int (E y412)), .val (.int (E y517)), .val (.int (E x520))] [])
                              refine WGo.st (fun _ q => XS.aload S554.here hx rfl (hb hby e13_347) rfl rfl q) ?_
                              refine WGo.st (fun _ q => XS.iload S554.here hx rfl (hb hby e13_349) rfl q) ?_
                              refine WGo.st (fun _ q => XS.iload S554.here hx rfl (hb hby e13_351) rfl q) ?_
                              refine w_ast S554 d516 (i := 18) rfl rfl (hb hby e13_353) rfl hf ?_
                              intro T558 h559 A557 S560 d561 hf
                              show WGo _ _ _ _ _ _ _ _ T558 (mkF m 354 #[.val (.ref a1), .val (.ref a113), .val (.ref a120), .val (.ref a127), .val (.ref a153), .val (.ref a158), .val (.ref a163), .val (.int (E i355)), .val (.int (E i356)), .val (.int (E i174)), .val (.int (E i357)), .val (.int (E x380)), .val (.int (E x382)), .val (.int (E x384)), .val (.int (E y412)), .val (.int (E y517)), .val (.int (E x520))] [])
                              refine WGo.st (fun _ q => XS.aload S560.here hx rfl (hb hby e13_354) rfl rfl q) ?_
                              refine WGo.st (fun _ q => XS.iload S560.here hx rfl (hb hby e13_356) rfl q) ?_
                              refine WGo.st (fun _ q => XS.iload S560.here hx rfl (hb hby e13_358) rfl q) ?_
                              refine WGo.st (fun _ q => XS.iconst S560.here hx rfl (hb hby e13_360) q) ?_
                              refine w_xorN S560 rfl (hb hby e13_361) rfl hf ?_
                              intro z562 hf
                              show WGo _ _ _ _ _ _ _ _ T558 (mkF m 362 #[.val (.ref a1), .val (.ref a113), .val (.ref a120), .val (.ref a127), .val (.ref a153), .val (.ref a158), .val (.ref a163), .val (.int (E i355)), .val (.int (E i356)), .val (.int (E i174)), .val (.int (E i357)), .val (.int (E x380)), .val (.int (E x382)), .val (.int (E x384)), .val (.int (E y412)), .val (.int (E y517)), .val (.int (E x520))] [(.int (E z562)), (.int (E i355)), (.ref a158)])
                              refine w_ast S560 d561 (i := 19) rfl rfl (hb hby e13_362) rfl hf ?_
                              intro T564 h565 A563 S566 d567 hf
                              show WGo _ _ _ _ _ _ _ _ T564 (mkF m 363 #[.val (.ref a1), .val (.ref a113), .val (.ref a120), .val (.ref a127), .val (.ref a153), .val (.ref a158), .val (.ref a163), .val (.int (E i355)), .val (.int (E i356)), .val (.int (E i174)), .val (.int (E i357)), .val (.int (E x380)), .val (.int (E x382)), .val (.int (E x384)), .val (.int (E y412)), .val (.int (E y517)), .val (.int (E x520))] [])
                              refine WGo.st (fun _ q => XS.aload S566.here hx rfl (hb hby e13_363) rfl rfl q) ?_
                              refine WGo.st (fun _ q => XS.iload S566.here hx rfl (hb hby e13_365) rfl q) ?_
                              refine w_incN S566 rfl (hb hby e13_367) (y := 65) (by decide) rfl (l1 := fun z0 => #[.val (.ref a1), .val (.ref a113), .val (.ref a120), .val (.ref a127), .val (.ref a153), .val (.ref a158), .val (.ref a163), .val (.int (E z0)), .val (.int (E i356)), .val (.int (E i174)), .val (.int (E i357)), .val (.int (E x380)), .val (.int (E x382)), .val (.int (E x384)), .val (.int (E y412)), .val (.int (E y517)), .val (.int (E x520))]) (fun _ => rfl) (fun _ => rfl) hf ?_
                              intro z568 hf
                              show WGo _ _ _ _ _ _ _ _ T564 (mkF m 370 #[.val (.ref a1), .val (.ref a113), .val (.ref a120), .val (.ref a127), .val (.ref a153), .val (.ref a158), .val (.ref a163), .val (.int (E z568)), .val (.int (E i356)), .val (.int (E i174)), .val (.int (E i357)), .val (.int (E x380)), .val (.int (E x382)), .val (.int (E x384)), .val (.int (E y412)), .val (.int (E y517)), .val (.int (E x520))] [(.int (E i355)), (.ref a163)])
                              refine WGo.st (fun _ q => XS.iload S566.here hx rfl (hb hby e13_370) rfl q) ?_
                              refine w_ast S566 d567 (i := 20) rfl rfl (hb hby e13_372) rfl hf ?_
                              intro T570 h571 A569 S572 d573 hf
                              show WGo _ _ _ _ _ _ _ _ T570 (mkF m 373 #[.val (.ref a1), .val (.ref a113), .val (.ref a120), .val (.ref a127), .val (.ref a153), .val (.ref a158), .val (.ref a163), .val (.int (E z568)), .val (.int (E i356)), .val (.int (E i174)), .val (.int (E i357)), .val (.int (E x380)), .val (.int (E x382)), .val (.int (E x384)), .val (.int (E y412)), .val (.int (E y517)), .val (.int (E x520))] [])
                              refine WGo.st (fun _ q => XS.iload S572.here hx rfl (hb hby e13_373) rfl q) ?_
                              refine WGo.st (fun _ q => XS.aloadN S572.here hx rfl (hb hby e13_375) rfl rfl q) ?_
                              refine w_agf S572 d573 (i := 0) (fi := 11) hown (hwi hw 91 rfl) rfl hF11 rfl rfl (hb hby e13_376) ?_
                              intro T574 S575
                              show WGo _ _ _ _ _ _ _ _ T574 (mkF m 379 #[.val (.ref a1), .val (.ref a113), .val (.ref a120), .val (.ref a127), .val (.ref a153), .val (.ref a158), .val (.ref a163), .val (.int (E z568)), .val (.int (E i356)), .val (.int (E i174)), .val (.int (E i357)), .val (.int (E x380)), .val (.int (E x382)), .val (.int (E x384)), .val (.int (E y412)), .val (.int (E y517)), .val (.int (E x520))] [(.ref r4), (.int (E x520))])
                              refine WGo.st (fun _ q => XS.iload S575.here hx rfl (hb hby e13_379) rfl q) ?_
                              refine w_ald S575 d573 (i := 11) rfl rfl (hb hby e13_381) rfl hf ?_
                              intro x576 hf
                              show WGo _ _ _ _ _ _ _ _ T574 (mkF m 382 #[.val (.ref a1), .val (.ref a113), .val (.ref a120), .val (.ref a127), .val (.ref a153), .val (.ref a158), .val (.ref a163), .val (.int (E z568)), .val (.int (E i356)), .val (.int (E i174)), .val (.int (E i357)), .val (.int (E x380)), .val (.int (E x382)), .val (.int (E x384)), .val (.int (E y412)), .val (.int (E y517)), .val (.int (E x520))] [(.int (E x576)), (.int (E x520))])
                              rcases ltN_some hf with ⟨c382, hf⟩ | ⟨c382, hf⟩
                              · refine WGo.st (fun _ q => XS.icmpNo S575.here hx rfl (hb hby e13_382) rfl (tlt c382).2.1 q) ?_
                                show WGo _ _ _ _ _ _ _ _ T574 (mkF m 385 #[.val (.ref a1), .val (.ref a113), .val (.ref a120), .val (.ref a127), .val (.ref a153), .val (.ref a158), .val (.ref a163), .val (.int (E z568)), .val (.int (E i356)), .val (.int (E i174)), .val (.int (E i357)), .val (.int (E x380)), .val (.int (E x382)), .val (.int (E x384)), .val (.int (E y412)), .val (.int (E y517)), .val (.int (E x520))] [])
                                refine WGo.st (fun _ q => XS.aloadN S575.here hx rfl (hb hby e13_385) rfl rfl q) ?_
                                refine w_agf S575 d573 (i := 0) (fi := 11) hown (hwi hw 91 rfl) rfl hF11 rfl rfl (hb hby e13_386) ?_
                                intro T577 S578
                                show WGo _ _ _ _ _ _ _ _ T577 (mkF m 389 #[.val (.ref a1), .val (.ref a113), .val (.ref a120), .val (.ref a127), .val (.ref a153), .val (.ref a158), .val (.ref a163), .val (.int (E z568)), .val (.int (E i356)), .val (.int (E i174)), .val (.int (E i357)), .val (.int (E x380)), .val (.int (E x382)), .val (.int (E x384)), .val (.int (E y412)), .val (.int (E y517)), .val (.int (E x520))] [(.ref r4)])
                                refine WGo.st (fun _ q => XS.iload S578.here hx rfl (hb hby e13_389) rfl q) ?_
                                refine WGo.st (fun _ q => XS.iload S578.here hx rfl (hb hby e13_391) rfl q) ?_
                                refine w_ast S578 d573 (i := 11) rfl rfl (hb hby e13_393) rfl hf ?_
                                intro T580 h581 A579 S582 d583 hf
                                show WGo _ _ _ _ _ _ _ _ T580 (mkF m 394 #[.val (.ref a1), .val (.ref a113), .val (.ref a120), .val (.ref a127), .val (.ref a153), .val (.ref a158), .val (.ref a163), .val (.int (E z568)), .val (.int (E i356)), .val (.int (E i174)), .val (.int (E i357)), .val (.int (E x380)), .val (.int (E x382)), .val (.int (E x384)), .val (.int (E y412)), .val (.int (E y517)), .val (.int (E x520))] [])
                                refine WGo.st (fun _ q => XS.aloadN S582.here hx rfl (hb hby e13_394) rfl rfl q) ?_
                                refine w_agf S582 d583 (i := 0) (fi := 12) hown (hwi hw 93 rfl) rfl hF12 rfl rfl (hb hby e13_395) ?_
                                intro T584 S585
                                show WGo _ _ _ _ _ _ _ _ T584 (mkF m 398 #[.val (.ref a1), .val (.ref a113), .val (.ref a120), .val (.ref a127), .val (.ref a153), .val (.ref a158), .val (.ref a163), .val (.int (E z568)), .val (.int (E i356)), .val (.int (E i174)), .val (.int (E i357)), .val (.int (E x380)), .val (.int (E x382)), .val (.int (E x384)), .val (.int (E y412)), .val (.int (E y517)), .val (.int (E x520))] [(.ref r5)])
                                refine WGo.st (fun _ q => XS.iload S585.here hx rfl (hb hby e13_398) rfl q) ?_
                                refine WGo.st (fun _ q => XS.iload S585.here hx rfl (hb hby e13_400) rfl q) ?_
                                refine WGo.st (fun _ q => XS.iconst S585.here hx rfl (hb hby e13_402) q) ?_
                                refine w_shrN S585 rfl (hb hby e13_403) rfl hf ?_
                                intro z586 hf
                                show WGo _ _ _ _ _ _ _ _ T584 (mkF m 404 #[.val (.ref a1), .val (.ref a113), .val (.ref a120), .val (.ref a127), .val (.ref a153), .val (.ref a158), .val (.ref a163), .val (.int (E z568)), .val (.int (E i356)), .val (.int (E i174)), .val (.int (E i357)), .val (.int (E x380)), .val (.int (E x382)), .val (.int (E x384)), .val (.int (E y412)), .val (.int (E y517)), .val (.int (E x520))] [(.int (E z586)), (.int (E x382)), (.ref r5)])
                                refine w_ast S585 d583 (i := 12) rfl rfl (hb hby e13_404) rfl hf ?_
                                intro T588 h589 A587 S590 d591 hf
                                show WGo _ _ _ _ _ _ _ _ T588 (mkF m 405 #[.val (.ref a1), .val (.ref a113), .val (.ref a120), .val (.ref a127), .val (.ref a153), .val (.ref a158), .val (.ref a163), .val (.int (E z568)), .val (.int (E i356)), .val (.int (E i174)), .val (.int (E i357)), .val (.int (E x380)), .val (.int (E x382)), .val (.int (E x384)), .val (.int (E y412)), .val (.int (E y517)), .val (.int (E x520))] [])
                                refine WGo.st (fun _ q => XS.goto S590.here hx rfl (pc0 := 405) (pc' := 127) rfl (hb hby e13_405) (by decide) (by decide) q) ?_
                                show WGo _ _ _ _ _ _ _ _ T588 (mkF m 127 #[.val (.ref a1), .val (.ref a113), .val (.ref a120), .val (.ref a127), .val (.ref a153), .val (.ref a158), .val (.ref a163), .val (.int (E z568)), .val (.int (E i356)), .val (.int (E i174)), .val (.int (E i357)), .val (.int (E x380)), .val (.int (E x382)), .val (.int (E x384)), .val (.int (E y412)), .val (.int (E y517)), .val (.int (E x520))] [])
                                exact ih T588 h589 (.val (.int (E x380))) (.val (.int (E x382))) (.val (.int (E x384))) (.val (.int (E y412))) (.val (.int (E y517))) (.val (.int (E x520))) z568 i356 i357 A358 A359 A360 A361 A579 A587 A364 A365 A366 A367 A398 A557 A563 A569 S590 (One.val rfl) (One.val rfl) (One.val rfl) (One.val rfl) (One.val rfl) (One.val rfl) d591  hf
                              · refine WGo.st (fun _ q => XS.icmpYes S575.here hx rfl (pc0 := 382) (pc' := 405) rfl (hb hby e13_382) rfl (flt c382).2.1 (by decide) (by decide) q) ?_
                                show WGo _ _ _ _ _ _ _ _ T574 (mkF m 405 #[.val (.ref a1), .val (.ref a113), .val (.ref a120), .val (.ref a127), .val (.ref a153), .val (.ref a158), .val (.ref a163), .val (.int (E z568)), .val (.int (E i356)), .val (.int (E i174)), .val (.int (E i357)), .val (.int (E x380)), .val (.int (E x382)), .val (.int (E x384)), .val (.int (E y412)), .val (.int (E y517)), .val (.int (E x520))] [])
                                refine WGo.st (fun _ q => XS.goto S575.here hx rfl (pc0 := 405) (pc' := 127) rfl (hb hby e13_405) (by decide) (by decide) q) ?_
                                show WGo _ _ _ _ _ _ _ _ T574 (mkF m 127 #[.val (.ref a1), .val (.ref a113), .val (.ref a120), .val (.ref a127), .val (.ref a153), .val (.ref a158), .val (.ref a163), .val (.int (E z568)), .val (.int (E i356)), .val (.int (E i174)), .val (.int (E i357)), .val (.int (E x380)), .val (.int (E x382)), .val (.int (E x384)), .val (.int (E y412)), .val (.int (E y517)), .val (.int (E x520))] [])
                                exact ih T574 h571 (.val (.int (E x380))) (.val (.int (E x382))) (.val (.int (E x384))) (.val (.int (E y412))) (.val (.int (E y517))) (.val (.int (E x520))) z568 i356 i357 A358 A359 A360 A361 A362 A363 A364 A365 A366 A367 A398 A557 A563 A569 S575 (One.val rfl) (One.val rfl) (One.val rfl) (One.val rfl) (One.val rfl) (One.val rfl) d573  hf
                        · refine WGo.st (fun _ q => XS.icmpYes S519.here hx rfl (pc0 := 289) (pc' := 405) rfl (hb hby e13_289) rfl (flt c289).2.1 (by decide) (by decide) q) ?_
                          show WGo _ _ _ _ _ _ _ _ T518 (mkF m 405 #[.val (.ref a1), .val (.ref a113), .val (.ref a120), .val (.ref a127), .val (.ref a153), .val (.ref a158), .val (.ref a163), .val (.int (E i355)), .val (.int (E i356)), .val (.int (E i174)), .val (.int (E i357)), .val (.int (E x380)), .val (.int (E x382)), .val (.int (E x384)), .val (.int (E y412)), .val (.int (E y517)), .val (.int (E x520))] [])
                          refine WGo.st (fun _ q => XS.goto S519.here hx rfl (pc0 := 405) (pc' := 127) rfl (hb hby e13_405) (by decide) (by decide) q) ?_
                          show WGo _ _ _ _ _ _ _ _ T518 (mkF m 127 #[.val (.ref a1), .val (.ref a113), .val (.ref a120), .val (.ref a127), .val (.ref a153), .val (.ref a158), .val (.ref a163), .val (.int (E i355)), .val (.int (E i356)), .val (.int (E i174)), .val (.int (E i357)), .val (.int (E x380)), .val (.int (E x382)), .val (.int (E x384)), .val (.int (E y412)), .val (.int (E y517)), .val (.int (E x520))] [])
                          exact ih T518 h512 (.val (.int (E x380))) (.val (.int (E x382))) (.val (.int (E x384))) (.val (.int (E y412))) (.val (.int (E y517))) (.val (.int (E x520))) i355 i356 i357 A358 A359 A360 A361 A362 A363 A364 A365 A366 A367 A398 A369 A370 A371 S519 (One.val rfl) (One.val rfl) (One.val rfl) (One.val rfl) (One.val rfl) (One.val rfl) d516  hf
              · refine WGo.st (fun _ q => XS.ifYes S353.here hx rfl (pc0 := 129) (pc' := 408) rfl (hb hby e13_129) rfl ((if0E _ _).trans (flt c129).2.2.2) (by decide) (by decide) q) ?_
                show WGo _ _ _ _ _ _ _ _ T351 (mkF m 408 #[.val (.ref a1), .val (.ref a113), .val (.ref a120), .val (.ref a127), .val (.ref a153), .val (.ref a158), .val (.ref a163), .val (.int (E i355)), .val (.int (E i356)), .val (.int (E i174)), .val (.int (E i357)), u372, u373, u374, u375, u376, u377] [])
                exact hK127 T351 h352 u372 u373 u374 u375 u376 u377 i355 i356 i357 A358 A359 A360 A361 A362 A363 A364 A365 A366 A367 A368 A369 A370 A371 S353 hu372 hu373 hu374 hu375 hu376 hu377 d354 hf
          exact hL127 T347 h348 u190 u191 u192 u193 u194 u195 i172 z340 65 y327 y328 y329 y330 y331 y332 y333 y334 A335 A341 A346 A186 A187 A188 S349 hu190 hu191 hu192 hu193 hu194 hu195 d350 hf
        · refine WGo.st (fun _ q => XS.ifNo S318.here hx rfl (hb hby e13_91) rfl ((if0E _ _).trans (flt c91).1) q) ?_
          show WGo _ _ _ _ _ _ _ _ T317 (mkF m 94 #[.val (.ref a1), .val (.ref a113), .val (.ref a120), .val (.ref a127), .val (.ref a153), .val (.ref a158), .val (.ref a163), .val (.int (E i172)), .val (.int (E i173)), .val (.int (E i174)), u189, u190, u191, u192, u193, u194, u195] [])
          refine WGo.st (fun _ q => XS.goto S318.here hx rfl (pc0 := 94) (pc' := 408) rfl (hb hby e13_94) (by decide) (by decide) q) ?_
          show WGo _ _ _ _ _ _ _ _ T317 (mkF m 408 #[.val (.ref a1), .val (.ref a113), .val (.ref a120), .val (.ref a127), .val (.ref a153), .val (.ref a158), .val (.ref a163), .val (.int (E i172)), .val (.int (E i173)), .val (.int (E i174)), u189, u190, u191, u192, u193, u194, u195] [])
          refine w_incN S318 rfl (hb hby e13_408) (y := 65) (by decide) rfl (l1 := fun z0 => #[.val (.ref a1), .val (.ref a113), .val (.ref a120), .val (.ref a127), .val (.ref a153), .val (.ref a158), .val (.ref a163), .val (.int (E i172)), .val (.int (E i173)), .val (.int (E z0)), u189, u190, u191, u192, u193, u194, u195]) (fun _ => rfl) (fun _ => rfl) hf ?_
          intro z592 hf
          show WGo _ _ _ _ _ _ _ _ T317 (mkF m 411 #[.val (.ref a1), .val (.ref a113), .val (.ref a120), .val (.ref a127), .val (.ref a153), .val (.ref a158), .val (.ref a163), .val (.int (E i172)), .val (.int (E i173)), .val (.int (E z592)), u189, u190, u191, u192, u193, u194, u195] [])
          refine WGo.st (fun _ q => XS.goto S318.here hx rfl (pc0 := 411) (pc' := 75) rfl (hb hby e13_411) (by decide) (by decide) q) ?_
          show WGo _ _ _ _ _ _ _ _ T317 (mkF m 75 #[.val (.ref a1), .val (.ref a113), .val (.ref a120), .val (.ref a127), .val (.ref a153), .val (.ref a158), .val (.ref a163), .val (.int (E i172)), .val (.int (E i173)), .val (.int (E z592)), u189, u190, u191, u192, u193, u194, u195] [])
          exact ih T317 h169 u189 u190 u191 u192 u193 u194 u195 i172 i173 z592 A175 A176 A177 A178 A179 A180 A181 A182 A183 A184 A185 A186 A187 A188 S318 hu189 hu190 hu191 hu192 hu193 hu194 hu195 d171  hf
      · refine WGo.st (fun _ q => XS.icmpYes S316.here hx rfl (pc0 := 81) (pc' := 414) rfl (hb hby e13_81) rfl (flt c81).2.1 (by decide) (by decide) q) ?_
        show WGo _ _ _ _ _ _ _ _ T315 (mkF m 414 #[.val (.ref a1), .val (.ref a113), .val (.ref a120), .val (.ref a127), .val (.ref a153), .val (.ref a158), .val (.ref a163), .val (.int (E i172)), .val (.int (E i173)), .val (.int (E i174)), u189, u190, u191, u192, u193, u194, u195] [])
        exact hK75 T315 h169 u189 u190 u191 u192 u193 u194 u195 i172 i173 i174 A175 A176 A177 A178 A179 A180 A181 A182 A183 A184 A185 A186 A187 A188 S316 hu189 hu190 hu191 hu192 hu193 hu194 hu195 d171 hf
  exact hL75 T164 h165 (.unset) (.unset) (.unset) (.unset) (.unset) (.unset) (.unset) 64 64 64 y110 A1 A2 A3 A4 A5 A6 A7 AZ AZ AZ AZ AZ AZ S166 One.u One.u One.u One.u One.u One.u One.u d167 hf
theorem e19_0 : decode prog_27_method_10_code 0 = .ok (.aload_n 0, 1) := by decide +kernel
theorem e19_1 : decode prog_27_method_10_code 1 = .ok (.getfield 30, 3) := by decide +kernel
theorem e19_4 : decode prog_27_method_10_code 4 = .ok (.newarray .int, 2) := by decide +kernel
theorem e19_6 : decode prog_27_method_10_code 6 = .ok (.astore_n 1, 1) := by decide +kernel
theorem e19_7 : decode prog_27_method_10_code 7 = .ok (.aload_n 0, 1) := by decide +kernel
theorem e19_8 : decode prog_27_method_10_code 8 = .ok (.getfield 30, 3) := by decide +kernel
theorem e19_11 : decode prog_27_method_10_code 11 = .ok (.newarray .int, 2) := by decide +kernel
theorem e19_13 : decode prog_27_method_10_code 13 = .ok (.astore_n 2, 1) := by decide +kernel
theorem e19_14 : decode prog_27_method_10_code 14 = .ok (.aload_n 1, 1) := by decide +kernel
theorem e19_15 : decode prog_27_method_10_code 15 = .ok (.iconst (-1), 1) := by decide +kernel
theorem e19_16 : decode prog_27_method_10_code 16 = .ok (.invokestatic 129, 3) := by decide +kernel
theorem e19_19 : decode prog_27_method_10_code 19 = .ok (.aload_n 0, 1) := by decide +kernel
theorem e19_20 : decode prog_27_method_10_code 20 = .ok (.getfield 30, 3) := by decide +kernel
theorem e19_23 : decode prog_27_method_10_code 23 = .ok (.iconst 1, 1) := by decide +kernel
theorem e19_24 : decode prog_27_method_10_code 24 = .ok (.isub, 1) := by decide +kernel
theorem e19_25 : decode prog_27_method_10_code 25 = .ok (.istore_n 3, 1) := by decide +kernel
theorem e19_26 : decode prog_27_method_10_code 26 = .ok (.iload_n 3, 1) := by decide +kernel
theorem e19_27 : decode prog_27_method_10_code 27 = .ok (.ifCond .lt 29, 3) := by decide +kernel
theorem e19_30 : decode prog_27_method_10_code 30 = .ok (.aload_n 2, 1) := by decide +kernel
theorem e19_31 : decode prog_27_method_10_code 31 = .ok (.iload_n 3, 1) := by decide +kernel
theorem e19_32 : decode prog_27_method_10_code 32 = .ok (.aload_n 1, 1) := by decide +kernel
theorem e19_33 : decode prog_27_method_10_code 33 = .ok (.aload_n 0, 1) := by decide +kernel
theorem e19_34 : decode prog_27_method_10_code 34 = .ok (.getfield 68, 3) := by decide +kernel
theorem e19_37 : decode prog_27_method_10_code 37 = .ok (.iload_n 3, 1) := by decide +kernel
theorem e19_38 : decode prog_27_method_10_code 38 = .ok (.iaload, 1) := by decide +kernel
theorem e19_39 : decode prog_27_method_10_code 39 = .ok (.iaload, 1) := by decide +kernel
theorem e19_40 : decode prog_27_method_10_code 40 = .ok (.iastore, 1) := by decide +kernel
theorem e19_41 : decode prog_27_method_10_code 41 = .ok (.aload_n 1, 1) := by decide +kernel
theorem e19_42 : decode prog_27_method_10_code 42 = .ok (.aload_n 0, 1) := by decide +kernel
theorem e19_43 : decode prog_27_method_10_code 43 = .ok (.getfield 68, 3) := by decide +kernel
theorem e19_46 : decode prog_27_method_10_code 46 = .ok (.iload_n 3, 1) := by decide +kernel
theorem e19_47 : decode prog_27_method_10_code 47 = .ok (.iaload, 1) := by decide +kernel
theorem e19_48 : decode prog_27_method_10_code 48 = .ok (.iload_n 3, 1) := by decide +kernel
theorem e19_49 : decode prog_27_method_10_code 49 = .ok (.iastore, 1) := by decide +kernel
theorem e19_50 : decode prog_27_method_10_code 50 = .ok (.iinc 3 (-1), 3) := by decide +kernel
theorem e19_53 : decode prog_27_method_10_code 53 = .ok (.goto (-27), 3) := by decide +kernel
theorem e19_56 : decode prog_27_method_10_code 56 = .ok (.aload_n 0, 1) := by decide +kernel
theorem e19_57 : decode prog_27_method_10_code 57 = .ok (.getfield 30, 3) := by decide +kernel
theorem e19_60 : decode prog_27_method_10_code 60 = .ok (.newarray .int, 2) := by decide +kernel
theorem e19_62 : decode prog_27_method_10_code 62 = .ok (.astore_n 3, 1) := by decide +kernel
theorem e19_63 : decode prog_27_method_10_code 63 = .ok (.iconst 0, 1) := by decide +kernel
theorem e19_64 : decode prog_27_method_10_code 64 = .ok (.istore 4, 2) := by decide +kernel
theorem e19_66 : decode prog_27_method_10_code 66 = .ok (.iload 4, 2) := by decide +kernel
theorem e19_68 : decode prog_27_method_10_code 68 = .ok (.aload_n 0, 1) := by decide +kernel
theorem e19_69 : decode prog_27_method_10_code 69 = .ok (.getfield 30, 3) := by decide +kernel
theorem e19_72 : decode prog_27_method_10_code 72 = .ok (.if_icmp .ge 112, 3) := by decide +kernel
theorem e19_75 : decode prog_27_method_10_code 75 = .ok (.aload_n 1, 1) := by decide +kernel
theorem e19_76 : decode prog_27_method_10_code 76 = .ok (.iload 4, 2) := by decide +kernel
theorem e19_78 : decode prog_27_method_10_code 78 = .ok (.iaload, 1) := by decide +kernel
theorem e19_79 : decode prog_27_method_10_code 79 = .ok (.istore 5, 2) := by decide +kernel
theorem e19_81 : decode prog_27_method_10_code 81 = .ok (.iload 5, 2) := by decide +kernel
theorem e19_83 : decode prog_27_method_10_code 83 = .ok (.ifCond .lt 95, 3) := by decide +kernel
theorem e19_86 : decode prog_27_method_10_code 86 = .ok (.aload_n 0, 1) := by decide +kernel
theorem e19_87 : decode prog_27_method_10_code 87 = .ok (.getfield 56, 3) := by decide +kernel
theorem e19_90 : decode prog_27_method_10_code 90 = .ok (.iload 5, 2) := by decide +kernel
theorem e19_92 : decode prog_27_method_10_code 92 = .ok (.iaload, 1) := by decide +kernel
theorem e19_93 : decode prog_27_method_10_code 93 = .ok (.istore 6, 2) := by decide +kernel
theorem e19_95 : decode prog_27_method_10_code 95 = .ok (.iload 6, 2) := by decide +kernel
theorem e19_97 : decode prog_27_method_10_code 97 = .ok (.ifCond .ge 6, 3) := by decide +kernel
theorem e19_100 : decode prog_27_method_10_code 100 = .ok (.goto 69, 3) := by decide +kernel
theorem e19_103 : decode prog_27_method_10_code 103 = .ok (.aload_n 0, 1) := by decide +kernel
theorem e19_104 : decode prog_27_method_10_code 104 = .ok (.getfield 80, 3) := by decide +kernel
theorem e19_107 : decode prog_27_method_10_code 107 = .ok (.iload 5, 2) := by decide +kernel
theorem e19_109 : decode prog_27_method_10_code 109 = .ok (.iconst (-1), 1) := by decide +kernel
theorem e19_110 : decode prog_27_method_10_code 110 = .ok (.iastore, 1) := by decide +kernel
theorem e19_111 : decode prog_27_method_10_code 111 = .ok (.aload_n 0, 1) := by decide +kernel
theorem e19_112 : decode prog_27_method_10_code 112 = .ok (.getfield 77, 3) := by decide +kernel
theorem e19_115 : decode prog_27_method_10_code 115 = .ok (.iload 6, 2) := by decide +kernel
theorem e19_117 : decode prog_27_method_10_code 117 = .ok (.iaload, 1) := by decide +kernel
theorem e19_118 : decode prog_27_method_10_code 118 = .ok (.ifCond .ge 23, 3) := by decide +kernel
theorem e19_121 : decode prog_27_method_10_code 121 = .ok (.aload_n 0, 1) := by decide +kernel
theorem e19_122 : decode prog_27_method_10_code 122 = .ok (.getfield 77, 3) := by decide +kernel
theorem e19_125 : decode prog_27_method_10_code 125 = .ok (.iload 6, 2) := by decide +kernel
theorem e19_127 : decode prog_27_method_10_code 127 = .ok (.iload 5, 2) := by decide +kernel
theorem e19_129 : decode prog_27_method_10_code 129 = .ok (.iastore, 1) := by decide +kernel
theorem e19_130 : decode prog_27_method_10_code 130 = .ok (.aload_n 0, 1) := by decide +kernel
theorem e19_131 : decode prog_27_method_10_code 131 = .ok (.getfield 83, 3) := by decide +kernel
theorem e19_134 : decode prog_27_method_10_code 134 = .ok (.iload 5, 2) := by decide +kernel
theorem e19_136 : decode prog_27_method_10_code 136 = .ok (.iconst (-1), 1) := by decide +kernel
theorem e19_137 : decode prog_27_method_10_code 137 = .ok (.iastore, 1) := by decide +kernel
theorem e19_138 : decode prog_27_method_10_code 138 = .ok (.goto 25, 3) := by decide +kernel
theorem e19_141 : decode prog_27_method_10_code 141 = .ok (.aload_n 0, 1) := by decide +kernel
theorem e19_142 : decode prog_27_method_10_code 142 = .ok (.getfield 80, 3) := by decide +kernel
theorem e19_145 : decode prog_27_method_10_code 145 = .ok (.aload_n 3, 1) := by decide +kernel
theorem e19_146 : decode prog_27_method_10_code 146 = .ok (.iload 6, 2) := by decide +kernel
theorem e19_148 : decode prog_27_method_10_code 148 = .ok (.iaload, 1) := by decide +kernel
theorem e19_149 : decode prog_27_method_10_code 149 = .ok (.iload 5, 2) := by decide +kernel
theorem e19_151 : decode prog_27_method_10_code 151 = .ok (.iastore, 1) := by decide +kernel
theorem e19_152 : decode prog_27_method_10_code 152 = .ok (.aload_n 0, 1) := by decide +kernel
theorem e19_153 : decode prog_27_method_10_code 153 = .ok (.getfield 83, 3) := by decide +kernel
theorem e19_156 : decode prog_27_method_10_code 156 = .ok (.iload 5, 2) := by decide +kernel
theorem e19_158 : decode prog_27_method_10_code 158 = .ok (.aload_n 3, 1) := by decide +kernel
theorem e19_159 : decode prog_27_method_10_code 159 = .ok (.iload 6, 2) := by decide +kernel
theorem e19_161 : decode prog_27_method_10_code 161 = .ok (.iaload, 1) := by decide +kernel
theorem e19_162 : decode prog_27_method_10_code 162 = .ok (.iastore, 1) := by decide +kernel
theorem e19_163 : decode prog_27_method_10_code 163 = .ok (.aload_n 3, 1) := by decide +kernel
theorem e19_164 : decode prog_27_method_10_code 164 = .ok (.iload 6, 2) := by decide +kernel
theorem e19_166 : decode prog_27_method_10_code 166 = .ok (.iload 5, 2) := by decide +kernel
theorem e19_168 : decode prog_27_method_10_code 168 = .ok (.iastore, 1) := by decide +kernel
theorem e19_169 : decode prog_27_method_10_code 169 = .ok (.aload_n 2, 1) := by decide +kernel
theorem e19_170 : decode prog_27_method_10_code 170 = .ok (.iload 5, 2) := by decide +kernel
theorem e19_172 : decode prog_27_method_10_code 172 = .ok (.iaload, 1) := by decide +kernel
theorem e19_173 : decode prog_27_method_10_code 173 = .ok (.istore 5, 2) := by decide +kernel
theorem e19_175 : decode prog_27_method_10_code 175 = .ok (.goto (-94), 3) := by decide +kernel
theorem e19_178 : decode prog_27_method_10_code 178 = .ok (.iinc 4 1, 3) := by decide +kernel
theorem e19_181 : decode prog_27_method_10_code 181 = .ok (.goto (-115), 3) := by decide +kernel
theorem e19_184 : decode prog_27_method_10_code 184 = .ok (.return_, 1) := by decide +kernel
abbrev R_So : Room := { frames := 1, cells := 3, slots := 12, locals := 60 }
def fSo_L81b {Rt : Type} (nn : Nat) (A1 : Nat) (A132 : Nat) (Kx81 : Nat → Nat → Nat → Nat → Nat → Option Rt) (gv81 : Nat → Nat → Nat → Nat → Nat → Option Rt) (i158 : Nat) (A159 : Nat) (A160 : Nat) (A161 : Nat) (A162 : Nat) : Option Rt := ltN i158 64 (Kx81 i158 A159 A160 A161 A162) (rdN A1 nn i158 fun x167 => (ltN x167 64 (rdN A132 nn i158 fun x168 => (gv81 x168 A159 A160 A161 A162)) (wrN A160 nn i158 63 fun A171 => (rdN A159 nn x167 fun x178 => (ltN x178 64 (wrN A159 nn x167 i158 fun A181 => (wrN A161 nn i158 63 fun A188 => (wrN A162 nn x167 i158 fun A193 => (rdN A132 nn i158 fun x198 => (gv81 x198 A181 A171 A188 A193))))) (rdN A162 nn x167 fun x201 => (wrN A171 nn x201 i158 fun A202 => (rdN A162 nn x167 fun x209 => (wrN A161 nn i158 x209 fun A210 => (wrN A162 nn x167 i158 fun A215 => (rdN A132 nn i158 fun x220 => (gv81 x220 A159 A202 A210 A215))))))))))))
def fSo_L81 {Rt : Type} (nn : Nat) (A1 : Nat) (A132 : Nat) (Kx81 : Nat → Nat → Nat → Nat → Nat → Option Rt) : Nat → Nat → Nat → Nat → Nat → Option Rt := it8 (fSo_L81b nn A1 A132 Kx81) (fun _ _ _ _ _ => none)
def fSo_L66b {Rt : Type} (nn : Nat) (A1 : Nat) (A131 : Nat) (A132 : Nat) (Kx66 : Nat → Nat → Nat → Nat → Nat → Option Rt) (gv66 : Nat → Nat → Nat → Nat → Nat → Option Rt) (i144 : Nat) (A145 : Nat) (A146 : Nat) (A147 : Nat) (A148 : Nat) : Option Rt := ltN i144 nn (rdN A131 nn i144 fun x153 => (fSo_L81 nn A1 A132 (fun i158 A159 A160 A161 A162 => addN i144 65 fun z164 => (gv66 z164 A159 A160 A161 A162)) x153 A145 A146 A147 A148)) (Kx66 i144 A145 A146 A147 A148)
def fSo_L66 {Rt : Type} (nn : Nat) (A1 : Nat) (A131 : Nat) (A132 : Nat) (Kx66 : Nat → Nat → Nat → Nat → Nat → Option Rt) : Nat → Nat → Nat → Nat → Nat → Option Rt := it8 (fSo_L66b nn A1 A131 A132 Kx66) (fun _ _ _ _ _ => none)
def fSo_L26b {Rt : Type} (nn : Nat) (A0 : Nat) (Kx26 : Nat → Nat → Nat → Option Rt) (gv26 : Nat → Nat → Nat → Option Rt) (i130 : Nat) (A131 : Nat) (A132 : Nat) : Option Rt := ltN i130 64 (Kx26 i130 A131 A132) (rdN A0 nn i130 fun x223 => (rdN A131 nn x223 fun x224 => (wrN A132 nn i130 x224 fun A225 => (rdN A0 nn i130 fun x232 => (wrN A131 nn x232 i130 fun A233 => (addN i130 63 fun z238 => (gv26 z238 A233 A225)))))))
def fSo_L26 {Rt : Type} (nn : Nat) (A0 : Nat) (Kx26 : Nat → Nat → Nat → Option Rt) : Nat → Nat → Nat → Option Rt := it8 (fSo_L26b nn A0 Kx26) (fun _ _ _ => none)
def fSo {Rt : Type} (nn : Nat) (A0 : Nat) (A1 : Nat) (A2 : Nat) (A3 : Nat) (A4 : Nat) (Kf : Nat → Nat → Nat → Option Rt) : Option Rt := capN nn 4 (capN nn 4 (fFi nn AZ 63 fun y122 => (subN nn 65 fun z125 => (fSo_L26 nn A0 (fun i130 A131 A132 => capN nn 4 (fSo_L66 nn A1 A131 A132 (fun i144 A145 A146 A147 A148 => Kf A145 A146 A147) 64 A2 A3 A4 AZ)) z125 y122 AZ))))
def QSo {Rt : Type} (Z : State) (a0 : Array Value) (n0 : Nat) (h0 : Heap) (a1 : Addr) (s0 : Addr) (s1 : Addr) (s2 : Addr) (s3 : Addr) (s4 : Addr) (F : List (String × String × Value)) (nn : Nat) (A0 : Nat) (A1 : Nat) (A2 : Nat) (A3 : Nat) (A4 : Nat) (Kf : Nat → Nat → Nat → Option Rt) (r : Rt) (v : Option Value) (h : Heap) : Prop := ∃ B2 : Nat, ∃ B3 : Nat, ∃ B4 : Nat, v = none ∧ HS Z a0 n0 h0 [a1, s0, s1, s2, s3, s4] h [ob a1 cA F, ia s0 nn A0, ia s1 nn A1, ia s2 nn B2, ia s3 nn B3, ia s4 nn B4] ∧ Kf B2 B3 B4 = some r
theorem ef_So (m : MethodId) (a1 : Addr) : entryFrame m #[(.ref a1)] 7 = mkF m 0 #[.val (.ref a1), .unset, .unset, .unset, .unset, .unset, .unset] [] := by first | (simp [entryFrame, mkF, argsToLocals, Value.category, maxLocals]; done) | rfl
set_option maxRecDepth 65536 in
set_option maxHeartbeats 40000000 in
theorem rm_So {Rt : Type} (l : Launch) (Z : State) (a0 : Array Value) (hw : ∀ d ∈ tables_1, d.before a0 Z = true) (n0 : Nat) (h0 : Heap) (a1 : Addr) (s0 : Addr) (s1 : Addr) (s2 : Addr) (s3 : Addr) (s4 : Addr) (F : List (String × String × Value)) (nn : Nat) (A0 : Nat) (A1 : Nat) (A2 : Nat) (A3 : Nat) (A4 : Nat) (Z0 : n0 ≤ h0.size) (hF13 : FL F 13 "lowpoint" "[I" (.ref s0)) (hF9 : FL F 9 "parent" "[I" (.ref s1)) (hF16 : FL F 16 "separatedHead" "[I" (.ref s2)) (hF17 : FL F 17 "separatedNext" "[I" (.ref s3)) (hF18 : FL F 18 "separatedPrev" "[I" (.ref s4)) (hF4 : FL F 4 "n" "I" (.int (E nn))) (d0 : HS Z a0 n0 h0 [a1, s0, s1, s2, s3, s4] h0 [ob a1 cA F, ia s0 nn A0, ia s1 nn A1, ia s2 nn A2, ia s3 nn A3, ia s4 nn A4]) (Kf : Nat → Nat → Nat → Option Rt) (r : Rt) (hf : fSo nn A0 A1 A2 A3 A4 Kf = some r) :
    WCon l Z n0 h0 (⟨"com/example/ookayama/ookayama/EdgeAddition", "sortSeparatedChildren", "()V"⟩ : MethodName) prog_27_method_10_code 7 none [] R_So #[(.ref a1)] (QSo Z a0 n0 h0 a1 s0 s1 s2 s3 s4 F nn A0 A1 A2 A3 A4 Kf r) := by
  refine WCon.of (by first | exact plainFor_of_name (by decide +kernel) | decide +kernel) Z0 ?_
  intro p e s m below meth c T hx hZ hby hml hown hnm hret S
  refine WGo.cast (ef_So m a1) ?_
  rw [fSo] at hf
  show WGo _ _ _ _ _ _ _ _ T (mkF m 0 #[.val (.ref a1), .unset, .unset, .unset, .unset, .unset, .unset] [])
  refine WGo.st (fun _ q => XS.aloadN S.here hx rfl (hb hby e19_0) rfl rfl q) ?_
  refine w_agf S d0 (i := 0) (fi := 4) hown (hwi hw 46 rfl) rfl hF4 rfl rfl (hb hby e19_1) ?_
  intro T101 S102
  show WGo _ _ _ _ _ _ _ _ T101 (mkF m 4 #[.val (.ref a1), .unset, .unset, .unset, .unset, .unset, .unset] [(.int (E nn))])
  refine w_anw S102 d0 (hwi hw 0 rfl) rfl rfl (hb hby e19_4) rfl (cap := 4) hf (by decide) (by decide) (by decide) ?_
  intro T104 h105 a103 S106 d107 hf
  show WGo _ _ _ _ _ _ _ _ T104 (mkF m 6 #[.val (.ref a1), .unset, .unset, .unset, .unset, .unset, .unset] [(.ref a103)])
  refine WGo.st (fun _ q => XS.astoreN S106.here hx rfl (hb hby e19_6) rfl rfl (l' := #[.val (.ref a1), .val (.ref a103), .unset, .unset, .unset, .unset, .unset]) rfl q) ?_
  show WGo _ _ _ _ _ _ _ _ T104 (mkF m 7 #[.val (.ref a1), .val (.ref a103), .unset, .unset, .unset, .unset, .unset] [])
  refine WGo.st (fun _ q => XS.aloadN S106.here hx rfl (hb hby e19_7) rfl rfl q) ?_
  refine w_agf S106 d107 (i := 0) (fi := 4) hown (hwi hw 46 rfl) rfl hF4 rfl rfl (hb hby e19_8) ?_
  intro T108 S109
  show WGo _ _ _ _ _ _ _ _ T108 (mkF m 11 #[.val (.ref a1), .val (.ref a103), .unset, .unset, .unset, .unset, .unset] [(.int (E nn))])
  refine w_anw S109 d107 (hwi hw 0 rfl) rfl rfl (hb hby e19_11) rfl (cap := 4) hf (by decide) (by decide) (by decide) ?_
  intro T111 h112 a110 S113 d114 hf
  show WGo _ _ _ _ _ _ _ _ T111 (mkF m 13 #[.val (.ref a1), .val (.ref a103), .unset, .unset, .unset, .unset, .unset] [(.ref a110)])
  refine WGo.st (fun _ q => XS.astoreN S113.here hx rfl (hb hby e19_13) rfl rfl (l' := #[.val (.ref a1), .val (.ref a103), .val (.ref a110), .unset, .unset, .unset, .unset]) rfl q) ?_
  show WGo _ _ _ _ _ _ _ _ T111 (mkF m 14 #[.val (.ref a1), .val (.ref a103), .val (.ref a110), .unset, .unset, .unset, .unset] [])
  refine WGo.st (fun _ q => XS.aloadN S113.here hx rfl (hb hby e19_14) rfl rfl q) ?_
  refine WGo.st (fun _ q => XS.iconst S113.here hx rfl (hb hby e19_15) q) ?_
  refine w_static S113 (y := (⟨"java/util/Arrays", "fill", "([II)V"⟩ : MethodName)) hown (hwi hw 56 rfl) (hwi hw 57 rfl) (hwi hw 58 rfl) (hwi hw 59 rfl) (by decide) (rm_Fi l Z a0 hw n0 h112 a103 nn AZ 63 S113.ge  (HS.pw d114 [6] (by decide) rfl rfl) _ _ hf) (W := 0) (by decide) (by decide) (by decide) (by decide) rfl (by rw [hml]; rfl) (argsL := [(.ref a103), (.int (E 63))]) (rest := []) (ps := [(.array .int), .int]) (rt := none) (by decide) rfl rfl rfl (by show 2 * 0 + _ ≤ _; exact Nat.le_of_eq rfl) (hb hby e19_16) ?_
  intro T115 h117 w118 S116 q119
  obtain ⟨y122, rfl, d120, hf⟩ := q119
  have d121 : HS Z a0 n0 h0 [a1, s0, s1, s2, s3, s4] h117 [ob a1 cA F, ia s0 nn A0, ia s1 nn A1, ia s2 nn A2, ia s3 nn A3, ia s4 nn A4, ia a103 nn y122, ia a110 nn AZ] := HS.call d114 [6] [ia a103 nn AZ] [ia a103 nn y122] [] (by decide) rfl rfl d120
  show WGo _ _ _ _ _ _ _ _ T115 (mkF m 19 #[.val (.ref a1), .val (.ref a103), .val (.ref a110), .unset, .unset, .unset, .unset] [])
  refine WGo.st (fun _ q => XS.aloadN S116.here hx rfl (hb hby e19_19) rfl rfl q) ?_
  refine w_agf S116 d121 (i := 0) (fi := 4) hown (hwi hw 46 rfl) rfl hF4 rfl rfl (hb hby e19_20) ?_
  intro T123 S124
  show WGo _ _ _ _ _ _ _ _ T123 (mkF m 23 #[.val (.ref a1), .val (.ref a103), .val (.ref a110), .unset, .unset, .unset, .unset] [(.int (E nn))])
  refine WGo.st (fun _ q => XS.iconst S124.here hx rfl (hb hby e19_23) q) ?_
  refine w_subN S124 rfl (hb hby e19_24) rfl hf ?_
  intro z125 hf
  show WGo _ _ _ _ _ _ _ _ T123 (mkF m 25 #[.val (.ref a1), .val (.ref a103), .val (.ref a110), .unset, .unset, .unset, .unset] [(.int (E z125))])
  refine WGo.st (fun _ q => XS.istoreN S124.here hx rfl (hb hby e19_25) rfl (l' := #[.val (.ref a1), .val (.ref a103), .val (.ref a110), .val (.int (E z125)), .unset, .unset, .unset]) rfl q) ?_
  show WGo _ _ _ _ _ _ _ _ T123 (mkF m 26 #[.val (.ref a1), .val (.ref a103), .val (.ref a110), .val (.int (E z125)), .unset, .unset, .unset] [])
  obtain ⟨Kx26, eKx26⟩ : ∃ K : Nat → Nat → Nat → Option Rt, K = (fun i130 A131 A132 => capN nn 4 (fSo_L66 nn A1 A131 A132 (fun i144 A145 A146 A147 A148 => Kf A145 A146 A147) 64 A2 A3 A4 AZ)) := ⟨_, rfl⟩
  rw [← eKx26] at hf
  have hK26 : ∀ (T126 : State) (h127 : Heap) (i130 : Nat) (A131 : Nat) (A132 : Nat), WSt p l e R_So s m #[(.ref a1)] below meth c Z n0 T126 h127 (2) (8) → HS Z a0 n0 h0 [a1, s0, s1, s2, s3, s4] h127 [ob a1 cA F, ia s0 nn A0, ia s1 nn A1, ia s2 nn A2, ia s3 nn A3, ia s4 nn A4, ia a103 nn A131, ia a110 nn A132] → Kx26 i130 A131 A132 = some r → WGo p e below s n0 (QSo Z a0 n0 h0 a1 s0 s1 s2 s3 s4 F nn A0 A1 A2 A3 A4 Kf r) R_So.cells R_So.slots T126 (mkF m 56 #[.val (.ref a1), .val (.ref a103), .val (.ref a110), .val (.int (E i130)), .unset, .unset, .unset] []) := by
    intro T126 h127  i130 A131 A132 S128  d129 hf
    rw [eKx26] at hf
    show WGo _ _ _ _ _ _ _ _ T126 (mkF m 56 #[.val (.ref a1), .val (.ref a103), .val (.ref a110), .val (.int (E i130)), .unset, .unset, .unset] [])
    refine WGo.st (fun _ q => XS.aloadN S128.here hx rfl (hb hby e19_56) rfl rfl q) ?_
    refine w_agf S128 d129 (i := 0) (fi := 4) hown (hwi hw 46 rfl) rfl hF4 rfl rfl (hb hby e19_57) ?_
    intro T133 S134
    show WGo _ _ _ _ _ _ _ _ T133 (mkF m 60 #[.val (.ref a1), .val (.ref a103), .val (.ref a110), .val (.int (E i130)), .unset, .unset, .unset] [(.int (E nn))])
    refine w_anw S134 d129 (hwi hw 0 rfl) rfl rfl (hb hby e19_60) rfl (cap := 4) hf (by decide) (by decide) (by decide) ?_
    intro T136 h137 a135 S138 d139 hf
    show WGo _ _ _ _ _ _ _ _ T136 (mkF m 62 #[.val (.ref a1), .val (.ref a103), .val (.ref a110), .val (.int (E i130)), .unset, .unset, .unset] [(.ref a135)])
    refine WGo.st (fun _ q => XS.astoreN S138.here hx rfl (hb hby e19_62) rfl rfl (l' := #[.val (.ref a1), .val (.ref a103), .val (.ref a110), .val (.ref a135), .unset, .unset, .unset]) rfl q) ?_
    show WGo _ _ _ _ _ _ _ _ T136 (mkF m 63 #[.val (.ref a1), .val (.ref a103), .val (.ref a110), .val (.ref a135), .unset, .unset, .unset] [])
    refine WGo.st (fun _ q => XS.iconst S138.here hx rfl (hb hby e19_63) q) ?_
    refine WGo.st (fun _ q => XS.istore S138.here hx rfl (hb hby e19_64) rfl (l' := #[.val (.ref a1), .val (.ref a103), .val (.ref a110), .val (.ref a135), .val (.int (E 64)), .unset, .unset]) rfl q) ?_
    show WGo _ _ _ _ _ _ _ _ T136 (mkF m 66 #[.val (.ref a1), .val (.ref a103), .val (.ref a110), .val (.ref a135), .val (.int (E 64)), .unset, .unset] [])
    obtain ⟨Kx66, eKx66⟩ : ∃ K : Nat → Nat → Nat → Nat → Nat → Option Rt, K = (fun i144 A145 A146 A147 A148 => Kf A145 A146 A147) := ⟨_, rfl⟩
    rw [← eKx66] at hf
    have hK66 : ∀ (T140 : State) (h141 : Heap) (u149 : Slot) (u150 : Slot) (i144 : Nat) (A145 : Nat) (A146 : Nat) (A147 : Nat) (A148 : Nat), WSt p l e R_So s m #[(.ref a1)] below meth c Z n0 T140 h141 (3) (12) → One u149 → One u150 → HS Z a0 n0 h0 [a1, s0, s1, s2, s3, s4] h141 [ob a1 cA F, ia s0 nn A0, ia s1 nn A1, ia s2 nn A145, ia s3 nn A146, ia s4 nn A147, ia a103 nn A131, ia a110 nn A132, ia a135 nn A148] → Kx66 i144 A145 A146 A147 A148 = some r → WGo p e below s n0 (QSo Z a0 n0 h0 a1 s0 s1 s2 s3 s4 F nn A0 A1 A2 A3 A4 Kf r) R_So.cells R_So.slots T140 (mkF m 184 #[.val (.ref a1), .val (.ref a103), .val (.ref a110), .val (.ref a135), .val (.int (E i144)), u149, u150] []) := by
      intro T140 h141 u149 u150 i144 A145 A146 A147 A148 S142 hu149 hu150 d143 hf
      rw [eKx66] at hf
      show WGo _ _ _ _ _ _ _ _ T140 (mkF m 184 #[.val (.ref a1), .val (.ref a103), .val (.ref a110), .val (.ref a135), .val (.int (E i144)), u149, u150] [])
      refine w_retV S142 hret (hb hby e19_184) (by decide) (by decide) ?_
      exact ⟨A145, A146, A147, rfl, HS.take d143 6, hf⟩
    have hL66 : ∀ (T140 : State) (h141 : Heap) (u149 : Slot) (u150 : Slot) (i144 : Nat) (A145 : Nat) (A146 : Nat) (A147 : Nat) (A148 : Nat), WSt p l e R_So s m #[(.ref a1)] below meth c Z n0 T140 h141 (3) (12) → One u149 → One u150 → HS Z a0 n0 h0 [a1, s0, s1, s2, s3, s4] h141 [ob a1 cA F, ia s0 nn A0, ia s1 nn A1, ia s2 nn A145, ia s3 nn A146, ia s4 nn A147, ia a103 nn A131, ia a110 nn A132, ia a135 nn A148] → fSo_L66 nn A1 A131 A132 Kx66 i144 A145 A146 A147 A148 = some r → WGo p e below s n0 (QSo Z a0 n0 h0 a1 s0 s1 s2 s3 s4 F nn A0 A1 A2 A3 A4 Kf r) R_So.cells R_So.slots T140 (mkF m 66 #[.val (.ref a1), .val (.ref a103), .val (.ref a110), .val (.ref a135), .val (.int (E i144)), u149, u150] []) := by
      refine it8_ind (F := fSo_L66b nn A1 A131 A132 Kx66) (P := fun (gv66 : Nat → Nat → Nat → Nat → Nat → Option Rt) => ∀ (T140 : State) (h141 : Heap) (u149 : Slot) (u150 : Slot) (i144 : Nat) (A145 : Nat) (A146 : Nat) (A147 : Nat) (A148 : Nat), WSt p l e R_So s m #[(.ref a1)] below meth c Z n0 T140 h141 (3) (12) → One u149 → One u150 → HS Z a0 n0 h0 [a1, s0, s1, s2, s3, s4] h141 [ob a1 cA F, ia s0 nn A0, ia s1 nn A1, ia s2 nn A145, ia s3 nn A146, ia s4 nn A147, ia a103 nn A131, ia a110 nn A132, ia a135 nn A148] → gv66 i144 A145 A146 A147 A148 = some r → WGo p e below s n0 (QSo Z a0 n0 h0 a1 s0 s1 s2 s3 s4 F nn A0 A1 A2 A3 A4 Kf r) R_So.cells R_So.slots T140 (mkF m 66 #[.val (.ref a1), .val (.ref a103), .val (.ref a110), .val (.ref a135), .val (.int (E i144)), u149, u150] [])) ?_ ?_
      · intro T140 h141 u149 u150 i144 A145 A146 A147 A148 S142 hu149 hu150 d143 hf
        cases (show (none : Option _) = some r from hf)
      · intro gv66 ih T140 h141 u149 u150 i144 A145 A146 A147 A148 S142 hu149 hu150 d143 hf
        rw [fSo_L66b] at hf
        show WGo _ _ _ _ _ _ _ _ T140 (mkF m 66 #[.val (.ref a1), .val (.ref a103), .val (.ref a110), .val (.ref a135), .val (.int (E i144)), u149, u150] [])
        refine WGo.st (fun _ q => XS.iload S142.here hx rfl (hb hby e19_66) rfl q) ?_
        refine WGo.st (fun _ q => XS.aloadN S142.here hx rfl (hb hby e19_68) rfl rfl q) ?_
        refine w_agf S142 d143 (i := 0) (fi := 4) hown (hwi hw 46 rfl) rfl hF4 rfl rfl (hb hby e19_69) ?_
        intro T151 S152
        show WGo _ _ _ _ _ _ _ _ T151 (mkF m 72 #[.val (.ref a1), .val (.ref a103), .val (.ref a110), .val (.ref a135), .val (.int (E i144)), u149, u150] [(.int (E nn)), (.int (E i144))])
        rcases ltN_some hf with ⟨c72, hf⟩ | ⟨c72, hf⟩
        · refine WGo.st (fun _ q => XS.icmpNo S152.here hx rfl (hb hby e19_72) rfl (tlt c72).2.1 q) ?_
          show WGo _ _ _ _ _ _ _ _ T151 (mkF m 75 #[.val (.ref a1), .val (.ref a103), .val (.ref a110), .val (.ref a135), .val (.int (E i144)), u149, u150] [])
          refine WGo.st (fun _ q => XS.aloadN S152.here hx rfl (hb hby e19_75) rfl rfl q) ?_
          refine WGo.st (fun _ q => XS.iload S152.here hx rfl (hb hby e19_76) rfl q) ?_
          refine w_ald S152 d143 (i := 6) rfl rfl (hb hby e19_78) rfl hf ?_
          intro x153 hf
          show WGo _ _ _ _ _ _ _ _ T151 (mkF m 79 #[.val (.ref a1), .val (.ref a103), .val (.ref a110), .val (.ref a135), .val (.int (E i144)), u149, u150] [(.int (E x153))])
          refine WGo.st (fun _ q => XS.istoreS S152.here hx rfl (hb hby e19_79) rfl rfl hu149 q) ?_
          show WGo _ _ _ _ _ _ _ _ T151 (mkF m 81 #[.val (.ref a1), .val (.ref a103), .val (.ref a110), .val (.ref a135), .val (.int (E i144)), .val (.int (E x153)), u150] [])
          obtain ⟨Kx81, eKx81⟩ : ∃ K : Nat → Nat → Nat → Nat → Nat → Option Rt, K = (fun i158 A159 A160 A161 A162 => addN i144 65 fun z164 => (gv66 z164 A159 A160 A161 A162)) := ⟨_, rfl⟩
          rw [← eKx81] at hf
          have hK81 : ∀ (T154 : State) (h155 : Heap) (u163 : Slot) (i158 : Nat) (A159 : Nat) (A160 : Nat) (A161 : Nat) (A162 : Nat), WSt p l e R_So s m #[(.ref a1)] below meth c Z n0 T154 h155 (3) (12) → One u163 → HS Z a0 n0 h0 [a1, s0, s1, s2, s3, s4] h155 [ob a1 cA F, ia s0 nn A0, ia s1 nn A1, ia s2 nn A159, ia s3 nn A160, ia s4 nn A161, ia a103 nn A131, ia a110 nn A132, ia a135 nn A162] → Kx81 i158 A159 A160 A161 A162 = some r → WGo p e below s n0 (QSo Z a0 n0 h0 a1 s0 s1 s2 s3 s4 F nn A0 A1 A2 A3 A4 Kf r) R_So.cells R_So.slots T154 (mkF m 178 #[.val (.ref a1), .val (.ref a103), .val (.ref a110), .val (.ref a135), .val (.int (E i144)), .val (.int (E i158)), u163] []) := by
            intro T154 h155 u163 i158 A159 A160 A161 A162 S156 hu163 d157 hf
            rw [eKx81] at hf
            show WGo _ _ _ _ _ _ _ _ T154 (mkF m 178 #[.val (.ref a1), .val (.ref a103), .val (.ref a110), .val (.ref a135), .val (.int (E i144)), .val (.int (E i158)), u163] [])
            refine w_incN S156 rfl (hb hby e19_178) (y := 65) (by decide) rfl (l1 := fun z0 => #[.val (.ref a1), .val (.ref a103), .val (.ref a110), .val (.ref a135), .val (.int (E z0)), .val (.int (E i158)), u163]) (fun _ => rfl) (fun _ => rfl) hf ?_
            intro z164 hf
            show WGo _ _ _ _ _ _ _ _ T154 (mkF m 181 #[.val (.ref a1), .val (.ref a103), .val (.ref a110), .val (.ref a135), .val (.int (E z164)), .val (.int (E i158)), u163] [])
            refine WGo.st (fun _ q => XS.goto S156.here hx rfl (pc0 := 181) (pc' := 66) rfl (hb hby e19_181) (by decide) (by decide) q) ?_
            show WGo _ _ _ _ _ _ _ _ T154 (mkF m 66 #[.val (.ref a1), .val (.ref a103), .val (.ref a110), .val (.ref a135), .val (.int (E z164)), .val (.int (E i158)), u163] [])
            exact ih T154 h155 (.val (.int (E i158))) u163 z164 A159 A160 A161 A162 S156 (One.val rfl) hu163 d157  hf
          have hL81 : ∀ (T154 : State) (h155 : Heap) (u163 : Slot) (i158 : Nat) (A159 : Nat) (A160 : Nat) (A161 : Nat) (A162 : Nat), WSt p l e R_So s m #[(.ref a1)] below meth c Z n0 T154 h155 (3) (12) → One u163 → HS Z a0 n0 h0 [a1, s0, s1, s2, s3, s4] h155 [ob a1 cA F, ia s0 nn A0, ia s1 nn A1, ia s2 nn A159, ia s3 nn A160, ia s4 nn A161, ia a103 nn A131, ia a110 nn A132, ia a135 nn A162] → fSo_L81 nn A1 A132 Kx81 i158 A159 A160 A161 A162 = some r → WGo p e below s n0 (QSo Z a0 n0 h0 a1 s0 s1 s2 s3 s4 F nn A0 A1 A2 A3 A4 Kf r) R_So.cells R_So.slots T154 (mkF m 81 #[.val (.ref a1), .val (.ref a103), .val (.ref a110), .val (.ref a135), .val (.int (E i144)), .val (.int (E i158)), u163] []) := by
            refine it8_ind (F := fSo_L81b nn A1 A132 Kx81) (P := fun (gv81 : Nat → Nat → Nat → Nat → Nat → Option Rt) => ∀ (T154 : State) (h155 : Heap) (u163 : Slot) (i158 : Nat) (A159 : Nat) (A160 : Nat) (A161 : Nat) (A162 : Nat), WSt p l e R_So s m #[(.ref a1)] below meth c Z n0 T154 h155 (3) (12) → One u163 → HS Z a0 n0 h0 [a1, s0, s1, s2, s3, s4] h155 [ob a1 cA F, ia s0 nn A0, ia s1 nn A1, ia s2 nn A159, ia s3 nn A160, ia s4 nn A161, ia a103 nn A131, ia a110 nn A132, ia a135 nn A162] → gv81 i158 A159 A160 A161 A162 = some r → WGo p e below s n0 (QSo Z a0 n0 h0 a1 s0 s1 s2 s3 s4 F nn A0 A1 A2 A3 A4 Kf r) R_So.cells R_So.slots T154 (mkF m 81 #[.val (.ref a1), .val (.ref a103), .val (.ref a110), .val (.ref a135), .val (.int (E i144)), .val (.int (E i158)), u163] [])) ?_ ?_
            · intro T154 h155 u163 i158 A159 A160 A161 A162 S156 hu163 d157 hf
              cases (show (none : Option _) = some r from hf)
            · intro gv81 ih T154 h155 u163 i158 A159 A160 A161 A162 S156 hu163 d157 hf
              rw [fSo_L81b] at hf
              show WGo _ _ _ _ _ _ _ _ T154 (mkF m 81 #[.val (.ref a1), .val (.ref a103), .val (.ref a110), .val (.ref a135), .val (.int (E i144)), .val (.int (E i158)), u163] [])
              refine WGo.st (fun _ q => XS.iload S156.here hx rfl (hb hby e19_81) rfl q) ?_
              rcases ltN_some hf with ⟨c83, hf⟩ | ⟨c83, hf⟩
              · refine WGo.st (fun _ q => XS.ifYes S156.here hx rfl (pc0 := 83) (pc' := 178) rfl (hb hby e19_83) rfl ((if0E _ _).trans (tlt c83).1) (by decide) (by decide) q) ?_
                show WGo _ _ _ _ _ _ _ _ T154 (mkF m 178 #[.val (.ref a1), .val (.ref a103), .val (.ref a110), .val (.ref a135), .val (.int (E i144)), .val (.int (E i158)), u163] [])
                exact hK81 T154 h155 u163 i158 A159 A160 A161 A162 S156 hu163 d157 hf
              · refine WGo.st (fun _ q => XS.ifNo S156.here hx rfl (hb hby e19_83) rfl ((if0E _ _).trans (flt c83).1) q) ?_
                show WGo _ _ _ _ _ _ _ _ T154 (mkF m 86 #[.val (.ref a1), .val (.ref a103), .val (.ref a110), .val (.ref a135), .val (.int (E i144)), .val (.int (E i158)), u163] [])
                refine WGo.st (fun _ q => XS.aloadN S156.here hx rfl (hb hby e19_86) rfl rfl q) ?_
                refine w_agf S156 d157 (i := 0) (fi := 9) hown (hwi hw 87 rfl) rfl hF9 rfl rfl (hb hby e19_87) ?_
                intro T165 S166
                show WGo _ _ _ _ _ _ _ _ T165 (mkF m 90 #[.val (.ref a1), .val (.ref a103), .val (.ref a110), .val (.ref a135), .val (.int (E i144)), .val (.int (E i158)), u163] [(.ref s1)])
                refine WGo.st (fun _ q => XS.iload S166.here hx rfl (hb hby e19_90) rfl q) ?_
                refine w_ald S166 d157 (i := 2) rfl rfl (hb hby e19_92) rfl hf ?_
                intro x167 hf
                show WGo _ _ _ _ _ _ _ _ T165 (mkF m 93 #[.val (.ref a1), .val (.ref a103), .val (.ref a110), .val (.ref a135), .val (.int (E i144)), .val (.int (E i158)), u163] [(.int (E x167))])
                refine WGo.st (fun _ q => XS.istoreS S166.here hx rfl (hb hby e19_93) rfl rfl hu163 q) ?_
                show WGo _ _ _ _ _ _ _ _ T165 (mkF m 95 #[.val (.ref a1), .val (.ref a103), .val (.ref a110), .val (.ref a135), .val (.int (E i144)), .val (.int (E i158)), .val (.int (E x167))] [])
                refine WGo.st (fun _ q => XS.iload S166.here hx rfl (hb hby e19_95) rfl q) ?_
                rcases ltN_some hf with ⟨c97, hf⟩ | ⟨c97, hf⟩
                · refine WGo.st (fun _ q => XS.ifNo S166.here hx rfl (hb hby e19_97) rfl ((if0E _ _).trans (tlt c97).2.1) q) ?_
                  show WGo _ _ _ _ _ _ _ _ T165 (mkF m 100 #[.val (.ref a1), .val (.ref a103), .val (.ref a110), .val (.ref a135), .val (.int (E i144)), .val (.int (E i158)), .val (.int (E x167))] [])
                  refine WGo.st (fun _ q => XS.goto S166.here hx rfl (pc0 := 100) (pc' := 169) rfl (hb hby e19_100) (by decide) (by decide) q) ?_
                  show WGo _ _ _ _ _ _ _ _ T165 (mkF m 169 #[.val (.ref a1), .val (.ref a103), .val (.ref a110), .val (.ref a135), .val (.int (E i144)), .val (.int (E i158)), .val (.int (E x167))] [])
                  refine WGo.st (fun _ q => XS.aloadN S166.here hx rfl (hb hby e19_169) rfl rfl q) ?_
                  refine WGo.st (fun _ q => XS.iload S166.here hx rfl (hb hby e19_170) rfl q) ?_
                  refine w_ald S166 d157 (i := 7) rfl rfl (hb hby e19_172) rfl hf ?_
                  intro x168 hf
                  show WGo _ _ _ _ _ _ _ _ T165 (mkF m 173 #[.val (.ref a1), .val (.ref a103), .val (.ref a110), .val (.ref a135), .val (.int (E i144)), .val (.int (E i158)), .val (.int (E x167))] [(.int (E x168))])
                  refine WGo.st (fun _ q => XS.istore S166.here hx rfl (hb hby e19_173) rfl (l' := #[.val (.ref a1), .val (.ref a103), .val (.ref a110), .val (.ref a135), .val (.int (E i144)), .val (.int (E x168)), .val (.int (E x167))]) rfl q) ?_
                  show WGo _ _ _ _ _ _ _ _ T165 (mkF m 175 #[.val (.ref a1), .val (.ref a103), .val (.ref a110), .val (.ref a135), .val (.int (E i144)), .val (.int (E x168)), .val (.int (E x167))] [])
                  refine WGo.st (fun _ q => XS.goto S166.here hx rfl (pc0 := 175) (pc' := 81) rfl (hb hby e19_175) (by decide) (by decide) q) ?_
                  show WGo _ _ _ _ _ _ _ _ T165 (mkF m 81 #[.val (.ref a1), .val (.ref a103), .val (.ref a110), .val (.ref a135), .val (.int (E i144)), .val (.int (E x168)), .val (.int (E x167))] [])
                  exact ih T165 h155 (.val (.int (E x167))) x168 A159 A160 A161 A162 S166 (One.val rfl) d157  hf
                · refine WGo.st (fun _ q => XS.ifYes S166.here hx rfl (pc0 := 97) (pc' := 103) rfl (hb hby e19_97) rfl ((if0E _ _).trans (flt c97).2.1) (by decide) (by decide) q) ?_
                  show WGo _ _ _ _ _ _ _ _ T165 (mkF m 103 #[.val (.ref a1), .val (.ref a103), .val (.ref a110), .val (.ref a135), .val (.int (E i144)), .val (.int (E i158)), .val (.int (E x167))] [])
                  refine WGo.st (fun _ q => XS.aloadN S166.here hx rfl (hb hby e19_103) rfl rfl q) ?_
                  refine w_agf S166 d157 (i := 0) (fi := 17) hown (hwi hw 103 rfl) rfl hF17 rfl rfl (hb hby e19_104) ?_
                  intro T169 S170
                  show WGo _ _ _ _ _ _ _ _ T169 (mkF m 107 #[.val (.ref a1), .val (.ref a103), .val (.ref a110), .val (.ref a135), .val (.int (E i144)), .val (.int (E i158)), .val (.int (E x167))] [(.ref s3)])
                  refine WGo.st (fun _ q => XS.iload S170.here hx rfl (hb hby e19_107) rfl q) ?_
                  refine WGo.st (fun _ q => XS.iconst S170.here hx rfl (hb hby e19_109) q) ?_
                  refine w_ast S170 d157 (i := 4) rfl rfl (hb hby e19_110) rfl hf ?_
                  intro T172 h173 A171 S174 d175 hf
                  show WGo _ _ _ _ _ _ _ _ T172 (mkF m 111 #[.val (.ref a1), .val (.ref a103), .val (.ref a110), .val (.ref a135), .val (.int (E i144)), .val (.int (E i158)), .val (.int (E x167))] [])
                  refine WGo.st (fun _ q => XS.aloadN S174.here hx rfl (hb hby e19_111) rfl rfl q) ?_
                  refine w_agf S174 d175 (i := 0) (fi := 16) hown (hwi hw 101 rfl) rfl hF16 rfl rfl (hb hby e19_112) ?_
                  intro T176 S177
                  show WGo _ _ _ _ _ _ _ _ T176 (mkF m 115 #[.val (.ref a1), .val (.ref a103), .val (.ref a110), .val (.ref a135), .val (.int (E i144)), .val (.int (E i158)), .val (.int (E x167))] [(.ref s2)])
                  refine WGo.st (fun _ q => XS.iload S177.here hx rfl (hb hby e19_115) rfl q) ?_
                  refine w_ald S177 d175 (i := 3) rfl rfl (hb hby e19_117) rfl hf ?_
                  intro x178 hf
                  show WGo _ _ _ _ _ _ _ _ T176 (mkF m 118 #[.val (.ref a1), .val (.ref a103), .val (.ref a110), .val (.ref a135), .val (.int (E i144)), .val (.int (E i158)), .val (.int (E x167))] [(.int (E x178))])
                  rcases ltN_some hf with ⟨c118, hf⟩ | ⟨c118, hf⟩
                  · refine WGo.st (fun _ q => XS.ifNo S177.here hx rfl (hb hby e19_118) rfl ((if0E _ _).trans (tlt c118).2.1) q) ?_
                    show WGo _ _ _ _ _ _ _ _ T176 (mkF m 121 #[.val (.ref a1), .val (.ref a103), .val (.ref a110), .val (.ref a135), .val (.int (E i144)), .val (.int (E i158)), .val (.int (E x167))] [])
                    refine WGo.st (fun _ q => XS.aloadN S177.here hx rfl (hb hby e19_121) rfl rfl q) ?_
                    refine w_agf S177 d175 (i := 0) (fi := 16) hown (hwi hw 101 rfl) rfl hF16 rfl rfl (hb hby e19_122) ?_
                    intro T179 S180
                    show WGo _ _ _ _ _ _ _ _ T179 (mkF m 125 #[.val (.ref a1), .val (.ref a103), .val (.ref a110), .val (.ref a135), .val (.int (E i144)), .val (.int (E i158)), .val (.int (E x167))] [(.ref s2)])
                    refine WGo.st (fun _ q => XS.iload S180.here hx rfl (hb hby e19_125) rfl q) ?_
                    refine WGo.st (fun _ q => XS.iload S180.here hx rfl (hb hby e19_127) rfl q) ?_
                    refine w_ast S180 d175 (i := 3) rfl rfl (hb hby e19_129) rfl hf ?_
                    intro T182 h183 A181 S184 d185 hf
                    show WGo _ _ _ _ _ _ _ _ T182 (mkF m 130 #[.val (.ref a1), .val (.ref a103), .val (.ref a110), .val (.ref a135), .val (.int (E i144)), .val (.int (E i158)), .val (.int (E x167))] [])
                    refine WGo.st (fun _ q => XS.aloadN S184.here hx rfl (hb hby e19_130) rfl rfl q) ?_
                    refine w_agf S184 d185 (i := 0) (fi := 18) hown (hwi hw 105 rfl) rfl hF18 rfl rfl (hb hby e19_131) ?_
                    intro T186 S187
                    show WGo _ _ _ _ _ _ _ _ T186 (mkF m 134 #[.val (.ref a1), .val (.ref a103), .val (.ref a110), .val (.ref a135), .val (.int (E i144)), .val (.int (E i158)), .val (.int (E x167))] [(.ref s4)])
                    refine WGo.st (fun _ q => XS.iload S187.here hx rfl (hb hby e19_134) rfl q) ?_
                    refine WGo.st (fun _ q => XS.iconst S187.here hx rfl (hb hby e19_136) q) ?_
                    refine w_ast S187 d185 (i := 5) rfl rfl (hb hby e19_137) rfl hf ?_
                    intro T189 h190 A188 S191 d192 hf
                    show WGo _ _ _ _ _ _ _ _ T189 (mkF m 138 #[.val (.ref a1), .val (.ref a103), .val (.ref a110), .val (.ref a135), .val (.int (E i144)), .val (.int (E i158)), .val (.int (E x167))] [])
                    refine WGo.st (fun _ q => XS.goto S191.here hx rfl (pc0 := 138) (pc' := 163) rfl (hb hby e19_138) (by decide) (by decide) q) ?_
                    show WGo _ _ _ _ _ _ _ _ T189 (mkF m 163 #[.val (.ref a1), .val (.ref a103), .val (.ref a110), .val (.ref a135), .val (.int (E i144)), .val (.int (E i158)), .val (.int (E x167))] [])
                    refine WGo.st (fun _ q => XS.aloadN S191.here hx rfl (hb hby e19_163) rfl rfl q) ?_
                    refine WGo.st (fun _ q => XS.iload S191.here hx rfl (hb hby e19_164) rfl q) ?_
                    refine WGo.st (fun _ q => XS.iload S191.here hx rfl (hb hby e19_166) rfl q) ?_
                    refine w_ast S191 d192 (i := 8) rfl rfl (hb hby e19_168) rfl hf ?_
                    intro T194 h195 A193 S196 d197 hf
                    show WGo _ _ _ _ _ _ _ _ T194 (mkF m 169 #[.val (.ref a1), .val (.ref a103), .val (.ref a110), .val (.ref a135), .val (.int (E i144)), .val (.int (E i158)), .val (.int (E x167))] [])
                    refine WGo.st (fun _ q => XS.aloadN S196.here hx rfl (hb hby e19_169) rfl rfl q) ?_
                    refine WGo.st (fun _ q => XS.iload S196.here hx rfl (hb hby e19_170) rfl q) ?_
                    refine w_ald S196 d197 (i := 7) rfl rfl (hb hby e19_172) rfl hf ?_
                    intro x198 hf
                    show WGo _ _ _ _ _ _ _ _ T194 (mkF m 173 #[.val (.ref a1), .val (.ref a103), .val (.ref a110), .val (.ref a135), .val (.int (E i144)), .val (.int (E i158)), .val (.int (E x167))] [(.int (E x198))])
                    refine WGo.st (fun _ q => XS.istore S196.here hx rfl (hb hby e19_173) rfl (l' := #[.val (.ref a1), .val (.ref a103), .val (.ref a110), .val (.ref a135), .val (.int (E i144)), .val (.int (E x198)), .val (.int (E x167))]) rfl q) ?_
                    show WGo _ _ _ _ _ _ _ _ T194 (mkF m 175 #[.val (.ref a1), .val (.ref a103), .val (.ref a110), .val (.ref a135), .val (.int (E i144)), .val (.int (E x198)), .val (.int (E x167))] [])
                    refine WGo.st (fun _ q => XS.goto S196.here hx rfl (pc0 := 175) (pc' := 81) rfl (hb hby e19_175) (by decide) (by decide) q) ?_
                    show WGo _ _ _ _ _ _ _ _ T194 (mkF m 81 #[.val (.ref a1), .val (.ref a103), .val (.ref a110), .val (.ref a135), .val (.int (E i144)), .val (.int (E x198)), .val (.int (E x167))] [])
                    exact ih T194 h195 (.val (.int (E x167))) x198 A181 A171 A188 A193 S196 (One.val rfl) d197  hf
                  · refine WGo.st (fun _ q => XS.ifYes S177.here hx rfl (pc0 := 118) (pc' := 141) rfl (hb hby e19_118) rfl ((if0E _ _).trans (flt c118).2.1) (by decide) (by decide) q) ?_
                    show WGo _ _ _ _ _ _ _ _ T176 (mkF m 141 #[.val (.ref a1), .val (.ref a103), .val (.ref a110), .val (.ref a135), .val (.int (E i144)), .val (.int (E i158)), .val (.int (E x167))] [])
                    refine WGo.st (fun _ q => XS.aloadN S177.here hx rfl (hb hby e19_141) rfl rfl q) ?_
                    refine w_agf S177 d175 (i := 0) (fi := 17) hown (hwi hw 103 rfl) rfl hF17 rfl rfl (hb hby e19_142) ?_
                    intro T199 S200
                    show WGo _ _ _ _ _ _ _ _ T199 (mkF m 145 #[.val (.ref a1), .val (.ref a103), .val (.ref a110), .val (.ref a135), .val (.int (E i144)), .val (.int (E i158)), .val (.int (E x167))] [(.ref s3)])
                    refine WGo.st (fun _ q => XS.aloadN S200.here hx rfl (hb hby e19_145) rfl rfl q) ?_
                    refine WGo.st (fun _ q => XS.iload S200.here hx rfl (hb hby e19_146) rfl q) ?_
                    refine w_ald S200 d175 (i := 8) rfl rfl (hb hby e19_148) rfl hf ?_
                    intro x201 hf
                    show WGo _ _ _ _ _ _ _ _ T199 (mkF m 149 #[.val (.ref a1), .val (.ref a103), .val (.ref a110), .val (.ref a135), .val (.int (E i144)), .val (.int (E i158)), .val (.int (E x167))] [(.int (E x201)), (.ref s3)])
                    refine WGo.st (fun _ q => XS.iload S200.here hx rfl (hb hby e19_149) rfl q) ?_
                    refine w_ast S200 d175 (i := 4) rfl rfl (hb hby e19_151) rfl hf ?_
                    intro T203 h204 A202 S205 d206 hf
                    show WGo _ _ _ _ _ _ _ _ T203 (mkF m 152 #[.val (.ref a1), .val (.ref a103), .val (.ref a110), .val (.ref a135), .val (.int (E i144)), .val (.int (E i158)), .val (.int (E x167))] [])
                    refine WGo.st (fun _ q => XS.aloadN S205.here hx rfl (hb hby e19_152) rfl rfl q) ?_
                    refine w_agf S205 d206 (i := 0) (fi := 18) hown (hwi hw 105 rfl) rfl hF18 rfl rfl (hb hby e19_153) ?_
                    intro T207 S208
                    show WGo _ _ _ _ _ _ _ _ T207 (mkF m 156 #[.val (.ref a1), .val (.ref a103), .val (.ref a110), .val (.ref a135), .val (.int (E i144)), .val (.int (E i158)), .val (.int (E x167))] [(.ref s4)])
                    refine WGo.st (fun _ q => XS.iload S208.here hx rfl (hb hby e19_156) rfl q) ?_
                    refine WGo.st (fun _ q => XS.aloadN S208.here hx rfl (hb hby e19_158) rfl rfl q) ?_
                    refine WGo.st (fun _ q => XS.iload S208.here hx rfl (hb hby e19_159) rfl q) ?_
                    refine w_ald S208 d206 (i := 8) rfl rfl (hb hby e19_161) rfl hf ?_
                    intro x209 hf
                    show WGo _ _ _ _ _ _ _ _ T207 (mkF m 162 #[.val (.ref a1), .val (.ref a103), .val (.ref a110), .val (.ref a135), .val (.int (E i144)), .val (.int (E i158)), .val (.int (E x167))] [(.int (E x209)), (.int (E i158)), (.ref s4)])
                    refine w_ast S208 d206 (i := 5) rfl rfl (hb hby e19_162) rfl hf ?_
                    intro T211 h212 A210 S213 d214 hf
                    show WGo _ _ _ _ _ _ _ _ T211 (mkF m 163 #[.val (.ref a1), .val (.ref a103), .val (.ref a110), .val (.ref a135), .val (.int (E i144)), .val (.int (E i158)), .val (.int (E x167))] [])
                    refine WGo.st (fun _ q => XS.aloadN S213.here hx rfl (hb hby e19_163) rfl rfl q) ?_
                    refine WGo.st (fun _ q => XS.iload S213.here hx rfl (hb hby e19_164) rfl q) ?_
                    refine WGo.st (fun _ q => XS.iload S213.here hx rfl (hb hby e19_166) rfl q) ?_
                    refine w_ast S213 d214 (i := 8) rfl rfl (hb hby e19_168) rfl hf ?_
                    intro T216 h217 A215 S218 d219 hf
                    show WGo _ _ _ _ _ _ _ _ T216 (mkF m 169 #[.val (.ref a1), .val (.ref a103), .val (.ref a110), .val (.ref a135), .val (.int (E i144)), .val (.int (E i158)), .val (.int (E x167))] [])
                    refine WGo.st (fun _ q => XS.aloadN S218.here hx rfl (hb hby e19_169) rfl rfl q) ?_
                    refine WGo.st (fun _ q => XS.iload S218.here hx rfl (hb hby e19_170) rfl q) ?_
                    refine w_ald S218 d219 (i := 7) rfl rfl (hb hby e19_172) rfl hf ?_
                    intro x220 hf
                    show WGo _ _ _ _ _ _ _ _ T216 (mkF m 173 #[.val (.ref a1), .val (.ref a103), .val (.ref a110), .val (.ref a135), .val (.int (E i144)), .val (.int (E i158)), .val (.int (E x167))] [(.int (E x220))])
                    refine WGo.st (fun _ q => XS.istore S218.here hx rfl (hb hby e19_173) rfl (l' := #[.val (.ref a1), .val (.ref a103), .val (.ref a110), .val (.ref a135), .val (.int (E i144)), .val (.int (E x220)), .val (.int (E x167))]) rfl q) ?_
                    show WGo _ _ _ _ _ _ _ _ T216 (mkF m 175 #[.val (.ref a1), .val (.ref a103), .val (.ref a110), .val (.ref a135), .val (.int (E i144)), .val (.int (E x220)), .val (.int (E x167))] [])
                    refine WGo.st (fun _ q => XS.goto S218.here hx rfl (pc0 := 175) (pc' := 81) rfl (hb hby e19_175) (by decide) (by decide) q) ?_
                    show WGo _ _ _ _ _ _ _ _ T216 (mkF m 81 #[.val (.ref a1), .val (.ref a103), .val (.ref a110), .val (.ref a135), .val (.int (E i144)), .val (.int (E x220)), .val (.int (E x167))] [])
                    exact ih T216 h217 (.val (.int (E x167))) x220 A159 A202 A210 A215 S218 (One.val rfl) d219  hf
          exact hL81 T151 h141 u150 x153 A145 A146 A147 A148 S152 hu150 d143 hf
        · refine WGo.st (fun _ q => XS.icmpYes S152.here hx rfl (pc0 := 72) (pc' := 184) rfl (hb hby e19_72) rfl (flt c72).2.1 (by decide) (by decide) q) ?_
          show WGo _ _ _ _ _ _ _ _ T151 (mkF m 184 #[.val (.ref a1), .val (.ref a103), .val (.ref a110), .val (.ref a135), .val (.int (E i144)), u149, u150] [])
          exact hK66 T151 h141 u149 u150 i144 A145 A146 A147 A148 S152 hu149 hu150 d143 hf
    exact hL66 T136 h137 (.unset) (.unset) 64 A2 A3 A4 AZ S138 One.u One.u d139 hf
  have hL26 : ∀ (T126 : State) (h127 : Heap) (i130 : Nat) (A131 : Nat) (A132 : Nat), WSt p l e R_So s m #[(.ref a1)] below meth c Z n0 T126 h127 (2) (8) → HS Z a0 n0 h0 [a1, s0, s1, s2, s3, s4] h127 [ob a1 cA F, ia s0 nn A0, ia s1 nn A1, ia s2 nn A2, ia s3 nn A3, ia s4 nn A4, ia a103 nn A131, ia a110 nn A132] → fSo_L26 nn A0 Kx26 i130 A131 A132 = some r → WGo p e below s n0 (QSo Z a0 n0 h0 a1 s0 s1 s2 s3 s4 F nn A0 A1 A2 A3 A4 Kf r) R_So.cells R_So.slots T126 (mkF m 26 #[.val (.ref a1), .val (.ref a103), .val (.ref a110), .val (.int (E i130)), .unset, .unset, .unset] []) := by
    refine it8_ind (F := fSo_L26b nn A0 Kx26) (P := fun (gv26 : Nat → Nat → Nat → Option Rt) => ∀ (T126 : State) (h127 : Heap) (i130 : Nat) (A131 : Nat) (A132 : Nat), WSt p l e R_So s m #[(.ref a1)] below meth c Z n0 T126 h127 (2) (8) → HS Z a0 n0 h0 [a1, s0, s1, s2, s3, s4] h127 [ob a1 cA F, ia s0 nn A0, ia s1 nn A1, ia s2 nn A2, ia s3 nn A3, ia s4 nn A4, ia a103 nn A131, ia a110 nn A132] → gv26 i130 A131 A132 = some r → WGo p e below s n0 (QSo Z a0 n0 h0 a1 s0 s1 s2 s3 s4 F nn A0 A1 A2 A3 A4 Kf r) R_So.cells R_So.slots T126 (mkF m 26 #[.val (.ref a1), .val (.ref a103), .val (.ref a110), .val (.int (E i130)), .unset, .unset, .unset] [])) ?_ ?_
    · intro T126 h127  i130 A131 A132 S128  d129 hf
      cases (show (none : Option _) = some r from hf)
    · intro gv26 ih T126 h127  i130 A131 A132 S128  d129 hf
      rw [fSo_L26b] at hf
      show WGo _ _ _ _ _ _ _ _ T126 (mkF m 26 #[.val (.ref a1), .val (.ref a103), .val (.ref a110), .val (.int (E i130)), .unset, .unset, .unset] [])
      refine WGo.st (fun _ q => XS.iloadN S128.here hx rfl (hb hby e19_26) rfl q) ?_
      rcases ltN_some hf with ⟨c27, hf⟩ | ⟨c27, hf⟩
      · refine WGo.st (fun _ q => XS.ifYes S128.here hx rfl (pc0 := 27) (pc' := 56) rfl (hb hby e19_27) rfl ((if0E _ _).trans (tlt c27).1) (by decide) (by decide) q) ?_
        show WGo _ _ _ _ _ _ _ _ T126 (mkF m 56 #[.val (.ref a1), .val (.ref a103), .val (.ref a110), .val (.int (E i130)), .unset, .unset, .unset] [])
        exact hK26 T126 h127  i130 A131 A132 S128  d129 hf
      · refine WGo.st (fun _ q => XS.ifNo S128.here hx rfl (hb hby e19_27) rfl ((if0E _ _).trans (flt c27).1) q) ?_
        show WGo _ _ _ _ _ _ _ _ T126 (mkF m 30 #[.val (.ref a1), .val (.ref a103), .val (.ref a110), .val (.int (E i130)), .unset, .unset, .unset] [])
        refine WGo.st (fun _ q => XS.aloadN S128.here hx rfl (hb hby e19_30) rfl rfl q) ?_
        refine WGo.st (fun _ q => XS.iloadN S128.here hx rfl (hb hby e19_31) rfl q) ?_
        refine WGo.st (fun _ q => XS.aloadN S128.here hx rfl (hb hby e19_32) rfl rfl q) ?_
        refine WGo.st (fun _ q => XS.aloadN S128.here hx rfl (hb hby e19_33) rfl rfl q) ?_
        refine w_agf S128 d129 (i := 0) (fi := 13) hown (hwi hw 95 rfl) rfl hF13 rfl rfl (hb hby e19_34) ?_
        intro T221 S222
        show WGo _ _ _ _ _ _ _ _ T221 (mkF m 37 #[.val (.ref a1), .val (.ref a103), .val (.ref a110), .val (.int (E i130)), .unset, .unset, .unset] [(.ref s0), (.ref a103), (.int (E i130)), (.ref a110)])
        refine WGo.st (fun _ q => XS.iloadN S222.here hx rfl (hb hby e19_37) rfl q) ?_
        refine w_ald S222 d129 (i := 1) rfl rfl (hb hby e19_38) rfl hf ?_
        intro x223 hf
        show WGo _ _ _ _ _ _ _ _ T221 (mkF m 39 #[.val (.ref a1), .val (.ref a103), .val (.ref a110), .val (.int (E i130)), .unset, .unset, .unset] [(.int (E x223)), (.ref a103), (.int (E i130)), (.ref a110)])
        refine w_ald S222 d129 (i := 6) rfl rfl (hb hby e19_39) rfl hf ?_
        intro x224 hf
        show WGo _ _ _ _ _ _ _ _ T221 (mkF m 40 #[.val (.ref a1), .val (.ref a103), .val (.ref a110), .val (.int (E i130)), .unset, .unset, .unset] [(.int (E x224)), (.int (E i130)), (.ref a110)])
        refine w_ast S222 d129 (i := 7) rfl rfl (hb hby e19_40) rfl hf ?_
        intro T226 h227 A225 S228 d229 hf
        show WGo _ _ _ _ _ _ _ _ T226 (mkF m 41 #[.val (.ref a1), .val (.ref a103), .val (.ref a110), .val (.int (E i130)), .unset, .unset, .unset] [])
        refine WGo.st (fun _ q => XS.aloadN S228.here hx rfl (hb hby e19_41) rfl rfl q) ?_
        refine WGo.st (fun _ q => XS.aloadN S228.here hx rfl (hb hby e19_42) rfl rfl q) ?_
        refine w_agf S228 d229 (i := 0) (fi := 13) hown (hwi hw 95 rfl) rfl hF13 rfl rfl (hb hby e19_43) ?_
        intro T230 S231
        show WGo _ _ _ _ _ _ _ _ T230 (mkF m 46 #[.val (.ref a1), .val (.ref a103), .val (.ref a110), .val (.int (E i130)), .unset, .unset, .unset] [(.ref s0), (.ref a103)])
        refine WGo.st (fun _ q => XS.iloadN S231.here hx rfl (hb hby e19_46) rfl q) ?_
        refine w_ald S231 d229 (i := 1) rfl rfl (hb hby e19_47) rfl hf ?_
        intro x232 hf
        show WGo _ _ _ _ _ _ _ _ T230 (mkF m 48 #[.val (.ref a1), .val (.ref a103), .val (.ref a110), .val (.int (E i130)), .unset, .unset, .unset] [(.int (E x232)), (.ref a103)])
        refine WGo.st (fun _ q => XS.iloadN S231.here hx rfl (hb hby e19_48) rfl q) ?_
        refine w_ast S231 d229 (i := 6) rfl rfl (hb hby e19_49) rfl hf ?_
        intro T234 h235 A233 S236 d237 hf
        show WGo _ _ _ _ _ _ _ _ T234 (mkF m 50 #[.val (.ref a1), .val (.ref a103), .val (.ref a110), .val (.int (E i130)), .unset, .unset, .unset] [])
        refine w_incN S236 rfl (hb hby e19_50) (y := 63) (by decide) rfl (l1 := fun z0 => #[.val (.ref a1), .val (.ref a103), .val (.ref a110), .val (.int (E z0)), .unset, .unset, .unset]) (fun _ => rfl) (fun _ => rfl) hf ?_
        intro z238 hf
        show WGo _ _ _ _ _ _ _ _ T234 (mkF m 53 #[.val (.ref a1), .val (.ref a103), .val (.ref a110), .val (.int (E z238)), .unset, .unset, .unset] [])
        refine WGo.st (fun _ q => XS.goto S236.here hx rfl (pc0 := 53) (pc' := 26) rfl (hb hby e19_53) (by decide) (by decide) q) ?_
        show WGo _ _ _ _ _ _ _ _ T234 (mkF m 26 #[.val (.ref a1), .val (.ref a103), .val (.ref a110), .val (.int (E z238)), .unset, .unset, .unset] [])
        exact ih T234 h235  z238 A233 A225 S236  d237  hf
  exact hL26 T123 h117  z125 y122 AZ S124  d121 hf
theorem e23_0 : decode prog_27_method_13_code 0 = .ok (.aload_n 0, 1) := by decide +kernel
theorem e23_1 : decode prog_27_method_13_code 1 = .ok (.getfield 101, 3) := by decide +kernel
theorem e23_4 : decode prog_27_method_13_code 4 = .ok (.iconst 2, 1) := by decide +kernel
theorem e23_5 : decode prog_27_method_13_code 5 = .ok (.iload_n 1, 1) := by decide +kernel
theorem e23_6 : decode prog_27_method_13_code 6 = .ok (.imul, 1) := by decide +kernel
theorem e23_7 : decode prog_27_method_13_code 7 = .ok (.iload_n 2, 1) := by decide +kernel
theorem e23_8 : decode prog_27_method_13_code 8 = .ok (.iadd, 1) := by decide +kernel
theorem e23_9 : decode prog_27_method_13_code 9 = .ok (.iconst 2, 1) := by decide +kernel
theorem e23_10 : decode prog_27_method_13_code 10 = .ok (.iload_n 3, 1) := by decide +kernel
theorem e23_11 : decode prog_27_method_13_code 11 = .ok (.imul, 1) := by decide +kernel
theorem e23_12 : decode prog_27_method_13_code 12 = .ok (.iload 4, 2) := by decide +kernel
theorem e23_14 : decode prog_27_method_13_code 14 = .ok (.iadd, 1) := by decide +kernel
theorem e23_15 : decode prog_27_method_13_code 15 = .ok (.iastore, 1) := by decide +kernel
theorem e23_16 : decode prog_27_method_13_code 16 = .ok (.aload_n 0, 1) := by decide +kernel
theorem e23_17 : decode prog_27_method_13_code 17 = .ok (.getfield 101, 3) := by decide +kernel
theorem e23_20 : decode prog_27_method_13_code 20 = .ok (.iconst 2, 1) := by decide +kernel
theorem e23_21 : decode prog_27_method_13_code 21 = .ok (.iload_n 3, 1) := by decide +kernel
theorem e23_22 : decode prog_27_method_13_code 22 = .ok (.imul, 1) := by decide +kernel
theorem e23_23 : decode prog_27_method_13_code 23 = .ok (.iload 4, 2) := by decide +kernel
theorem e23_25 : decode prog_27_method_13_code 25 = .ok (.iadd, 1) := by decide +kernel
theorem e23_26 : decode prog_27_method_13_code 26 = .ok (.iconst 2, 1) := by decide +kernel
theorem e23_27 : decode prog_27_method_13_code 27 = .ok (.iload_n 1, 1) := by decide +kernel
theorem e23_28 : decode prog_27_method_13_code 28 = .ok (.imul, 1) := by decide +kernel
theorem e23_29 : decode prog_27_method_13_code 29 = .ok (.iload_n 2, 1) := by decide +kernel
theorem e23_30 : decode prog_27_method_13_code 30 = .ok (.iadd, 1) := by decide +kernel
theorem e23_31 : decode prog_27_method_13_code 31 = .ok (.iastore, 1) := by decide +kernel
theorem e23_32 : decode prog_27_method_13_code 32 = .ok (.return_, 1) := by decide +kernel
abbrev R_Li : Room := { frames := 0, cells := 0, slots := 0, locals := 0 }
def fLi {Rt : Type} (n4 : Nat) (A5 : Nat) (x1 : Nat) (x2 : Nat) (x3 : Nat) (x4 : Nat) (Kf : Nat → Option Rt) : Option Rt := mulN 66 x1 fun z103 => (addN z103 x2 fun z104 => (mulN 66 x3 fun z105 => (addN z105 x4 fun z106 => (wrN A5 n4 z104 z106 fun A107 => (mulN 66 x3 fun z114 => (addN z114 x4 fun z115 => (mulN 66 x1 fun z116 => (addN z116 x2 fun z117 => (wrN A107 n4 z115 z117 fun A118 => (Kf A118))))))))))
def QLi {Rt : Type} (Z : State) (a0 : Array Value) (n0 : Nat) (h0 : Heap) (a1 : Addr) (t5 : Addr) (F : List (String × String × Value)) (n4 : Nat) (A5 : Nat) (x1 : Nat) (x2 : Nat) (x3 : Nat) (x4 : Nat) (Kf : Nat → Option Rt) (r : Rt) (v : Option Value) (h : Heap) : Prop := ∃ B5 : Nat, v = none ∧ HS Z a0 n0 h0 [a1, t5] h [ob a1 cA F, ia t5 n4 B5] ∧ Kf B5 = some r
theorem ef_Li (m : MethodId) (a1 : Addr) (x1 : Nat) (x2 : Nat) (x3 : Nat) (x4 : Nat) : entryFrame m #[(.ref a1), (.int (E x1)), (.int (E x2)), (.int (E x3)), (.int (E x4))] 5 = mkF m 0 #[.val (.ref a1), .val (.int (E x1)), .val (.int (E x2)), .val (.int (E x3)), .val (.int (E x4))] [] := by first | (simp [entryFrame, mkF, argsToLocals, Value.category, maxLocals]; done) | rfl
set_option maxRecDepth 65536 in
set_option maxHeartbeats 40000000 in
theorem rm_Li {Rt : Type} (l : Launch) (Z : State) (a0 : Array Value) (hw : ∀ d ∈ tables_1, d.before a0 Z = true) (n0 : Nat) (h0 : Heap) (a1 : Addr) (t5 : Addr) (F : List (String × String × Value)) (n4 : Nat) (A5 : Nat) (x1 : Nat) (x2 : Nat) (x3 : Nat) (x4 : Nat) (Z0 : n0 ≤ h0.size) (hF24 : FL F 24 "extFace" "[I" (.ref t5)) (d0 : HS Z a0 n0 h0 [a1, t5] h0 [ob a1 cA F, ia t5 n4 A5]) (Kf : Nat → Option Rt) (r : Rt) (hf : fLi n4 A5 x1 x2 x3 x4 Kf = some r) :
    WCon l Z n0 h0 (⟨"com/example/ookayama/ookayama/EdgeAddition", "link", "(IIII)V"⟩ : MethodName) prog_27_method_13_code 5 none [] R_Li #[(.ref a1), (.int (E x1)), (.int (E x2)), (.int (E x3)), (.int (E x4))] (QLi Z a0 n0 h0 a1 t5 F n4 A5 x1 x2 x3 x4 Kf r) := by
  refine WCon.of (by first | exact plainFor_of_name (by decide +kernel) | decide +kernel) Z0 ?_
  intro p e s m below meth c T hx hZ hby hml hown hnm hret S
  refine WGo.cast (ef_Li m a1 x1 x2 x3 x4) ?_
  rw [fLi] at hf
  show WGo _ _ _ _ _ _ _ _ T (mkF m 0 #[.val (.ref a1), .val (.int (E x1)), .val (.int (E x2)), .val (.int (E x3)), .val (.int (E x4))] [])
  refine WGo.st (fun _ q => XS.aloadN S.here hx rfl (hb hby e23_0) rfl rfl q) ?_
  refine w_agf S d0 (i := 0) (fi := 24) hown (hwi hw 117 rfl) rfl hF24 rfl rfl (hb hby e23_1) ?_
  intro T101 S102
  show WGo _ _ _ _ _ _ _ _ T101 (mkF m 4 #[.val (.ref a1), .val (.int (E x1)), .val (.int (E x2)), .val (.int (E x3)), .val (.int (E x4))] [(.ref t5)])
  refine WGo.st (fun _ q => XS.iconst S102.here hx rfl (hb hby e23_4) q) ?_
  refine WGo.st (fun _ q => XS.iloadN S102.here hx rfl (hb hby e23_5) rfl q) ?_
  refine w_mulN S102 rfl (hb hby e23_6) rfl hf ?_
  intro z103 hf
  show WGo _ _ _ _ _ _ _ _ T101 (mkF m 7 #[.val (.ref a1), .val (.int (E x1)), .val (.int (E x2)), .val (.int (E x3)), .val (.int (E x4))] [(.int (E z103)), (.ref t5)])
  refine WGo.st (fun _ q => XS.iloadN S102.here hx rfl (hb hby e23_7) rfl q) ?_
  refine w_addN S102 rfl (hb hby e23_8) rfl hf ?_
  intro z104 hf
  show WGo _ _ _ _ _ _ _ _ T101 (mkF m 9 #[.val (.ref a1), .val (.int (E x1)), .val (.int (E x2)), .val (.int (E x3)), .val (.int (E x4))] [(.int (E z104)), (.ref t5)])
  refine WGo.st (fun _ q => XS.iconst S102.here hx rfl (hb hby e23_9) q) ?_
  refine WGo.st (fun _ q => XS.iloadN S102.here hx rfl (hb hby e23_10) rfl q) ?_
  refine w_mulN S102 rfl (hb hby e23_11) rfl hf ?_
  intro z105 hf
  show WGo _ _ _ _ _ _ _ _ T101 (mkF m 12 #[.val (.ref a1), .val (.int (E x1)), .val (.int (E x2)), .val (.int (E x3)), .val (.int (E x4))] [(.int (E z105)), (.int (E z104)), (.ref t5)])
  refine WGo.st (fun _ q => XS.iload S102.here hx rfl (hb hby e23_12) rfl q) ?_
  refine w_addN S102 rfl (hb hby e23_14) rfl hf ?_
  intro z106 hf
  show WGo _ _ _ _ _ _ _ _ T101 (mkF m 15 #[.val (.ref a1), .val (.int (E x1)), .val (.int (E x2)), .val (.int (E x3)), .val (.int (E x4))] [(.int (E z106)), (.int (E z104)), (.ref t5)])
  refine w_ast S102 d0 (i := 1) rfl rfl (hb hby e23_15) rfl hf ?_
  intro T108 h109 A107 S110 d111 hf
  show WGo _ _ _ _ _ _ _ _ T108 (mkF m 16 #[.val (.ref a1), .val (.int (E x1)), .val (.int (E x2)), .val (.int (E x3)), .val (.int (E x4))] [])
  refine WGo.st (fun _ q => XS.aloadN S110.here hx rfl (hb hby e23_16) rfl rfl q) ?_
  refine w_agf S110 d111 (i := 0) (fi := 24) hown (hwi hw 117 rfl) rfl hF24 rfl rfl (hb hby e23_17) ?_
  intro T112 S113
  show WGo _ _ _ _ _ _ _ _ T112 (mkF m 20 #[.val (.ref a1), .val (.int (E x1)), .val (.int (E x2)), .val (.int (E x3)), .val (.int (E x4))] [(.ref t5)])
  refine WGo.st (fun _ q => XS.iconst S113.here hx rfl (hb hby e23_20) q) ?_
  refine WGo.st (fun _ q => XS.iloadN S113.here hx rfl (hb hby e23_21) rfl q) ?_
  refine w_mulN S113 rfl (hb hby e23_22) rfl hf ?_
  intro z114 hf
  show WGo _ _ _ _ _ _ _ _ T112 (mkF m 23 #[.val (.ref a1), .val (.int (E x1)), .val (.int (E x2)), .val (.int (E x3)), .val (.int (E x4))] [(.int (E z114)), (.ref t5)])
  refine WGo.st (fun _ q => XS.iload S113.here hx rfl (hb hby e23_23) rfl q) ?_
  refine w_addN S113 rfl (hb hby e23_25) rfl hf ?_
  intro z115 hf
  show WGo _ _ _ _ _ _ _ _ T112 (mkF m 26 #[.val (.ref a1), .val (.int (E x1)), .val (.int (E x2)), .val (.int (E x3)), .val (.int (E x4))] [(.int (E z115)), (.ref t5)])
  refine WGo.st (fun _ q => XS.iconst S113.here hx rfl (hb hby e23_26) q) ?_
  refine WGo.st (fun _ q => XS.iloadN S113.here hx rfl (hb hby e23_27) rfl q) ?_
  refine w_mulN S113 rfl (hb hby e23_28) rfl hf ?_
  intro z116 hf
  show WGo _ _ _ _ _ _ _ _ T112 (mkF m 29 #[.val (.ref a1), .val (.int (E x1)), .val (.int (E x2)), .val (.int (E x3)), .val (.int (E x4))] [(.int (E z116)), (.int (E z115)), (.ref t5)])
  refine WGo.st (fun _ q => XS.iloadN S113.here hx rfl (hb hby e23_29) rfl q) ?_
  refine w_addN S113 rfl (hb hby e23_30) rfl hf ?_
  intro z117 hf
  show WGo _ _ _ _ _ _ _ _ T112 (mkF m 31 #[.val (.ref a1), .val (.int (E x1)), .val (.int (E x2)), .val (.int (E x3)), .val (.int (E x4))] [(.int (E z117)), (.int (E z115)), (.ref t5)])
  refine w_ast S113 d111 (i := 1) rfl rfl (hb hby e23_31) rfl hf ?_
  intro T119 h120 A118 S121 d122 hf
  show WGo _ _ _ _ _ _ _ _ T119 (mkF m 32 #[.val (.ref a1), .val (.int (E x1)), .val (.int (E x2)), .val (.int (E x3)), .val (.int (E x4))] [])
  refine w_retV S121 hret (hb hby e23_32) (by decide) (by decide) ?_
  exact ⟨A118, rfl, d122, hf⟩
theorem e22_0 : decode prog_27_method_12_code 0 = .ok (.aload_n 0, 1) := by decide +kernel
theorem e22_1 : decode prog_27_method_12_code 1 = .ok (.getfield 98, 3) := by decide +kernel
theorem e22_4 : decode prog_27_method_12_code 4 = .ok (.iload_n 2, 1) := by decide +kernel
theorem e22_5 : decode prog_27_method_12_code 5 = .ok (.iload_n 1, 1) := by decide +kernel
theorem e22_6 : decode prog_27_method_12_code 6 = .ok (.iastore, 1) := by decide +kernel
theorem e22_7 : decode prog_27_method_12_code 7 = .ok (.aload_n 0, 1) := by decide +kernel
theorem e22_8 : decode prog_27_method_12_code 8 = .ok (.getfield 86, 3) := by decide +kernel
theorem e22_11 : decode prog_27_method_12_code 11 = .ok (.iload_n 1, 1) := by decide +kernel
theorem e22_12 : decode prog_27_method_12_code 12 = .ok (.iaload, 1) := by decide +kernel
theorem e22_13 : decode prog_27_method_12_code 13 = .ok (.ifCond .ge 34, 3) := by decide +kernel
theorem e22_16 : decode prog_27_method_12_code 16 = .ok (.aload_n 0, 1) := by decide +kernel
theorem e22_17 : decode prog_27_method_12_code 17 = .ok (.getfield 92, 3) := by decide +kernel
theorem e22_20 : decode prog_27_method_12_code 20 = .ok (.iload_n 2, 1) := by decide +kernel
theorem e22_21 : decode prog_27_method_12_code 21 = .ok (.iconst (-1), 1) := by decide +kernel
theorem e22_22 : decode prog_27_method_12_code 22 = .ok (.iastore, 1) := by decide +kernel
theorem e22_23 : decode prog_27_method_12_code 23 = .ok (.aload_n 0, 1) := by decide +kernel
theorem e22_24 : decode prog_27_method_12_code 24 = .ok (.getfield 95, 3) := by decide +kernel
theorem e22_27 : decode prog_27_method_12_code 27 = .ok (.iload_n 2, 1) := by decide +kernel
theorem e22_28 : decode prog_27_method_12_code 28 = .ok (.iconst (-1), 1) := by decide +kernel
theorem e22_29 : decode prog_27_method_12_code 29 = .ok (.iastore, 1) := by decide +kernel
theorem e22_30 : decode prog_27_method_12_code 30 = .ok (.aload_n 0, 1) := by decide +kernel
theorem e22_31 : decode prog_27_method_12_code 31 = .ok (.getfield 86, 3) := by decide +kernel
theorem e22_34 : decode prog_27_method_12_code 34 = .ok (.iload_n 1, 1) := by decide +kernel
theorem e22_35 : decode prog_27_method_12_code 35 = .ok (.iload_n 2, 1) := by decide +kernel
theorem e22_36 : decode prog_27_method_12_code 36 = .ok (.iastore, 1) := by decide +kernel
theorem e22_37 : decode prog_27_method_12_code 37 = .ok (.aload_n 0, 1) := by decide +kernel
theorem e22_38 : decode prog_27_method_12_code 38 = .ok (.getfield 89, 3) := by decide +kernel
theorem e22_41 : decode prog_27_method_12_code 41 = .ok (.iload_n 1, 1) := by decide +kernel
theorem e22_42 : decode prog_27_method_12_code 42 = .ok (.iload_n 2, 1) := by decide +kernel
theorem e22_43 : decode prog_27_method_12_code 43 = .ok (.iastore, 1) := by decide +kernel
theorem e22_44 : decode prog_27_method_12_code 44 = .ok (.goto 86, 3) := by decide +kernel
theorem e22_47 : decode prog_27_method_12_code 47 = .ok (.iload_n 3, 1) := by decide +kernel
theorem e22_48 : decode prog_27_method_12_code 48 = .ok (.ifCond .ne 44, 3) := by decide +kernel
theorem e22_51 : decode prog_27_method_12_code 51 = .ok (.aload_n 0, 1) := by decide +kernel
theorem e22_52 : decode prog_27_method_12_code 52 = .ok (.getfield 95, 3) := by decide +kernel
theorem e22_55 : decode prog_27_method_12_code 55 = .ok (.iload_n 2, 1) := by decide +kernel
theorem e22_56 : decode prog_27_method_12_code 56 = .ok (.iconst (-1), 1) := by decide +kernel
theorem e22_57 : decode prog_27_method_12_code 57 = .ok (.iastore, 1) := by decide +kernel
theorem e22_58 : decode prog_27_method_12_code 58 = .ok (.aload_n 0, 1) := by decide +kernel
theorem e22_59 : decode prog_27_method_12_code 59 = .ok (.getfield 92, 3) := by decide +kernel
theorem e22_62 : decode prog_27_method_12_code 62 = .ok (.iload_n 2, 1) := by decide +kernel
theorem e22_63 : decode prog_27_method_12_code 63 = .ok (.aload_n 0, 1) := by decide +kernel
theorem e22_64 : decode prog_27_method_12_code 64 = .ok (.getfield 86, 3) := by decide +kernel
theorem e22_67 : decode prog_27_method_12_code 67 = .ok (.iload_n 1, 1) := by decide +kernel
theorem e22_68 : decode prog_27_method_12_code 68 = .ok (.iaload, 1) := by decide +kernel
theorem e22_69 : decode prog_27_method_12_code 69 = .ok (.iastore, 1) := by decide +kernel
theorem e22_70 : decode prog_27_method_12_code 70 = .ok (.aload_n 0, 1) := by decide +kernel
theorem e22_71 : decode prog_27_method_12_code 71 = .ok (.getfield 95, 3) := by decide +kernel
theorem e22_74 : decode prog_27_method_12_code 74 = .ok (.aload_n 0, 1) := by decide +kernel
theorem e22_75 : decode prog_27_method_12_code 75 = .ok (.getfield 86, 3) := by decide +kernel
theorem e22_78 : decode prog_27_method_12_code 78 = .ok (.iload_n 1, 1) := by decide +kernel
theorem e22_79 : decode prog_27_method_12_code 79 = .ok (.iaload, 1) := by decide +kernel
theorem e22_80 : decode prog_27_method_12_code 80 = .ok (.iload_n 2, 1) := by decide +kernel
theorem e22_81 : decode prog_27_method_12_code 81 = .ok (.iastore, 1) := by decide +kernel
theorem e22_82 : decode prog_27_method_12_code 82 = .ok (.aload_n 0, 1) := by decide +kernel
theorem e22_83 : decode prog_27_method_12_code 83 = .ok (.getfield 86, 3) := by decide +kernel
theorem e22_86 : decode prog_27_method_12_code 86 = .ok (.iload_n 1, 1) := by decide +kernel
theorem e22_87 : decode prog_27_method_12_code 87 = .ok (.iload_n 2, 1) := by decide +kernel
theorem e22_88 : decode prog_27_method_12_code 88 = .ok (.iastore, 1) := by decide +kernel
theorem e22_89 : decode prog_27_method_12_code 89 = .ok (.goto 41, 3) := by decide +kernel
theorem e22_92 : decode prog_27_method_12_code 92 = .ok (.aload_n 0, 1) := by decide +kernel
theorem e22_93 : decode prog_27_method_12_code 93 = .ok (.getfield 92, 3) := by decide +kernel
theorem e22_96 : decode prog_27_method_12_code 96 = .ok (.iload_n 2, 1) := by decide +kernel
theorem e22_97 : decode prog_27_method_12_code 97 = .ok (.iconst (-1), 1) := by decide +kernel
theorem e22_98 : decode prog_27_method_12_code 98 = .ok (.iastore, 1) := by decide +kernel
theorem e22_99 : decode prog_27_method_12_code 99 = .ok (.aload_n 0, 1) := by decide +kernel
theorem e22_100 : decode prog_27_method_12_code 100 = .ok (.getfield 95, 3) := by decide +kernel
theorem e22_103 : decode prog_27_method_12_code 103 = .ok (.iload_n 2, 1) := by decide +kernel
theorem e22_104 : decode prog_27_method_12_code 104 = .ok (.aload_n 0, 1) := by decide +kernel
theorem e22_105 : decode prog_27_method_12_code 105 = .ok (.getfield 89, 3) := by decide +kernel
theorem e22_108 : decode prog_27_method_12_code 108 = .ok (.iload_n 1, 1) := by decide +kernel
theorem e22_109 : decode prog_27_method_12_code 109 = .ok (.iaload, 1) := by decide +kernel
theorem e22_110 : decode prog_27_method_12_code 110 = .ok (.iastore, 1) := by decide +kernel
theorem e22_111 : decode prog_27_method_12_code 111 = .ok (.aload_n 0, 1) := by decide +kernel
theorem e22_112 : decode prog_27_method_12_code 112 = .ok (.getfield 92, 3) := by decide +kernel
theorem e22_115 : decode prog_27_method_12_code 115 = .ok (.aload_n 0, 1) := by decide +kernel
theorem e22_116 : decode prog_27_method_12_code 116 = .ok (.getfield 89, 3) := by decide +kernel
theorem e22_119 : decode prog_27_method_12_code 119 = .ok (.iload_n 1, 1) := by decide +kernel
theorem e22_120 : decode prog_27_method_12_code 120 = .ok (.iaload, 1) := by decide +kernel
theorem e22_121 : decode prog_27_method_12_code 121 = .ok (.iload_n 2, 1) := by decide +kernel
theorem e22_122 : decode prog_27_method_12_code 122 = .ok (.iastore, 1) := by decide +kernel
theorem e22_123 : decode prog_27_method_12_code 123 = .ok (.aload_n 0, 1) := by decide +kernel
theorem e22_124 : decode prog_27_method_12_code 124 = .ok (.getfield 89, 3) := by decide +kernel
theorem e22_127 : decode prog_27_method_12_code 127 = .ok (.iload_n 1, 1) := by decide +kernel
theorem e22_128 : decode prog_27_method_12_code 128 = .ok (.iload_n 2, 1) := by decide +kernel
theorem e22_129 : decode prog_27_method_12_code 129 = .ok (.iastore, 1) := by decide +kernel
theorem e22_130 : decode prog_27_method_12_code 130 = .ok (.return_, 1) := by decide +kernel
abbrev R_Ad : Room := { frames := 0, cells := 0, slots := 0, locals := 0 }
def fAd {Rt : Type} (n1 : Nat) (n2 : Nat) (A0 : Nat) (A1 : Nat) (A2 : Nat) (A3 : Nat) (A4 : Nat) (x1 : Nat) (x2 : Nat) (Kf : Nat → Nat → Nat → Nat → Nat → Option Rt) : Option Rt := wrN A0 70 x2 x1 fun A103 => (rdN A1 n1 x1 fun x110 => (ltN x110 64 (wrN A3 70 x2 63 fun A113 => (wrN A4 70 x2 63 fun A120 => (wrN A1 n1 x1 x2 fun A127 => (wrN A2 n2 x1 x2 fun A134 => (Kf A103 A127 A134 A113 A120))))) (wrN A4 70 x2 63 fun A141 => (rdN A1 n1 x1 fun x150 => (wrN A3 70 x2 x150 fun A151 => (rdN A1 n1 x1 fun x160 => (wrN A141 70 x160 x2 fun A161 => (wrN A1 n1 x1 x2 fun A168 => (Kf A103 A168 A2 A151 A161)))))))))
def QAd {Rt : Type} (Z : State) (a0 : Array Value) (n0 : Nat) (h0 : Heap) (a1 : Addr) (t0 : Addr) (t1 : Addr) (t2 : Addr) (t3 : Addr) (t4 : Addr) (F : List (String × String × Value)) (n1 : Nat) (n2 : Nat) (A0 : Nat) (A1 : Nat) (A2 : Nat) (A3 : Nat) (A4 : Nat) (x1 : Nat) (x2 : Nat) (Kf : Nat → Nat → Nat → Nat → Nat → Option Rt) (r : Rt) (v : Option Value) (h : Heap) : Prop := ∃ B0 : Nat, ∃ B1 : Nat, ∃ B2 : Nat, ∃ B3 : Nat, ∃ B4 : Nat, v = none ∧ HS Z a0 n0 h0 [a1, t0, t1, t2, t3, t4] h [ob a1 cA F, ia t0 70 B0, ia t1 n1 B1, ia t2 n2 B2, ia t3 70 B3, ia t4 70 B4] ∧ Kf B0 B1 B2 B3 B4 = some r
theorem ef_Ad (m : MethodId) (a1 : Addr) (x1 : Nat) (x2 : Nat) : entryFrame m #[(.ref a1), (.int (E x1)), (.int (E x2)), (.int (E 64))] 4 = mkF m 0 #[.val (.ref a1), .val (.int (E x1)), .val (.int (E x2)), .val (.int (E 64))] [] := by first | (simp [entryFrame, mkF, argsToLocals, Value.category, maxLocals]; done) | rfl
set_option maxRecDepth 65536 in
set_option maxHeartbeats 40000000 in
theorem rm_Ad {Rt : Type} (l : Launch) (Z : State) (a0 : Array Value) (hw : ∀ d ∈ tables_1, d.before a0 Z = true) (n0 : Nat) (h0 : Heap) (a1 : Addr) (t0 : Addr) (t1 : Addr) (t2 : Addr) (t3 : Addr) (t4 : Addr) (F : List (String × String × Value)) (n1 : Nat) (n2 : Nat) (A0 : Nat) (A1 : Nat) (A2 : Nat) (A3 : Nat) (A4 : Nat) (x1 : Nat) (x2 : Nat) (Z0 : n0 ≤ h0.size) (hF23 : FL F 23 "arcNode" "[I" (.ref t0)) (hF19 : FL F 19 "firstArc" "[I" (.ref t1)) (hF20 : FL F 20 "lastArc" "[I" (.ref t2)) (hF21 : FL F 21 "arcNext" "[I" (.ref t3)) (hF22 : FL F 22 "arcPrev" "[I" (.ref t4)) (d0 : HS Z a0 n0 h0 [a1, t0, t1, t2, t3, t4] h0 [ob a1 cA F, ia t0 70 A0, ia t1 n1 A1, ia t2 n2 A2, ia t3 70 A3, ia t4 70 A4]) (Kf : Nat → Nat → Nat → Nat → Nat → Option Rt) (r : Rt) (hf : fAd n1 n2 A0 A1 A2 A3 A4 x1 x2 Kf = some r) :
    WCon l Z n0 h0 (⟨"com/example/ookayama/ookayama/EdgeAddition", "addArc", "(III)V"⟩ : MethodName) prog_27_method_12_code 4 none [] R_Ad #[(.ref a1), (.int (E x1)), (.int (E x2)), (.int (E 64))] (QAd Z a0 n0 h0 a1 t0 t1 t2 t3 t4 F n1 n2 A0 A1 A2 A3 A4 x1 x2 Kf r) := by
  refine WCon.of (by first | exact plainFor_of_name (by decide +kernel) | decide +kernel) Z0 ?_
  intro p e s m below meth c T hx hZ hby hml hown hnm hret S
  refine WGo.cast (ef_Ad m a1 x1 x2) ?_
  rw [fAd] at hf
  show WGo _ _ _ _ _ _ _ _ T (mkF m 0 #[.val (.ref a1), .val (.int (E x1)), .val (.int (E x2)), .val (.int (E 64))] [])
  refine WGo.st (fun _ q => XS.aloadN S.here hx rfl (hb hby e22_0) rfl rfl q) ?_
  refine w_agf S d0 (i := 0) (fi := 23) hown (hwi hw 115 rfl) rfl hF23 rfl rfl (hb hby e22_1) ?_
  intro T101 S102
  show WGo _ _ _ _ _ _ _ _ T101 (mkF m 4 #[.val (.ref a1), .val (.int (E x1)), .val (.int (E x2)), .val (.int (E 64))] [(.ref t0)])
  refine WGo.st (fun _ q => XS.iloadN S102.here hx rfl (hb hby e22_4) rfl q) ?_
  refine WGo.st (fun _ q => XS.iloadN S102.here hx rfl (hb hby e22_5) rfl q) ?_
  refine w_ast S102 d0 (i := 1) rfl rfl (hb hby e22_6) rfl hf ?_
  intro T104 h105 A103 S106 d107 hf
  show WGo _ _ _ _ _ _ _ _ T104 (mkF m 7 #[.val (.ref a1), .val (.int (E x1)), .val (.int (E x2)), .val (.int (E 64))] [])
  refine WGo.st (fun _ q => XS.aloadN S106.here hx rfl (hb hby e22_7) rfl rfl q) ?_
  refine w_agf S106 d107 (i := 0) (fi := 19) hown (hwi hw 107 rfl) rfl hF19 rfl rfl (hb hby e22_8) ?_
  intro T108 S109
  show WGo _ _ _ _ _ _ _ _ T108 (mkF m 11 #[.val (.ref a1), .val (.int (E x1)), .val (.int (E x2)), .val (.int (E 64))] [(.ref t1)])
  refine WGo.st (fun _ q => XS.iloadN S109.here hx rfl (hb hby e22_11) rfl q) ?_
  refine w_ald S109 d107 (i := 2) rfl rfl (hb hby e22_12) rfl hf ?_
  intro x110 hf
  show WGo _ _ _ _ _ _ _ _ T108 (mkF m 13 #[.val (.ref a1), .val (.int (E x1)), .val (.int (E x2)), .val (.int (E 64))] [(.int (E x110))])
  rcases ltN_some hf with ⟨c13, hf⟩ | ⟨c13, hf⟩
  · refine WGo.st (fun _ q => XS.ifNo S109.here hx rfl (hb hby e22_13) rfl ((if0E _ _).trans (tlt c13).2.1) q) ?_
    show WGo _ _ _ _ _ _ _ _ T108 (mkF m 16 #[.val (.ref a1), .val (.int (E x1)), .val (.int (E x2)), .val (.int (E 64))] [])
    refine WGo.st (fun _ q => XS.aloadN S109.here hx rfl (hb hby e22_16) rfl rfl q) ?_
    refine w_agf S109 d107 (i := 0) (fi := 21) hown (hwi hw 111 rfl) rfl hF21 rfl rfl (hb hby e22_17) ?_
    intro T111 S112
    show WGo _ _ _ _ _ _ _ _ T111 (mkF m 20 #[.val (.ref a1), .val (.int (E x1)), .val (.int (E x2)), .val (.int (E 64))] [(.ref t3)])
    refine WGo.st (fun _ q => XS.iloadN S112.here hx rfl (hb hby e22_20) rfl q) ?_
    refine WGo.st (fun _ q => XS.iconst S112.here hx rfl (hb hby e22_21) q) ?_
    refine w_ast S112 d107 (i := 4) rfl rfl (hb hby e22_22) rfl hf ?_
    intro T114 h115 A113 S116 d117 hf
    show WGo _ _ _ _ _ _ _ _ T114 (mkF m 23 #[.val (.ref a1), .val (.int (E x1)), .val (.int (E x2)), .val (.int (E 64))] [])
    refine WGo.st (fun _ q => XS.aloadN S116.here hx rfl (hb hby e22_23) rfl rfl q) ?_
    refine w_agf S116 d117 (i := 0) (fi := 22) hown (hwi hw 113 rfl) rfl hF22 rfl rfl (hb hby e22_24) ?_
    intro T118 S119
    show WGo _ _ _ _ _ _ _ _ T118 (mkF m 27 #[.val (.ref a1), .val (.int (E x1)), .val (.int (E x2)), .val (.int (E 64))] [(.ref t4)])
    refine WGo.st (fun _ q => XS.iloadN S119.here hx rfl (hb hby e22_27) rfl q) ?_
    refine WGo.st (fun _ q => XS.iconst S119.here hx rfl (hb hby e22_28) q) ?_
    refine w_ast S119 d117 (i := 5) rfl rfl (hb hby e22_29) rfl hf ?_
    intro T121 h122 A120 S123 d124 hf
    show WGo _ _ _ _ _ _ _ _ T121 (mkF m 30 #[.val (.ref a1), .val (.int (E x1)), .val (.int (E x2)), .val (.int (E 64))] [])
    refine WGo.st (fun _ q => XS.aloadN S123.here hx rfl (hb hby e22_30) rfl rfl q) ?_
    refine w_agf S123 d124 (i := 0) (fi := 19) hown (hwi hw 107 rfl) rfl hF19 rfl rfl (hb hby e22_31) ?_
    intro T125 S126
    show WGo _ _ _ _ _ _ _ _ T125 (mkF m 34 #[.val (.ref a1), .val (.int (E x1)), .val (.int (E x2)), .val (.int (E 64))] [(.ref t1)])
    refine WGo.st (fun _ q => XS.iloadN S126.here hx rfl (hb hby e22_34) rfl q) ?_
    refine WGo.st (fun _ q => XS.iloadN S126.here hx rfl (hb hby e22_35) rfl q) ?_
    refine w_ast S126 d124 (i := 2) rfl rfl (hb hby e22_36) rfl hf ?_
    intro T128 h129 A127 S130 d131 hf
    show WGo _ _ _ _ _ _ _ _ T128 (mkF m 37 #[.val (.ref a1), .val (.int (E x1)), .val (.int (E x2)), .val (.int (E 64))] [])
    refine WGo.st (fun _ q => XS.aloadN S130.here hx rfl (hb hby e22_37) rfl rfl q) ?_
    refine w_agf S130 d131 (i := 0) (fi := 20) hown (hwi hw 109 rfl) rfl hF20 rfl rfl (hb hby e22_38) ?_
    intro T132 S133
    show WGo _ _ _ _ _ _ _ _ T132 (mkF m 41 #[.val (.ref a1), .val (.int (E x1)), .val (.int (E x2)), .val (.int (E 64))] [(.ref t2)])
    refine WGo.st (fun _ q => XS.iloadN S133.here hx rfl (hb hby e22_41) rfl q) ?_
    refine WGo.st (fun _ q => XS.iloadN S133.here hx rfl (hb hby e22_42) rfl q) ?_
    refine w_ast S133 d131 (i := 3) rfl rfl (hb hby e22_43) rfl hf ?_
    intro T135 h136 A134 S137 d138 hf
    show WGo _ _ _ _ _ _ _ _ T135 (mkF m 44 #[.val (.ref a1), .val (.int (E x1)), .val (.int (E x2)), .val (.int (E 64))] [])
    refine WGo.st (fun _ q => XS.goto S137.here hx rfl (pc0 := 44) (pc' := 130) rfl (hb hby e22_44) (by decide) (by decide) q) ?_
    show WGo _ _ _ _ _ _ _ _ T135 (mkF m 130 #[.val (.ref a1), .val (.int (E x1)), .val (.int (E x2)), .val (.int (E 64))] [])
    refine w_retV S137 hret (hb hby e22_130) (by decide) (by decide) ?_
    exact ⟨A103, A127, A134, A113, A120, rfl, d138, hf⟩
  · refine WGo.st (fun _ q => XS.ifYes S109.here hx rfl (pc0 := 13) (pc' := 47) rfl (hb hby e22_13) rfl ((if0E _ _).trans (flt c13).2.1) (by decide) (by decide) q) ?_
    show WGo _ _ _ _ _ _ _ _ T108 (mkF m 47 #[.val (.ref a1), .val (.int (E x1)), .val (.int (E x2)), .val (.int (E 64))] [])
    refine WGo.st (fun _ q => XS.iloadN S109.here hx rfl (hb hby e22_47) rfl q) ?_
    refine WGo.st (fun _ q => XS.ifNo S109.here hx rfl (hb hby e22_48) rfl ((if0E _ _).trans (teq (by decide : E 64 = E 64)).2) q) ?_
    show WGo _ _ _ _ _ _ _ _ T108 (mkF m 51 #[.val (.ref a1), .val (.int (E x1)), .val (.int (E x2)), .val (.int (E 64))] [])
    refine WGo.st (fun _ q => XS.aloadN S109.here hx rfl (hb hby e22_51) rfl rfl q) ?_
    refine w_agf S109 d107 (i := 0) (fi := 22) hown (hwi hw 113 rfl) rfl hF22 rfl rfl (hb hby e22_52) ?_
    intro T139 S140
    show WGo _ _ _ _ _ _ _ _ T139 (mkF m 55 #[.val (.ref a1), .val (.int (E x1)), .val (.int (E x2)), .val (.int (E 64))] [(.ref t4)])
    refine WGo.st (fun _ q => XS.iloadN S140.here hx rfl (hb hby e22_55) rfl q) ?_
    refine WGo.st (fun _ q => XS.iconst S140.here hx rfl (hb hby e22_56) q) ?_
    refine w_ast S140 d107 (i := 5) rfl rfl (hb hby e22_57) rfl hf ?_
    intro T142 h143 A141 S144 d145 hf
    show WGo _ _ _ _ _ _ _ _ T142 (mkF m 58 #[.val (.ref a1), .val (.int (E x1)), .val (.int (E x2)), .val (.int (E 64))] [])
    refine WGo.st (fun _ q => XS.aloadN S144.here hx rfl (hb hby e22_58) rfl rfl q) ?_
    refine w_agf S144 d145 (i := 0) (fi := 21) hown (hwi hw 111 rfl) rfl hF21 rfl rfl (hb hby e22_59) ?_
    intro T146 S147
    show WGo _ _ _ _ _ _ _ _ T146 (mkF m 62 #[.val (.ref a1), .val (.int (E x1)), .val (.int (E x2)), .val (.int (E 64))] [(.ref t3)])
    refine WGo.st (fun _ q => XS.iloadN S147.here hx rfl (hb hby e22_62) rfl q) ?_
    refine WGo.st (fun _ q => XS.aloadN S147.here hx rfl (hb hby e22_63) rfl rfl q) ?_
    refine w_agf S147 d145 (i := 0) (fi := 19) hown (hwi hw 107 rfl) rfl hF19 rfl rfl (hb hby e22_64) ?_
    intro T148 S149
    show WGo _ _ _ _ _ _ _ _ T148 (mkF m 67 #[.val (.ref a1), .val (.int (E x1)), .val (.int (E x2)), .val (.int (E 64))] [(.ref t1), (.int (E x2)), (.ref t3)])
    refine WGo.st (fun _ q => XS.iloadN S149.here hx rfl (hb hby e22_67) rfl q) ?_
    refine w_ald S149 d145 (i := 2) rfl rfl (hb hby e22_68) rfl hf ?_
    intro x150 hf
    show WGo _ _ _ _ _ _ _ _ T148 (mkF m 69 #[.val (.ref a1), .val (.int (E x1)), .val (.int (E x2)), .val (.int (E 64))] [(.int (E x150)), (.int (E x2)), (.ref t3)])
    refine w_ast S149 d145 (i := 4) rfl rfl (hb hby e22_69) rfl hf ?_
    intro T152 h153 A151 S154 d155 hf
    show WGo _ _ _ _ _ _ _ _ T152 (mkF m 70 #[.val (.ref a1), .val (.int (E x1)), .val (.int (E x2)), .val (.int (E 64))] [])
    refine WGo.st (fun _ q => XS.aloadN S154.here hx rfl (hb hby e22_70) rfl rfl q) ?_
    refine w_agf S154 d155 (i := 0) (fi := 22) hown (hwi hw 113 rfl) rfl hF22 rfl rfl (hb hby e22_71) ?_
    intro T156 S157
    show WGo _ _ _ _ _ _ _ _ T156 (mkF m 74 #[.val (.ref a1), .val (.int (E x1)), .val (.int (E x2)), .val (.int (E 64))] [(.ref t4)])
    refine WGo.st (fun _ q => XS.aloadN S157.here hx rfl (hb hby e22_74) rfl rfl q) ?_
    refine w_agf S157 d155 (i := 0) (fi := 19) hown (hwi hw 107 rfl) rfl hF19 rfl rfl (hb hby e22_75) ?_
    intro T158 S159
    show WGo _ _ _ _ _ _ _ _ T158 (mkF m 78 #[.val (.ref a1), .val (.int (E x1)), .val (.int (E x2)), .val (.int (E 64))] [(.ref t1), (.ref t4)])
    refine WGo.st (fun _ q => XS.iloadN S159.here hx rfl (hb hby e22_78) rfl q) ?_
    refine w_ald S159 d155 (i := 2) rfl rfl (hb hby e22_79) rfl hf ?_
    intro x160 hf
    show WGo _ _ _ _ _ _ _ _ T158 (mkF m 80 #[.val (.ref a1), .val (.int (E x1)), .val (.int (E x2)), .val (.int (E 64))] [(.int (E x160)), (.ref t4)])
    refine WGo.st (fun _ q => XS.iloadN S159.here hx rfl (hb hby e22_80) rfl q) ?_
    refine w_ast S159 d155 (i := 5) rfl rfl (hb hby e22_81) rfl hf ?_
    intro T162 h163 A161 S164 d165 hf
    show WGo _ _ _ _ _ _ _ _ T162 (mkF m 82 #[.val (.ref a1), .val (.int (E x1)), .val (.int (E x2)), .val (.int (E 64))] [])
    refine WGo.st (fun _ q => XS.aloadN S164.here hx rfl (hb hby e22_82) rfl rfl q) ?_
    refine w_agf S164 d165 (i := 0) (fi := 19) hown (hwi hw 107 rfl) rfl hF19 rfl rfl (hb hby e22_83) ?_
    intro T166 S167
    show WGo _ _ _ _ _ _ _ _ T166 (mkF m 86 #[.val (.ref a1), .val (.int (E x1)), .val (.int (E x2)), .val (.int (E 64))] [(.ref t1)])
    refine WGo.st (fun _ q => XS.iloadN S167.here hx rfl (hb hby e22_86) rfl q) ?_
    refine WGo.st (fun _ q => XS.iloadN S167.here hx rfl (hb hby e22_87) rfl q) ?_
    refine w_ast S167 d165 (i := 2) rfl rfl (hb hby e22_88) rfl hf ?_
    intro T169 h170 A168 S171 d172 hf
    show WGo _ _ _ _ _ _ _ _ T169 (mkF m 89 #[.val (.ref a1), .val (.int (E x1)), .val (.int (E x2)), .val (.int (E 64))] [])
    refine WGo.st (fun _ q => XS.goto S171.here hx rfl (pc0 := 89) (pc' := 130) rfl (hb hby e22_89) (by decide) (by decide) q) ?_
    show WGo _ _ _ _ _ _ _ _ T169 (mkF m 130 #[.val (.ref a1), .val (.int (E x1)), .val (.int (E x2)), .val (.int (E 64))] [])
    refine w_retV S171 hret (hb hby e22_130) (by decide) (by decide) ?_
    exact ⟨A103, A168, A2, A151, A161, rfl, d172, hf⟩
theorem e21_0 : decode prog_27_method_11_code 0 = .ok (.aload_n 0, 1) := by decide +kernel
theorem e21_1 : decode prog_27_method_11_code 1 = .ok (.getfield 30, 3) := by decide +kernel
theorem e21_4 : decode prog_27_method_11_code 4 = .ok (.iload_n 1, 1) := by decide +kernel
theorem e21_5 : decode prog_27_method_11_code 5 = .ok (.iadd, 1) := by decide +kernel
theorem e21_6 : decode prog_27_method_11_code 6 = .ok (.istore_n 2, 1) := by decide +kernel
theorem e21_7 : decode prog_27_method_11_code 7 = .ok (.aload_n 0, 1) := by decide +kernel
theorem e21_8 : decode prog_27_method_11_code 8 = .ok (.getfield 59, 3) := by decide +kernel
theorem e21_11 : decode prog_27_method_11_code 11 = .ok (.iload_n 1, 1) := by decide +kernel
theorem e21_12 : decode prog_27_method_11_code 12 = .ok (.iaload, 1) := by decide +kernel
theorem e21_13 : decode prog_27_method_11_code 13 = .ok (.istore_n 3, 1) := by decide +kernel
theorem e21_14 : decode prog_27_method_11_code 14 = .ok (.aload_n 0, 1) := by decide +kernel
theorem e21_15 : decode prog_27_method_11_code 15 = .ok (.iload_n 2, 1) := by decide +kernel
theorem e21_16 : decode prog_27_method_11_code 16 = .ok (.iload_n 3, 1) := by decide +kernel
theorem e21_17 : decode prog_27_method_11_code 17 = .ok (.iconst 0, 1) := by decide +kernel
theorem e21_18 : decode prog_27_method_11_code 18 = .ok (.invokevirtual 186, 3) := by decide +kernel
theorem e21_21 : decode prog_27_method_11_code 21 = .ok (.aload_n 0, 1) := by decide +kernel
theorem e21_22 : decode prog_27_method_11_code 22 = .ok (.iload_n 1, 1) := by decide +kernel
theorem e21_23 : decode prog_27_method_11_code 23 = .ok (.iload_n 3, 1) := by decide +kernel
theorem e21_24 : decode prog_27_method_11_code 24 = .ok (.iconst 1, 1) := by decide +kernel
theorem e21_25 : decode prog_27_method_11_code 25 = .ok (.ixor, 1) := by decide +kernel
theorem e21_26 : decode prog_27_method_11_code 26 = .ok (.iconst 0, 1) := by decide +kernel
theorem e21_27 : decode prog_27_method_11_code 27 = .ok (.invokevirtual 186, 3) := by decide +kernel
theorem e21_30 : decode prog_27_method_11_code 30 = .ok (.aload_n 0, 1) := by decide +kernel
theorem e21_31 : decode prog_27_method_11_code 31 = .ok (.iload_n 2, 1) := by decide +kernel
theorem e21_32 : decode prog_27_method_11_code 32 = .ok (.iconst 0, 1) := by decide +kernel
theorem e21_33 : decode prog_27_method_11_code 33 = .ok (.iload_n 1, 1) := by decide +kernel
theorem e21_34 : decode prog_27_method_11_code 34 = .ok (.iconst 1, 1) := by decide +kernel
theorem e21_35 : decode prog_27_method_11_code 35 = .ok (.invokevirtual 190, 3) := by decide +kernel
theorem e21_38 : decode prog_27_method_11_code 38 = .ok (.aload_n 0, 1) := by decide +kernel
theorem e21_39 : decode prog_27_method_11_code 39 = .ok (.iload_n 2, 1) := by decide +kernel
theorem e21_40 : decode prog_27_method_11_code 40 = .ok (.iconst 1, 1) := by decide +kernel
theorem e21_41 : decode prog_27_method_11_code 41 = .ok (.iload_n 1, 1) := by decide +kernel
theorem e21_42 : decode prog_27_method_11_code 42 = .ok (.iconst 0, 1) := by decide +kernel
theorem e21_43 : decode prog_27_method_11_code 43 = .ok (.invokevirtual 190, 3) := by decide +kernel
theorem e21_46 : decode prog_27_method_11_code 46 = .ok (.return_, 1) := by decide +kernel
abbrev R_Em : Room := { frames := 1, cells := 0, slots := 0, locals := 20 }
def fEm {Rt : Type} (nn : Nat) (n1 : Nat) (n2 : Nat) (n4 : Nat) (Ae : Nat) (A0 : Nat) (A1 : Nat) (A2 : Nat) (A3 : Nat) (A4 : Nat) (A5 : Nat) (x1 : Nat) (Kf : Nat → Nat → Nat → Nat → Nat → Nat → Option Rt) : Option Rt := addN nn x1 fun z103 => (rdN Ae nn x1 fun x106 => (fAd n1 n2 A0 A1 A2 A3 A4 z103 x106 fun y114 y115 y116 y117 y118 => (xorN x106 fun z119 => (fAd n1 n2 y114 y115 y116 y117 y118 x1 z119 fun y127 y128 y129 y130 y131 => (fLi n4 A5 z103 64 x1 65 fun y139 => (fLi n4 y139 z103 65 x1 64 fun y147 => (Kf y127 y128 y129 y130 y131 y147)))))))
def QEm {Rt : Type} (Z : State) (a0 : Array Value) (n0 : Nat) (h0 : Heap) (a1 : Addr) (te : Addr) (t0 : Addr) (t1 : Addr) (t2 : Addr) (t3 : Addr) (t4 : Addr) (t5 : Addr) (F : List (String × String × Value)) (nn : Nat) (n1 : Nat) (n2 : Nat) (n4 : Nat) (Ae : Nat) (A0 : Nat) (A1 : Nat) (A2 : Nat) (A3 : Nat) (A4 : Nat) (A5 : Nat) (x1 : Nat) (Kf : Nat → Nat → Nat → Nat → Nat → Nat → Option Rt) (r : Rt) (v : Option Value) (h : Heap) : Prop := ∃ B0 : Nat, ∃ B1 : Nat, ∃ B2 : Nat, ∃ B3 : Nat, ∃ B4 : Nat, ∃ B5 : Nat, v = none ∧ HS Z a0 n0 h0 [a1, te, t0, t1, t2, t3, t4, t5] h [ob a1 cA F, ia te nn Ae, ia t0 70 B0, ia t1 n1 B1, ia t2 n2 B2, ia t3 70 B3, ia t4 70 B4, ia t5 n4 B5] ∧ Kf B0 B1 B2 B3 B4 B5 = some r
theorem ef_Em (m : MethodId) (a1 : Addr) (x1 : Nat) : entryFrame m #[(.ref a1), (.int (E x1))] 4 = mkF m 0 #[.val (.ref a1), .val (.int (E x1)), .unset, .unset] [] := by first | (simp [entryFrame, mkF, argsToLocals, Value.category, maxLocals]; done) | rfl
set_option maxRecDepth 65536 in
set_option maxHeartbeats 40000000 in
theorem rm_Em {Rt : Type} (l : Launch) (Z : State) (a0 : Array Value) (hw : ∀ d ∈ tables_1, d.before a0 Z = true) (n0 : Nat) (h0 : Heap) (a1 : Addr) (te : Addr) (t0 : Addr) (t1 : Addr) (t2 : Addr) (t3 : Addr) (t4 : Addr) (t5 : Addr) (F : List (String × String × Value)) (nn : Nat) (n1 : Nat) (n2 : Nat) (n4 : Nat) (Ae : Nat) (A0 : Nat) (A1 : Nat) (A2 : Nat) (A3 : Nat) (A4 : Nat) (A5 : Nat) (x1 : Nat) (Z0 : n0 ≤ h0.size) (hF23 : FL F 23 "arcNode" "[I" (.ref t0)) (hF19 : FL F 19 "firstArc" "[I" (.ref t1)) (hF20 : FL F 20 "lastArc" "[I" (.ref t2)) (hF21 : FL F 21 "arcNext" "[I" (.ref t3)) (hF22 : FL F 22 "arcPrev" "[I" (.ref t4)) (hF24 : FL F 24 "extFace" "[I" (.ref t5)) (hF4 : FL F 4 "n" "I" (.int (E nn))) (hF10 : FL F 10 "treeEnd" "[I" (.ref te)) (d0 : HS Z a0 n0 h0 [a1, te, t0, t1, t2, t3, t4, t5] h0 [ob a1 cA F, ia te nn Ae, ia t0 70 A0, ia t1 n1 A1, ia t2 n2 A2, ia t3 70 A3, ia t4 70 A4, ia t5 n4 A5]) (Kf : Nat → Nat → Nat → Nat → Nat → Nat → Option Rt) (r : Rt) (hf : fEm nn n1 n2 n4 Ae A0 A1 A2 A3 A4 A5 x1 Kf = some r) :
    WCon l Z n0 h0 (⟨"com/example/ookayama/ookayama/EdgeAddition", "embedTreeEdge", "(I)V"⟩ : MethodName) prog_27_method_11_code 4 none [] R_Em #[(.ref a1), (.int (E x1))] (QEm Z a0 n0 h0 a1 te t0 t1 t2 t3 t4 t5 F nn n1 n2 n4 Ae A0 A1 A2 A3 A4 A5 x1 Kf r) := by
  refine WCon.of (by first | exact plainFor_of_name (by decide +kernel) | decide +kernel) Z0 ?_
  intro p e s m below meth c T hx hZ hby hml hown hnm hret S
  refine WGo.cast (ef_Em m a1 x1) ?_
  rw [fEm] at hf
  show WGo _ _ _ _ _ _ _ _ T (mkF m 0 #[.val (.ref a1), .val (.int (E x1)), .unset, .unset] [])
  refine WGo.st (fun _ q => XS.aloadN S.here hx rfl (hb hby e21_0) rfl rfl q) ?_
  refine w_agf S d0 (i := 0) (fi := 4) hown (hwi hw 46 rfl) rfl hF4 rfl rfl (hb hby e21_1) ?_
  intro T101 S102
  show WGo _ _ _ _ _ _ _ _ T101 (mkF m 4 #[.val (.ref a1), .val (.int (E x1)), .unset, .unset] [(.int (E nn))])
  refine WGo.st (fun _ q => XS.iloadN S102.here hx rfl (hb hby e21_4) rfl q) ?_
  refine w_addN S102 rfl (hb hby e21_5) rfl hf ?_
  intro z103 hf
  show WGo _ _ _ _ _ _ _ _ T101 (mkF m 6 #[.val (.ref a1), .val (.int (E x1)), .unset, .unset] [(.int (E z103))])
  refine WGo.st (fun _ q => XS.istoreN S102.here hx rfl (hb hby e21_6) rfl (l' := #[.val (.ref a1), .val (.int (E x1)), .val (.int (E z103)), .unset]) rfl q) ?_
  show WGo _ _ _ _ _ _ _ _ T101 (mkF m 7 #[.val (.ref a1), .val (.int (E x1)), .val (.int (E z103)), .unset] [])
  refine WGo.st (fun _ q => XS.aloadN S102.here hx rfl (hb hby e21_7) rfl rfl q) ?_
  refine w_agf S102 d0 (i := 0) (fi := 10) hown (hwi hw 89 rfl) rfl hF10 rfl rfl (hb hby e21_8) ?_
  intro T104 S105
  show WGo _ _ _ _ _ _ _ _ T104 (mkF m 11 #[.val (.ref a1), .val (.int (E x1)), .val (.int (E z103)), .unset] [(.ref te)])
  refine WGo.st (fun _ q => XS.iloadN S105.here hx rfl (hb hby e21_11) rfl q) ?_
  refine w_ald S105 d0 (i := 1) rfl rfl (hb hby e21_12) rfl hf ?_
  intro x106 hf
  show WGo _ _ _ _ _ _ _ _ T104 (mkF m 13 #[.val (.ref a1), .val (.int (E x1)), .val (.int (E z103)), .unset] [(.int (E x106))])
  refine WGo.st (fun _ q => XS.istoreN S105.here hx rfl (hb hby e21_13) rfl (l' := #[.val (.ref a1), .val (.int (E x1)), .val (.int (E z103)), .val (.int (E x106))]) rfl q) ?_
  show WGo _ _ _ _ _ _ _ _ T104 (mkF m 14 #[.val (.ref a1), .val (.int (E x1)), .val (.int (E z103)), .val (.int (E x106))] [])
  refine WGo.st (fun _ q => XS.aloadN S105.here hx rfl (hb hby e21_14) rfl rfl q) ?_
  refine WGo.st (fun _ q => XS.iloadN S105.here hx rfl (hb hby e21_15) rfl q) ?_
  refine WGo.st (fun _ q => XS.iloadN S105.here hx rfl (hb hby e21_16) rfl q) ?_
  refine WGo.st (fun _ q => XS.iconst S105.here hx rfl (hb hby e21_17) q) ?_
  refine w_private S105 (y := (⟨"com/example/ookayama/ookayama/EdgeAddition", "addArc", "(III)V"⟩ : MethodName)) (z := (⟨"com/example/ookayama/ookayama/EdgeAddition", "searchRoots", "()[I"⟩ : MethodName)) hown (hwi hw 182 rfl) (hwi hw 183 rfl) (hwi hw 184 rfl) (hwi hw 11 rfl) (hwi hw 185 rfl) (hwi hw 176 rfl) rfl (by decide) (HS.obj d0 (i := 0) rfl) (rm_Ad l Z a0 hw n0 h0 a1 t0 t1 t2 t3 t4 (F) n1 n2 A0 A1 A2 A3 A4 z103 x106 S105.ge (hF23) (hF19) (hF20) (hF21) (hF22) (HS.pw d0 [0, 2, 3, 4, 5, 6] (by decide) rfl rfl) _ _ hf) (W := 0) (by decide) (by decide) (by decide) (by decide) rfl (by rw [hml]; rfl) (argsL := [(.int (E z103)), (.int (E x106)), (.int (E 64))]) (rest := []) (ps := [.int, .int, .int]) (rt := none) (by decide) rfl rfl rfl (by show 2 * 0 + _ ≤ _; exact Nat.le_of_eq rfl) (hb hby e21_18) ?_
  intro T107 h109 w110 S108 q111
  obtain ⟨y114, y115, y116, y117, y118, rfl, d112, hf⟩ := q111
  have d113 : HS Z a0 n0 h0 [a1, te, t0, t1, t2, t3, t4, t5] h109 [ob a1 cA F, ia te nn Ae, ia t0 70 y114, ia t1 n1 y115, ia t2 n2 y116, ia t3 70 y117, ia t4 70 y118, ia t5 n4 A5] := HS.call d0 [0, 2, 3, 4, 5, 6] [ob a1 cA F, ia t0 70 A0, ia t1 n1 A1, ia t2 n2 A2, ia t3 70 A3, ia t4 70 A4] [ob a1 cA F, ia t0 70 y114, ia t1 n1 y115, ia t2 n2 y116, ia t3 70 y117, ia t4 70 y118] [] (by decide) rfl rfl d112
  show WGo _ _ _ _ _ _ _ _ T107 (mkF m 21 #[.val (.ref a1), .val (.int (E x1)), .val (.int (E z103)), .val (.int (E x106))] [])
  refine WGo.st (fun _ q => XS.aloadN S108.here hx rfl (hb hby e21_21) rfl rfl q) ?_
  refine WGo.st (fun _ q => XS.iloadN S108.here hx rfl (hb hby e21_22) rfl q) ?_
  refine WGo.st (fun _ q => XS.iloadN S108.here hx rfl (hb hby e21_23) rfl q) ?_
  refine WGo.st (fun _ q => XS.iconst S108.here hx rfl (hb hby e21_24) q) ?_
  refine w_xorN S108 rfl (hb hby e21_25) rfl hf ?_
  intro z119 hf
  show WGo _ _ _ _ _ _ _ _ T107 (mkF m 26 #[.val (.ref a1), .val (.int (E x1)), .val (.int (E z103)), .val (.int (E x106))] [(.int (E z119)), (.int (E x1)), (.ref a1)])
  refine WGo.st (fun _ q => XS.iconst S108.here hx rfl (hb hby e21_26) q) ?_
  refine w_private S108 (y := (⟨"com/example/ookayama/ookayama/EdgeAddition", "addArc", "(III)V"⟩ : MethodName)) (z := (⟨"com/example/ookayama/ookayama/EdgeAddition", "searchRoots", "()[I"⟩ : MethodName)) hown (hwi hw 182 rfl) (hwi hw 183 rfl) (hwi hw 184 rfl) (hwi hw 11 rfl) (hwi hw 185 rfl) (hwi hw 176 rfl) rfl (by decide) (HS.obj d113 (i := 0) rfl) (rm_Ad l Z a0 hw n0 h109 a1 t0 t1 t2 t3 t4 (F) n1 n2 y114 y115 y116 y117 y118 x1 z119 S108.ge (hF23) (hF19) (hF20) (hF21) (hF22) (HS.pw d113 [0, 2, 3, 4, 5, 6] (by decide) rfl rfl) _ _ hf) (W := 0) (by decide) (by decide) (by decide) (by decide) rfl (by rw [hml]; rfl) (argsL := [(.int (E x1)), (.int (E z119)), (.int (E 64))]) (rest := []) (ps := [.int, .int, .int]) (rt := none) (by decide) rfl rfl rfl (by show 2 * 0 + _ ≤ _; exact Nat.le_of_eq rfl) (hb hby e21_27) ?_
  intro T120 h122 w123 S121 q124
  obtain ⟨y127, y128, y129, y130, y131, rfl, d125, hf⟩ := q124
  have d126 : HS Z a0 n0 h0 [a1, te, t0, t1, t2, t3, t4, t5] h122 [ob a1 cA F, ia te nn Ae, ia t0 70 y127, ia t1 n1 y128, ia t2 n2 y129, ia t3 70 y130, ia t4 70 y131, ia t5 n4 A5] := HS.call d113 [0, 2, 3, 4, 5, 6] [ob a1 cA F, ia t0 70 y114, ia t1 n1 y115, ia t2 n2 y116, ia t3 70 y117, ia t4 70 y118] [ob a1 cA F, ia t0 70 y127, ia t1 n1 y128, ia t2 n2 y129, ia t3 70 y130, ia t4 70 y131] [] (by decide) rfl rfl d125
  show WGo _ _ _ _ _ _ _ _ T120 (mkF m 30 #[.val (.ref a1), .val (.int (E x1)), .val (.int (E z103)), .val (.int (E x106))] [])
  refine WGo.st (fun _ q => XS.aloadN S121.here hx rfl (hb hby e21_30) rfl rfl q) ?_
  refine WGo.st (fun _ q => XS.iloadN S121.here hx rfl (hb hby e21_31) rfl q) ?_
  refine WGo.st (fun _ q => XS.iconst S121.here hx rfl (hb hby e21_32) q) ?_
  refine WGo.st (fun _ q => XS.iloadN S121.here hx rfl (hb hby e21_33) rfl q) ?_
  refine WGo.st (fun _ q => XS.iconst S121.here hx rfl (hb hby e21_34) q) ?_
  show WGo _ _ _ _ _ _ _ _ T120 (mkF m 35 #[.val (.ref a1), .val (.int (E x1)), .val (.int (E z103)), .val (.int (E x106))] [(.int (E 65)), (.int (E x1)), (.int (E 64)), (.int (E z103)), (.ref a1)])
  refine w_private S121 (y := (⟨"com/example/ookayama/ookayama/EdgeAddition", "link", "(IIII)V"⟩ : MethodName)) (z := (⟨"com/example/ookayama/ookayama/EdgeAddition", "searchRoots", "()[I"⟩ : MethodName)) hown (hwi hw 186 rfl) (hwi hw 187 rfl) (hwi hw 188 rfl) (hwi hw 11 rfl) (hwi hw 189 rfl) (hwi hw 176 rfl) rfl (by decide) (HS.obj d126 (i := 0) rfl) (rm_Li l Z a0 hw n0 h122 a1 t5 (F) n4 A5 z103 64 x1 65 S121.ge (hF24) (HS.pw d126 [0, 7] (by decide) rfl rfl) _ _ hf) (W := 0) (by decide) (by decide) (by decide) (by decide) rfl (by rw [hml]; rfl) (argsL := [(.int (E z103)), (.int (E 64)), (.int (E x1)), (.int (E 65))]) (rest := []) (ps := [.int, .int, .int, .int]) (rt := none) (by decide) rfl rfl rfl (by show 2 * 0 + _ ≤ _; exact Nat.le_of_eq rfl) (hb hby e21_35) ?_
  intro T132 h134 w135 S133 q136
  obtain ⟨y139, rfl, d137, hf⟩ := q136
  have d138 : HS Z a0 n0 h0 [a1, te, t0, t1, t2, t3, t4, t5] h134 [ob a1 cA F, ia te nn Ae, ia t0 70 y127, ia t1 n1 y128, ia t2 n2 y129, ia t3 70 y130, ia t4 70 y131, ia t5 n4 y139] := HS.call d126 [0, 7] [ob a1 cA F, ia t5 n4 A5] [ob a1 cA F, ia t5 n4 y139] [] (by decide) rfl rfl d137
  show WGo _ _ _ _ _ _ _ _ T132 (mkF m 38 #[.val (.ref a1), .val (.int (E x1)), .val (.int (E z103)), .val (.int (E x106))] [])
  refine WGo.st (fun _ q => XS.aloadN S133.here hx rfl (hb hby e21_38) rfl rfl q) ?_
  refine WGo.st (fun _ q => XS.iloadN S133.here hx rfl (hb hby e21_39) rfl q) ?_
  refine WGo.st (fun _ q => XS.iconst S133.here hx rfl (hb hby e21_40) q) ?_
  refine WGo.st (fun _ q => XS.iloadN S133.here hx rfl (hb hby e21_41) rfl q) ?_
  refine WGo.st (fun _ q => XS.iconst S133.here hx rfl (hb hby e21_42) q) ?_
  show WGo _ _ _ _ _ _ _ _ T132 (mkF m 43 #[.val (.ref a1), .val (.int (E x1)), .val (.int (E z103)), .val (.int (E x106))] [(.int (E 64)), (.int (E x1)), (.int (E 65)), (.int (E z103)), (.ref a1)])
  refine w_private S133 (y := (⟨"com/example/ookayama/ookayama/EdgeAddition", "link", "(IIII)V"⟩ : MethodName)) (z := (⟨"com/example/ookayama/ookayama/EdgeAddition", "searchRoots", "()[I"⟩ : MethodName)) hown (hwi hw 186 rfl) (hwi hw 187 rfl) (hwi hw 188 rfl) (hwi hw 11 rfl) (hwi hw 189 rfl) (hwi hw 176 rfl) rfl (by decide) (HS.obj d138 (i := 0) rfl) (rm_Li l Z a0 hw n0 h134 a1 t5 (F) n4 y139 z103 65 x1 64 S133.ge (hF24) (HS.pw d138 [0, 7] (by decide) rfl rfl) _ _ hf) (W := 0) (by decide) (by decide) (by decide) (by decide) rfl (by rw [hml]; rfl) (argsL := [(.int (E z103)), (.int (E 65)), (.int (E x1)), (.int (E 64))]) (rest := []) (ps := [.int, .int, .int, .int]) (rt := none) (by decide) rfl rfl rfl (by show 2 * 0 + _ ≤ _; exact Nat.le_of_eq rfl) (hb hby e21_43) ?_
  intro T140 h142 w143 S141 q144
  obtain ⟨y147, rfl, d145, hf⟩ := q144
  have d146 : HS Z a0 n0 h0 [a1, te, t0, t1, t2, t3, t4, t5] h142 [ob a1 cA F, ia te nn Ae, ia t0 70 y127, ia t1 n1 y128, ia t2 n2 y129, ia t3 70 y130, ia t4 70 y131, ia t5 n4 y147] := HS.call d138 [0, 7] [ob a1 cA F, ia t5 n4 y139] [ob a1 cA F, ia t5 n4 y147] [] (by decide) rfl rfl d145
  show WGo _ _ _ _ _ _ _ _ T140 (mkF m 46 #[.val (.ref a1), .val (.int (E x1)), .val (.int (E z103)), .val (.int (E x106))] [])
  refine w_retV S141 hret (hb hby e21_46) (by decide) (by decide) ?_
  exact ⟨y127, y128, y129, y130, y131, y147, rfl, d146, hf⟩
theorem e20_0 : decode prog_27_method_8_code 0 = .ok (.iconst 0, 1) := by decide +kernel
theorem e20_1 : decode prog_27_method_8_code 1 = .ok (.istore_n 1, 1) := by decide +kernel
theorem e20_2 : decode prog_27_method_8_code 2 = .ok (.iconst 0, 1) := by decide +kernel
theorem e20_3 : decode prog_27_method_8_code 3 = .ok (.istore_n 2, 1) := by decide +kernel
theorem e20_4 : decode prog_27_method_8_code 4 = .ok (.iload_n 2, 1) := by decide +kernel
theorem e20_5 : decode prog_27_method_8_code 5 = .ok (.aload_n 0, 1) := by decide +kernel
theorem e20_6 : decode prog_27_method_8_code 6 = .ok (.getfield 30, 3) := by decide +kernel
theorem e20_9 : decode prog_27_method_8_code 9 = .ok (.if_icmp .ge 26, 3) := by decide +kernel
theorem e20_12 : decode prog_27_method_8_code 12 = .ok (.iload_n 1, 1) := by decide +kernel
theorem e20_13 : decode prog_27_method_8_code 13 = .ok (.aload_n 0, 1) := by decide +kernel
theorem e20_14 : decode prog_27_method_8_code 14 = .ok (.getfield 56, 3) := by decide +kernel
theorem e20_17 : decode prog_27_method_8_code 17 = .ok (.iload_n 2, 1) := by decide +kernel
theorem e20_18 : decode prog_27_method_8_code 18 = .ok (.iaload, 1) := by decide +kernel
theorem e20_19 : decode prog_27_method_8_code 19 = .ok (.ifCond .ge 7, 3) := by decide +kernel
theorem e20_22 : decode prog_27_method_8_code 22 = .ok (.iconst 1, 1) := by decide +kernel
theorem e20_23 : decode prog_27_method_8_code 23 = .ok (.goto 4, 3) := by decide +kernel
theorem e20_26 : decode prog_27_method_8_code 26 = .ok (.iconst 0, 1) := by decide +kernel
theorem e20_27 : decode prog_27_method_8_code 27 = .ok (.iadd, 1) := by decide +kernel
theorem e20_28 : decode prog_27_method_8_code 28 = .ok (.istore_n 1, 1) := by decide +kernel
theorem e20_29 : decode prog_27_method_8_code 29 = .ok (.iinc 2 1, 3) := by decide +kernel
theorem e20_32 : decode prog_27_method_8_code 32 = .ok (.goto (-28), 3) := by decide +kernel
theorem e20_35 : decode prog_27_method_8_code 35 = .ok (.iload_n 1, 1) := by decide +kernel
theorem e20_36 : decode prog_27_method_8_code 36 = .ok (.newarray .int, 2) := by decide +kernel
theorem e20_38 : decode prog_27_method_8_code 38 = .ok (.astore_n 2, 1) := by decide +kernel
theorem e20_39 : decode prog_27_method_8_code 39 = .ok (.iconst 0, 1) := by decide +kernel
theorem e20_40 : decode prog_27_method_8_code 40 = .ok (.istore_n 3, 1) := by decide +kernel
theorem e20_41 : decode prog_27_method_8_code 41 = .ok (.iconst 0, 1) := by decide +kernel
theorem e20_42 : decode prog_27_method_8_code 42 = .ok (.istore 4, 2) := by decide +kernel
theorem e20_44 : decode prog_27_method_8_code 44 = .ok (.iload 4, 2) := by decide +kernel
theorem e20_46 : decode prog_27_method_8_code 46 = .ok (.aload_n 0, 1) := by decide +kernel
theorem e20_47 : decode prog_27_method_8_code 47 = .ok (.getfield 30, 3) := by decide +kernel
theorem e20_50 : decode prog_27_method_8_code 50 = .ok (.if_icmp .ge 32, 3) := by decide +kernel
theorem e20_53 : decode prog_27_method_8_code 53 = .ok (.aload_n 0, 1) := by decide +kernel
theorem e20_54 : decode prog_27_method_8_code 54 = .ok (.getfield 56, 3) := by decide +kernel
theorem e20_57 : decode prog_27_method_8_code 57 = .ok (.iload 4, 2) := by decide +kernel
theorem e20_59 : decode prog_27_method_8_code 59 = .ok (.iaload, 1) := by decide +kernel
theorem e20_60 : decode prog_27_method_8_code 60 = .ok (.ifCond .ge 16, 3) := by decide +kernel
theorem e20_63 : decode prog_27_method_8_code 63 = .ok (.aload_n 2, 1) := by decide +kernel
theorem e20_64 : decode prog_27_method_8_code 64 = .ok (.iload_n 3, 1) := by decide +kernel
theorem e20_65 : decode prog_27_method_8_code 65 = .ok (.iinc 3 1, 3) := by decide +kernel
theorem e20_68 : decode prog_27_method_8_code 68 = .ok (.aload_n 0, 1) := by decide +kernel
theorem e20_69 : decode prog_27_method_8_code 69 = .ok (.getfield 53, 3) := by decide +kernel
theorem e20_72 : decode prog_27_method_8_code 72 = .ok (.iload 4, 2) := by decide +kernel
theorem e20_74 : decode prog_27_method_8_code 74 = .ok (.iaload, 1) := by decide +kernel
theorem e20_75 : decode prog_27_method_8_code 75 = .ok (.iastore, 1) := by decide +kernel
theorem e20_76 : decode prog_27_method_8_code 76 = .ok (.iinc 4 1, 3) := by decide +kernel
theorem e20_79 : decode prog_27_method_8_code 79 = .ok (.goto (-35), 3) := by decide +kernel
theorem e20_82 : decode prog_27_method_8_code 82 = .ok (.aload_n 2, 1) := by decide +kernel
theorem e20_83 : decode prog_27_method_8_code 83 = .ok (.areturn, 1) := by decide +kernel
abbrev R_Sr : Room := { frames := 0, cells := 1, slots := 4, locals := 0 }
def fSr_L44b {Rt : Type} (nn : Nat) (A1 : Nat) (A2 : Nat) (i105 : Nat) (Kx44 : Nat → Nat → Nat → Option Rt) (gv44 : Nat → Nat → Nat → Option Rt) (i116 : Nat) (i117 : Nat) (A118 : Nat) : Option Rt := ltN i117 nn (rdN A2 nn i117 fun x123 => (ltN x123 64 (addN i116 65 fun z124 => (rdN A1 nn i117 fun x127 => (wrN A118 i105 i116 x127 fun A128 => (addN i117 65 fun z133 => (gv44 z124 z133 A128))))) (addN i117 65 fun z134 => (gv44 i116 z134 A118)))) (Kx44 i116 i117 A118)
def fSr_L44 {Rt : Type} (nn : Nat) (A1 : Nat) (A2 : Nat) (i105 : Nat) (Kx44 : Nat → Nat → Nat → Option Rt) : Nat → Nat → Nat → Option Rt := it8 (fSr_L44b nn A1 A2 i105 Kx44) (fun _ _ _ => none)
def fSr_L4b {Rt : Type} (nn : Nat) (A2 : Nat) (Kx4 : Nat → Nat → Option Rt) (gv4 : Nat → Nat → Option Rt) (i105 : Nat) (i106 : Nat) : Option Rt := ltN i106 nn (rdN A2 nn i106 fun x139 => (ltN x139 64 (addN i105 65 fun z140 => (addN i106 65 fun z141 => (gv4 z140 z141))) (addN i105 64 fun z142 => (addN i106 65 fun z143 => (gv4 z142 z143))))) (Kx4 i105 i106)
def fSr_L4 {Rt : Type} (nn : Nat) (A2 : Nat) (Kx4 : Nat → Nat → Option Rt) : Nat → Nat → Option Rt := it8 (fSr_L4b nn A2 Kx4) (fun _ _ => none)
def fSr {Rt : Type} (nn : Nat) (A1 : Nat) (A2 : Nat) (Kf : Nat → Nat → Option Rt) : Option Rt := fSr_L4 nn A2 (fun i105 i106 => capN i105 4 (fSr_L44 nn A1 A2 i105 (fun i116 i117 A118 => Kf A118 i105) 64 64 AZ)) 64 64
def QSr {Rt : Type} (Z : State) (a0 : Array Value) (n0 : Nat) (h0 : Heap) (a1 : Addr) (r1 : Addr) (r2 : Addr) (nn : Nat) (A1 : Nat) (A2 : Nat) (Kf : Nat → Nat → Option Rt) (r : Rt) (v : Option Value) (h : Heap) : Prop := ∃ b1 : Addr, ∃ B1 : Nat, ∃ m1 : Nat, v = some (.ref b1) ∧ HS Z a0 n0 h0 [a1, r1, r2] h [ob a1 cA [("n", "I", (.int (E nn))), ("parent", "[I", (.ref r2)), ("vertexAt", "[I", (.ref r1))], ia r1 nn A1, ia r2 nn A2, ia b1 m1 B1] ∧ Kf B1 m1 = some r
theorem ef_Sr (m : MethodId) (a1 : Addr) : entryFrame m #[(.ref a1)] 5 = mkF m 0 #[.val (.ref a1), .unset, .unset, .unset, .unset] [] := by first | (simp [entryFrame, mkF, argsToLocals, Value.category, maxLocals]; done) | rfl
set_option maxRecDepth 65536 in
set_option maxHeartbeats 40000000 in
theorem rm_Sr {Rt : Type} (l : Launch) (Z : State) (a0 : Array Value) (hw : ∀ d ∈ tables_1, d.before a0 Z = true) (n0 : Nat) (h0 : Heap) (a1 : Addr) (r1 : Addr) (r2 : Addr) (nn : Nat) (A1 : Nat) (A2 : Nat) (Z0 : n0 ≤ h0.size)  (d0 : HS Z a0 n0 h0 [a1, r1, r2] h0 [ob a1 cA [("n", "I", (.int (E nn))), ("parent", "[I", (.ref r2)), ("vertexAt", "[I", (.ref r1))], ia r1 nn A1, ia r2 nn A2]) (Kf : Nat → Nat → Option Rt) (r : Rt) (hf : fSr nn A1 A2 Kf = some r) :
    WCon l Z n0 h0 (⟨"com/example/ookayama/ookayama/EdgeAddition", "searchRoots", "()[I"⟩ : MethodName) prog_27_method_8_code 5 (some (.array .int)) [] R_Sr #[(.ref a1)] (QSr Z a0 n0 h0 a1 r1 r2 nn A1 A2 Kf r) := by
  refine WCon.of (by first | exact plainFor_of_name (by decide +kernel) | decide +kernel) Z0 ?_
  intro p e s m below meth c T hx hZ hby hml hown hnm hret S
  refine WGo.cast (ef_Sr m a1) ?_
  rw [fSr] at hf
  show WGo _ _ _ _ _ _ _ _ T (mkF m 0 #[.val (.ref a1), .unset, .unset, .unset, .unset] [])
  refine WGo.st (fun _ q => XS.iconst S.here hx rfl (hb hby e20_0) q) ?_
  refine WGo.st (fun _ q => XS.istoreN S.here hx rfl (hb hby e20_1) rfl (l' := #[.val (.ref a1), .val (.int (E 64)), .unset, .unset, .unset]) rfl q) ?_
  show WGo _ _ _ _ _ _ _ _ T (mkF m 2 #[.val (.ref a1), .val (.int (E 64)), .unset, .unset, .unset] [])
  refine WGo.st (fun _ q => XS.iconst S.here hx rfl (hb hby e20_2) q) ?_
  refine WGo.st (fun _ q => XS.istoreN S.here hx rfl (hb hby e20_3) rfl (l' := #[.val (.ref a1), .val (.int (E 64)), .val (.int (E 64)), .unset, .unset]) rfl q) ?_
  show WGo _ _ _ _ _ _ _ _ T (mkF m 4 #[.val (.ref a1), .val (.int (E 64)), .val (.int (E 64)), .unset, .unset] [])
  obtain ⟨Kx4, eKx4⟩ : ∃ K : Nat → Nat → Option Rt, K = (fun i105 i106 => capN i105 4 (fSr_L44 nn A1 A2 i105 (fun i116 i117 A118 => Kf A118 i105) 64 64 AZ)) := ⟨_, rfl⟩
  rw [← eKx4] at hf
  have hK4 : ∀ (T101 : State) (h102 : Heap) (i105 : Nat) (i106 : Nat), WSt p l e R_Sr s m #[(.ref a1)] below meth c Z n0 T101 h102 (0) (0) → HS Z a0 n0 h0 [a1, r1, r2] h102 [ob a1 cA [("n", "I", (.int (E nn))), ("parent", "[I", (.ref r2)), ("vertexAt", "[I", (.ref r1))], ia r1 nn A1, ia r2 nn A2] → Kx4 i105 i106 = some r → WGo p e below s n0 (QSr Z a0 n0 h0 a1 r1 r2 nn A1 A2 Kf r) R_Sr.cells R_Sr.slots T101 (mkF m 35 #[.val (.ref a1), .val (.int (E i105)), .val (.int (E i106)), .unset, .unset] []) := by
    intro T101 h102  i105 i106 S103  d104 hf
    rw [eKx4] at hf
    show WGo _ _ _ _ _ _ _ _ T101 (mkF m 35 #[.val (.ref a1), .val (.int (E i105)), .val (.int (E i106)), .unset, .unset] [])
    refine WGo.st (fun _ q => XS.iloadN S103.here hx rfl (hb hby e20_35) rfl q) ?_
    refine w_anw S103 d104 (hwi hw 0 rfl) rfl rfl (hb hby e20_36) rfl (cap := 4) hf (by decide) (by decide) (by decide) ?_
    intro T108 h109 a107 S110 d111 hf
    show WGo _ _ _ _ _ _ _ _ T108 (mkF m 38 #[.val (.ref a1), .val (.int (E i105)), .val (.int (E i106)), .unset, .unset] [(.ref a107)])
    refine WGo.st (fun _ q => XS.astoreN S110.here hx rfl (hb hby e20_38) rfl rfl (l' := #[.val (.ref a1), .val (.int (E i105)), .val (.ref a107), .unset, .unset]) rfl q) ?_
    show WGo _ _ _ _ _ _ _ _ T108 (mkF m 39 #[.val (.ref a1), .val (.int (E i105)), .val (.ref a107), .unset, .unset] [])
    refine WGo.st (fun _ q => XS.iconst S110.here hx rfl (hb hby e20_39) q) ?_
    refine WGo.st (fun _ q => XS.istoreN S110.here hx rfl (hb hby e20_40) rfl (l' := #[.val (.ref a1), .val (.int (E i105)), .val (.ref a107), .val (.int (E 64)), .unset]) rfl q) ?_
    show WGo _ _ _ _ _ _ _ _ T108 (mkF m 41 #[.val (.ref a1), .val (.int (E i105)), .val (.ref a107), .val (.int (E 64)), .unset] [])
    refine WGo.st (fun _ q => XS.iconst S110.here hx rfl (hb hby e20_41) q) ?_
    refine WGo.st (fun _ q => XS.istore S110.here hx rfl (hb hby e20_42) rfl (l' := #[.val (.ref a1), .val (.int (E i105)), .val (.ref a107), .val (.int (E 64)), .val (.int (E 64))]) rfl q) ?_
    show WGo _ _ _ _ _ _ _ _ T108 (mkF m 44 #[.val (.ref a1), .val (.int (E i105)), .val (.ref a107), .val (.int (E 64)), .val (.int (E 64))] [])
    obtain ⟨Kx44, eKx44⟩ : ∃ K : Nat → Nat → Nat → Option Rt, K = (fun i116 i117 A118 => Kf A118 i105) := ⟨_, rfl⟩
    rw [← eKx44] at hf
    have hK44 : ∀ (T112 : State) (h113 : Heap) (i116 : Nat) (i117 : Nat) (A118 : Nat), WSt p l e R_Sr s m #[(.ref a1)] below meth c Z n0 T112 h113 (1) (4) → HS Z a0 n0 h0 [a1, r1, r2] h113 [ob a1 cA [("n", "I", (.int (E nn))), ("parent", "[I", (.ref r2)), ("vertexAt", "[I", (.ref r1))], ia r1 nn A1, ia r2 nn A2, ia a107 i105 A118] → Kx44 i116 i117 A118 = some r → WGo p e below s n0 (QSr Z a0 n0 h0 a1 r1 r2 nn A1 A2 Kf r) R_Sr.cells R_Sr.slots T112 (mkF m 82 #[.val (.ref a1), .val (.int (E i105)), .val (.ref a107), .val (.int (E i116)), .val (.int (E i117))] []) := by
      intro T112 h113  i116 i117 A118 S114  d115 hf
      rw [eKx44] at hf
      show WGo _ _ _ _ _ _ _ _ T112 (mkF m 82 #[.val (.ref a1), .val (.int (E i105)), .val (.ref a107), .val (.int (E i116)), .val (.int (E i117))] [])
      refine WGo.st (fun _ q => XS.aloadN S114.here hx rfl (hb hby e20_82) rfl rfl q) ?_
      refine w_retA S114 hret rfl rfl (hb hby e20_83) (by decide) (by decide) ?_
      exact ⟨a107, A118, i105, rfl, d115, hf⟩
    have hL44 : ∀ (T112 : State) (h113 : Heap) (i116 : Nat) (i117 : Nat) (A118 : Nat), WSt p l e R_Sr s m #[(.ref a1)] below meth c Z n0 T112 h113 (1) (4) → HS Z a0 n0 h0 [a1, r1, r2] h113 [ob a1 cA [("n", "I", (.int (E nn))), ("parent", "[I", (.ref r2)), ("vertexAt", "[I", (.ref r1))], ia r1 nn A1, ia r2 nn A2, ia a107 i105 A118] → fSr_L44 nn A1 A2 i105 Kx44 i116 i117 A118 = some r → WGo p e below s n0 (QSr Z a0 n0 h0 a1 r1 r2 nn A1 A2 Kf r) R_Sr.cells R_Sr.slots T112 (mkF m 44 #[.val (.ref a1), .val (.int (E i105)), .val (.ref a107), .val (.int (E i116)), .val (.int (E i117))] []) := by
      refine it8_ind (F := fSr_L44b nn A1 A2 i105 Kx44) (P := fun (gv44 : Nat → Nat → Nat → Option Rt) => ∀ (T112 : State) (h113 : Heap) (i116 : Nat) (i117 : Nat) (A118 : Nat), WSt p l e R_Sr s m #[(.ref a1)] below meth c Z n0 T112 h113 (1) (4) → HS Z a0 n0 h0 [a1, r1, r2] h113 [ob a1 cA [("n", "I", (.int (E nn))), ("parent", "[I", (.ref r2)), ("vertexAt", "[I", (.ref r1))], ia r1 nn A1, ia r2 nn A2, ia a107 i105 A118] → gv44 i116 i117 A118 = some r → WGo p e below s n0 (QSr Z a0 n0 h0 a1 r1 r2 nn A1 A2 Kf r) R_Sr.cells R_Sr.slots T112 (mkF m 44 #[.val (.ref a1), .val (.int (E i105)), .val (.ref a107), .val (.int (E i116)), .val (.int (E i117))] [])) ?_ ?_
      · intro T112 h113  i116 i117 A118 S114  d115 hf
        cases (show (none : Option _) = some r from hf)
      · intro gv44 ih T112 h113  i116 i117 A118 S114  d115 hf
        rw [fSr_L44b] at hf
        show WGo _ _ _ _ _ _ _ _ T112 (mkF m 44 #[.val (.ref a1), .val (.int (E i105)), .val (.ref a107), .val (.int (E i116)), .val (.int (E i117))] [])
        refine WGo.st (fun _ q => XS.iload S114.here hx rfl (hb hby e20_44) rfl q) ?_
        refine WGo.st (fun _ q => XS.aloadN S114.here hx rfl (hb hby e20_46) rfl rfl q) ?_
        refine w_agf S114 d115 (i := 0) (fi := 0) hown (hwi hw 46 rfl) rfl rfl rfl rfl (hb hby e20_47) ?_
        intro T119 S120
        show WGo _ _ _ _ _ _ _ _ T119 (mkF m 50 #[.val (.ref a1), .val (.int (E i105)), .val (.ref a107), .val (.int (E i116)), .val (.int (E i117))] [(.int (E nn)), (.int (E i117))])
        rcases ltN_some hf with ⟨c50, hf⟩ | ⟨c50, hf⟩
        · refine WGo.st (fun _ q => XS.icmpNo S120.here hx rfl (hb hby e20_50) rfl (tlt c50).2.1 q) ?_
          show WGo _ _ _ _ _ _ _ _ T119 (mkF m 53 #[.val (.ref a1), .val (.int (E i105)), .val (.ref a107), .val (.int (E i116)), .val (.int (E i117))] [])
          refine WGo.st (fun _ q => XS.aloadN S120.here hx rfl (hb hby e20_53) rfl rfl q) ?_
          refine w_agf S120 d115 (i := 0) (fi := 1) hown (hwi hw 87 rfl) rfl rfl rfl rfl (hb hby e20_54) ?_
          intro T121 S122
          show WGo _ _ _ _ _ _ _ _ T121 (mkF m 57 #[.val (.ref a1), .val (.int (E i105)), .val (.ref a107), .val (.int (E i116)), .val (.int (E i117))] [(.ref r2)])
          refine WGo.st (fun _ q => XS.iload S122.here hx rfl (hb hby e20_57) rfl q) ?_
          refine w_ald S122 d115 (i := 2) rfl rfl (hb hby e20_59) rfl hf ?_
          intro x123 hf
          show WGo _ _ _ _ _ _ _ _ T121 (mkF m 60 #[.val (.ref a1), .val (.int (E i105)), .val (.ref a107), .val (.int (E i116)), .val (.int (E i117))] [(.int (E x123))])
          rcases ltN_some hf with ⟨c60, hf⟩ | ⟨c60, hf⟩
          · refine WGo.st (fun _ q => XS.ifNo S122.here hx rfl (hb hby e20_60) rfl ((if0E _ _).trans (tlt c60).2.1) q) ?_
            show WGo _ _ _ _ _ _ _ _ T121 (mkF m 63 #[.val (.ref a1), .val (.int (E i105)), .val (.ref a107), .val (.int (E i116)), .val (.int (E i117))] [])
            refine WGo.st (fun _ q => XS.aloadN S122.here hx rfl (hb hby e20_63) rfl rfl q) ?_
            refine WGo.st (fun _ q => XS.iloadN S122.here hx rfl (hb hby e20_64) rfl q) ?_
            refine w_incN S122 rfl (hb hby e20_65) (y := 65) (by decide) rfl (l1 := fun z0 => #[.val (.ref a1), .val (.int (E i105)), .val (.ref a107), .val (.int (E z0)), .val (.int (E i117))]) (fun _ => rfl) (fun _ => rfl) hf ?_
            intro z124 hf
            show WGo _ _ _ _ _ _ _ _ T121 (mkF m 68 #[.val (.ref a1), .val (.int (E i105)), .val (.ref a107), .val (.int (E z124)), .val (.int (E i117))] [(.int (E i116)), (.ref a107)])
            refine WGo.st (fun _ q => XS.aloadN S122.here hx rfl (hb hby e20_68) rfl rfl q) ?_
            refine w_agf S122 d115 (i := 0) (fi := 2) hown (hwi hw 85 rfl) rfl rfl rfl rfl (hb hby e20_69) ?_
            intro T125 S126
            show WGo _ _ _ _ _ _ _ _ T125 (mkF m 72 #[.val (.ref a1), .val (.int (E i105)), .val (.ref a107), .val (.int (E z124)), .val (.int (E i117))] [(.ref r1), (.int (E i116)), (.ref a107)])
            refine WGo.st (fun _ q => XS.iload S126.here hx rfl (hb hby e20_72) rfl q) ?_
            refine w_ald S126 d115 (i := 1) rfl rfl (hb hby e20_74) rfl hf ?_
            intro x127 hf
            show WGo _ _ _ _ _ _ _ _ T125 (mkF m 75 #[.val (.ref a1), .val (.int (E i105)), .val (.ref a107), .val (.int (E z124)), .val (.int (E i117))] [(.int (E x127)), (.int (E i116)), (.ref a107)])
            refine w_ast S126 d115 (i := 3) rfl rfl (hb hby e20_75) rfl hf ?_
            intro T129 h130 A128 S131 d132 hf
            show WGo _ _ _ _ _ _ _ _ T129 (mkF m 76 #[.val (.ref a1), .val (.int (E i105)), .val (.ref a107), .val (.int (E z124)), .val (.int (E i117))] [])
            refine w_incN S131 rfl (hb hby e20_76) (y := 65) (by decide) rfl (l1 := fun z0 => #[.val (.ref a1), .val (.int (E i105)), .val (.ref a107), .val (.int (E z124)), .val (.int (E z0))]) (fun _ => rfl) (fun _ => rfl) hf ?_
            intro z133 hf
            show WGo _ _ _ _ _ _ _ _ T129 (mkF m 79 #[.val (.ref a1), .val (.int (E i105)), .val (.ref a107), .val (.int (E z124)), .val (.int (E z133))] [])
            refine WGo.st (fun _ q => XS.goto S131.here hx rfl (pc0 := 79) (pc' := 44) rfl (hb hby e20_79) (by decide) (by decide) q) ?_
            show WGo _ _ _ _ _ _ _ _ T129 (mkF m 44 #[.val (.ref a1), .val (.int (E i105)), .val (.ref a107), .val (.int (E z124)), .val (.int (E z133))] [])
            exact ih T129 h130  z124 z133 A128 S131  d132  hf
          · refine WGo.st (fun _ q => XS.ifYes S122.here hx rfl (pc0 := 60) (pc' := 76) rfl (hb hby e20_60) rfl ((if0E _ _).trans (flt c60).2.1) (by decide) (by decide) q) ?_
            show WGo _ _ _ _ _ _ _ _ T121 (mkF m 76 #[.val (.ref a1), .val (.int (E i105)), .val (.ref a107), .val (.int (E i116)), .val (.int (E i117))] [])
            refine w_incN S122 rfl (hb hby e20_76) (y := 65) (by decide) rfl (l1 := fun z0 => #[.val (.ref a1), .val (.int (E i105)), .val (.ref a107), .val (.int (E i116)), .val (.int (E z0))]) (fun _ => rfl) (fun _ => rfl) hf ?_
            intro z134 hf
            show WGo _ _ _ _ _ _ _ _ T121 (mkF m 79 #[.val (.ref a1), .val (.int (E i105)), .val (.ref a107), .val (.int (E i116)), .val (.int (E z134))] [])
            refine WGo.st (fun _ q => XS.goto S122.here hx rfl (pc0 := 79) (pc' := 44) rfl (hb hby e20_79) (by decide) (by decide) q) ?_
            show WGo _ _ _ _ _ _ _ _ T121 (mkF m 44 #[.val (.ref a1), .val (.int (E i105)), .val (.ref a107), .val (.int (E i116)), .val (.int (E z134))] [])
            exact ih T121 h113  i116 z134 A118 S122  d115  hf
        · refine WGo.st (fun _ q => XS.icmpYes S120.here hx rfl (pc0 := 50) (pc' := 82) rfl (hb hby e20_50) rfl (flt c50).2.1 (by decide) (by decide) q) ?_
          show WGo _ _ _ _ _ _ _ _ T119 (mkF m 82 #[.val (.ref a1), .val (.int (E i105)), .val (.ref a107), .val (.int (E i116)), .val (.int (E i117))] [])
          exact hK44 T119 h113  i116 i117 A118 S120  d115 hf
    exact hL44 T108 h109  64 64 AZ S110  d111 hf
  have hL4 : ∀ (T101 : State) (h102 : Heap) (i105 : Nat) (i106 : Nat), WSt p l e R_Sr s m #[(.ref a1)] below meth c Z n0 T101 h102 (0) (0) → HS Z a0 n0 h0 [a1, r1, r2] h102 [ob a1 cA [("n", "I", (.int (E nn))), ("parent", "[I", (.ref r2)), ("vertexAt", "[I", (.ref r1))], ia r1 nn A1, ia r2 nn A2] → fSr_L4 nn A2 Kx4 i105 i106 = some r → WGo p e below s n0 (QSr Z a0 n0 h0 a1 r1 r2 nn A1 A2 Kf r) R_Sr.cells R_Sr.slots T101 (mkF m 4 #[.val (.ref a1), .val (.int (E i105)), .val (.int (E i106)), .unset, .unset] []) := by
    refine it8_ind (F := fSr_L4b nn A2 Kx4) (P := fun (gv4 : Nat → Nat → Option Rt) => ∀ (T101 : State) (h102 : Heap) (i105 : Nat) (i106 : Nat), WSt p l e R_Sr s m #[(.ref a1)] below meth c Z n0 T101 h102 (0) (0) → HS Z a0 n0 h0 [a1, r1, r2] h102 [ob a1 cA [("n", "I", (.int (E nn))), ("parent", "[I", (.ref r2)), ("vertexAt", "[I", (.ref r1))], ia r1 nn A1, ia r2 nn A2] → gv4 i105 i106 = some r → WGo p e below s n0 (QSr Z a0 n0 h0 a1 r1 r2 nn A1 A2 Kf r) R_Sr.cells R_Sr.slots T101 (mkF m 4 #[.val (.ref a1), .val (.int (E i105)), .val (.int (E i106)), .unset, .unset] [])) ?_ ?_
    · intro T101 h102  i105 i106 S103  d104 hf
      cases (show (none : Option _) = some r from hf)
    · intro gv4 ih T101 h102  i105 i106 S103  d104 hf
      rw [fSr_L4b] at hf
      show WGo _ _ _ _ _ _ _ _ T101 (mkF m 4 #[.val (.ref a1), .val (.int (E i105)), .val (.int (E i106)), .unset, .unset] [])
      refine WGo.st (fun _ q => XS.iloadN S103.here hx rfl (hb hby e20_4) rfl q) ?_
      refine WGo.st (fun _ q => XS.aloadN S103.here hx rfl (hb hby e20_5) rfl rfl q) ?_
      refine w_agf S103 d104 (i := 0) (fi := 0) hown (hwi hw 46 rfl) rfl rfl rfl rfl (hb hby e20_6) ?_
      intro T135 S136
      show WGo _ _ _ _ _ _ _ _ T135 (mkF m 9 #[.val (.ref a1), .val (.int (E i105)), .val (.int (E i106)), .unset, .unset] [(.int (E nn)), (.int (E i106))])
      rcases ltN_some hf with ⟨c9, hf⟩ | ⟨c9, hf⟩
      · refine WGo.st (fun _ q => XS.icmpNo S136.here hx rfl (hb hby e20_9) rfl (tlt c9).2.1 q) ?_
        show WGo _ _ _ _ _ _ _ _ T135 (mkF m 12 #[.val (.ref a1), .val (.int (E i105)), .val (.int (E i106)), .unset, .unset] [])
        refine WGo.st (fun _ q => XS.iloadN S136.here hx rfl (hb hby e20_12) rfl q) ?_
        refine WGo.st (fun _ q => XS.aloadN S136.here hx rfl (hb hby e20_13) rfl rfl q) ?_
        refine w_agf S136 d104 (i := 0) (fi := 1) hown (hwi hw 87 rfl) rfl rfl rfl rfl (hb hby e20_14) ?_
        intro T137 S138
        show WGo _ _ _ _ _ _ _ _ T137 (mkF m 17 #[.val (.ref a1), .val (.int (E i105)), .val (.int (E i106)), .unset, .unset] [(.ref r2), (.int (E i105))])
        refine WGo.st (fun _ q => XS.iloadN S138.here hx rfl (hb hby e20_17) rfl q) ?_
        refine w_ald S138 d104 (i := 2) rfl rfl (hb hby e20_18) rfl hf ?_
        intro x139 hf
        show WGo _ _ _ _ _ _ _ _ T137 (mkF m 19 #[.val (.ref a1), .val (.int (E i105)), .val (.int (E i106)), .unset, .unset] [(.int (E x139)), (.int (E i105))])
        rcases ltN_some hf with ⟨c19, hf⟩ | ⟨c19, hf⟩
        · refine WGo.st (fun _ q => XS.ifNo S138.here hx rfl (hb hby e20_19) rfl ((if0E _ _).trans (tlt c19).2.1) q) ?_
          show WGo _ _ _ _ _ _ _ _ T137 (mkF m 22 #[.val (.ref a1), .val (.int (E i105)), .val (.int (E i106)), .unset, .unset] [(.int (E i105))])
          refine WGo.st (fun _ q => XS.iconst S138.here hx rfl (hb hby e20_22) q) ?_
          refine WGo.st (fun _ q => XS.goto S138.here hx rfl (pc0 := 23) (pc' := 27) rfl (hb hby e20_23) (by decide) (by decide) q) ?_
          show WGo _ _ _ _ _ _ _ _ T137 (mkF m 27 #[.val (.ref a1), .val (.int (E i105)), .val (.int (E i106)), .unset, .unset] [(.int (E 65)), (.int (E i105))])
          refine w_addN S138 rfl (hb hby e20_27) rfl hf ?_
          intro z140 hf
          show WGo _ _ _ _ _ _ _ _ T137 (mkF m 28 #[.val (.ref a1), .val (.int (E i105)), .val (.int (E i106)), .unset, .unset] [(.int (E z140))])
          refine WGo.st (fun _ q => XS.istoreN S138.here hx rfl (hb hby e20_28) rfl (l' := #[.val (.ref a1), .val (.int (E z140)), .val (.int (E i106)), .unset, .unset]) rfl q) ?_
          show WGo _ _ _ _ _ _ _ _ T137 (mkF m 29 #[.val (.ref a1), .val (.int (E z140)), .val (.int (E i106)), .unset, .unset] [])
          refine w_incN S138 rfl (hb hby e20_29) (y := 65) (by decide) rfl (l1 := fun z0 => #[.val (.ref a1), .val (.int (E z140)), .val (.int (E z0)), .unset, .unset]) (fun _ => rfl) (fun _ => rfl) hf ?_
          intro z141 hf
          show WGo _ _ _ _ _ _ _ _ T137 (mkF m 32 #[.val (.ref a1), .val (.int (E z140)), .val (.int (E z141)), .unset, .unset] [])
          refine WGo.st (fun _ q => XS.goto S138.here hx rfl (pc0 := 32) (pc' := 4) rfl (hb hby e20_32) (by decide) (by decide) q) ?_
          show WGo _ _ _ _ _ _ _ _ T137 (mkF m 4 #[.val (.ref a1), .val (.int (E z140)), .val (.int (E z141)), .unset, .unset] [])
          exact ih T137 h102  z140 z141 S138  d104  hf
        · refine WGo.st (fun _ q => XS.ifYes S138.here hx rfl (pc0 := 19) (pc' := 26) rfl (hb hby e20_19) rfl ((if0E _ _).trans (flt c19).2.1) (by decide) (by decide) q) ?_
          show WGo _ _ _ _ _ _ _ _ T137 (mkF m 26 #[.val (.ref a1), .val (.int (E i105)), .val (.int (E i106)), .unset, .unset] [(.int (E i105))])
          refine WGo.st (fun _ q => XS.iconst S138.here hx rfl (hb hby e20_26) q) ?_
          refine w_addN S138 rfl (hb hby e20_27) rfl hf ?_
          intro z142 hf
          show WGo _ _ _ _ _ _ _ _ T137 (mkF m 28 #[.val (.ref a1), .val (.int (E i105)), .val (.int (E i106)), .unset, .unset] [(.int (E z142))])
          refine WGo.st (fun _ q => XS.istoreN S138.here hx rfl (hb hby e20_28) rfl (l' := #[.val (.ref a1), .val (.int (E z142)), .val (.int (E i106)), .unset, .unset]) rfl q) ?_
          show WGo _ _ _ _ _ _ _ _ T137 (mkF m 29 #[.val (.ref a1), .val (.int (E z142)), .val (.int (E i106)), .unset, .unset] [])
          refine w_incN S138 rfl (hb hby e20_29) (y := 65) (by decide) rfl (l1 := fun z0 => #[.val (.ref a1), .val (.int (E z142)), .val (.int (E z0)), .unset, .unset]) (fun _ => rfl) (fun _ => rfl) hf ?_
          intro z143 hf
          show WGo _ _ _ _ _ _ _ _ T137 (mkF m 32 #[.val (.ref a1), .val (.int (E z142)), .val (.int (E z143)), .unset, .unset] [])
          refine WGo.st (fun _ q => XS.goto S138.here hx rfl (pc0 := 32) (pc' := 4) rfl (hb hby e20_32) (by decide) (by decide) q) ?_
          show WGo _ _ _ _ _ _ _ _ T137 (mkF m 4 #[.val (.ref a1), .val (.int (E z142)), .val (.int (E z143)), .unset, .unset] [])
          exact ih T137 h102  z142 z143 S138  d104  hf
      · refine WGo.st (fun _ q => XS.icmpYes S136.here hx rfl (pc0 := 9) (pc' := 35) rfl (hb hby e20_9) rfl (flt c9).2.1 (by decide) (by decide) q) ?_
        show WGo _ _ _ _ _ _ _ _ T135 (mkF m 35 #[.val (.ref a1), .val (.int (E i105)), .val (.int (E i106)), .unset, .unset] [])
        exact hK4 T135 h102  i105 i106 S136  d104 hf
  exact hL4 T h0  64 64 S  d0 hf
theorem e4_0 : decode prog_27_method_1_code 0 = .ok (.aload_n 0, 1) := by decide +kernel
theorem e4_1 : decode prog_27_method_1_code 1 = .ok (.invokespecial 1, 3) := by decide +kernel
theorem e4_4 : decode prog_27_method_1_code 4 = .ok (.aload_n 0, 1) := by decide +kernel
theorem e4_5 : decode prog_27_method_1_code 5 = .ok (.bipush 16, 2) := by decide +kernel
theorem e4_7 : decode prog_27_method_1_code 7 = .ok (.newarray .int, 2) := by decide +kernel
theorem e4_9 : decode prog_27_method_1_code 9 = .ok (.putfield 7, 3) := by decide +kernel
theorem e4_12 : decode prog_27_method_1_code 12 = .ok (.aload_n 0, 1) := by decide +kernel
theorem e4_13 : decode prog_27_method_1_code 13 = .ok (.iconst (-1), 1) := by decide +kernel
theorem e4_14 : decode prog_27_method_1_code 14 = .ok (.putfield 13, 3) := by decide +kernel
theorem e4_17 : decode prog_27_method_1_code 17 = .ok (.aload_n 0, 1) := by decide +kernel
theorem e4_18 : decode prog_27_method_1_code 18 = .ok (.iconst (-1), 1) := by decide +kernel
theorem e4_19 : decode prog_27_method_1_code 19 = .ok (.putfield 17, 3) := by decide +kernel
theorem e4_22 : decode prog_27_method_1_code 22 = .ok (.aload_n 0, 1) := by decide +kernel
theorem e4_23 : decode prog_27_method_1_code 23 = .ok (.aload_n 1, 1) := by decide +kernel
theorem e4_24 : decode prog_27_method_1_code 24 = .ok (.putfield 20, 3) := by decide +kernel
theorem e4_27 : decode prog_27_method_1_code 27 = .ok (.aload_n 0, 1) := by decide +kernel
theorem e4_28 : decode prog_27_method_1_code 28 = .ok (.aload_n 1, 1) := by decide +kernel
theorem e4_29 : decode prog_27_method_1_code 29 = .ok (.invokevirtual 24, 3) := by decide +kernel
theorem e4_32 : decode prog_27_method_1_code 32 = .ok (.putfield 30, 3) := by decide +kernel
theorem e4_35 : decode prog_27_method_1_code 35 = .ok (.aload_n 1, 1) := by decide +kernel
theorem e4_36 : decode prog_27_method_1_code 36 = .ok (.invokevirtual 33, 3) := by decide +kernel
theorem e4_39 : decode prog_27_method_1_code 39 = .ok (.istore_n 2, 1) := by decide +kernel
theorem e4_40 : decode prog_27_method_1_code 40 = .ok (.aload_n 0, 1) := by decide +kernel
theorem e4_41 : decode prog_27_method_1_code 41 = .ok (.aload_n 1, 1) := by decide +kernel
theorem e4_42 : decode prog_27_method_1_code 42 = .ok (.invokestatic 36, 3) := by decide +kernel
theorem e4_45 : decode prog_27_method_1_code 45 = .ok (.putfield 40, 3) := by decide +kernel
theorem e4_48 : decode prog_27_method_1_code 48 = .ok (.aload_n 0, 1) := by decide +kernel
theorem e4_49 : decode prog_27_method_1_code 49 = .ok (.aload_n 0, 1) := by decide +kernel
theorem e4_50 : decode prog_27_method_1_code 50 = .ok (.getfield 40, 3) := by decide +kernel
theorem e4_53 : decode prog_27_method_1_code 53 = .ok (.invokestatic 43, 3) := by decide +kernel
theorem e4_56 : decode prog_27_method_1_code 56 = .ok (.putfield 47, 3) := by decide +kernel
theorem e4_59 : decode prog_27_method_1_code 59 = .ok (.aload_n 0, 1) := by decide +kernel
theorem e4_60 : decode prog_27_method_1_code 60 = .ok (.aload_n 0, 1) := by decide +kernel
theorem e4_61 : decode prog_27_method_1_code 61 = .ok (.getfield 30, 3) := by decide +kernel
theorem e4_64 : decode prog_27_method_1_code 64 = .ok (.newarray .int, 2) := by decide +kernel
theorem e4_66 : decode prog_27_method_1_code 66 = .ok (.putfield 50, 3) := by decide +kernel
theorem e4_69 : decode prog_27_method_1_code 69 = .ok (.aload_n 0, 1) := by decide +kernel
theorem e4_70 : decode prog_27_method_1_code 70 = .ok (.aload_n 0, 1) := by decide +kernel
theorem e4_71 : decode prog_27_method_1_code 71 = .ok (.getfield 30, 3) := by decide +kernel
theorem e4_74 : decode prog_27_method_1_code 74 = .ok (.newarray .int, 2) := by decide +kernel
theorem e4_76 : decode prog_27_method_1_code 76 = .ok (.putfield 53, 3) := by decide +kernel
theorem e4_79 : decode prog_27_method_1_code 79 = .ok (.aload_n 0, 1) := by decide +kernel
theorem e4_80 : decode prog_27_method_1_code 80 = .ok (.aload_n 0, 1) := by decide +kernel
theorem e4_81 : decode prog_27_method_1_code 81 = .ok (.getfield 30, 3) := by decide +kernel
theorem e4_84 : decode prog_27_method_1_code 84 = .ok (.newarray .int, 2) := by decide +kernel
theorem e4_86 : decode prog_27_method_1_code 86 = .ok (.putfield 56, 3) := by decide +kernel
theorem e4_89 : decode prog_27_method_1_code 89 = .ok (.aload_n 0, 1) := by decide +kernel
theorem e4_90 : decode prog_27_method_1_code 90 = .ok (.aload_n 0, 1) := by decide +kernel
theorem e4_91 : decode prog_27_method_1_code 91 = .ok (.getfield 30, 3) := by decide +kernel
theorem e4_94 : decode prog_27_method_1_code 94 = .ok (.newarray .int, 2) := by decide +kernel
theorem e4_96 : decode prog_27_method_1_code 96 = .ok (.putfield 59, 3) := by decide +kernel
theorem e4_99 : decode prog_27_method_1_code 99 = .ok (.aload_n 0, 1) := by decide +kernel
theorem e4_100 : decode prog_27_method_1_code 100 = .ok (.aload_n 0, 1) := by decide +kernel
theorem e4_101 : decode prog_27_method_1_code 101 = .ok (.getfield 30, 3) := by decide +kernel
theorem e4_104 : decode prog_27_method_1_code 104 = .ok (.newarray .int, 2) := by decide +kernel
theorem e4_106 : decode prog_27_method_1_code 106 = .ok (.putfield 62, 3) := by decide +kernel
theorem e4_109 : decode prog_27_method_1_code 109 = .ok (.aload_n 0, 1) := by decide +kernel
theorem e4_110 : decode prog_27_method_1_code 110 = .ok (.aload_n 0, 1) := by decide +kernel
theorem e4_111 : decode prog_27_method_1_code 111 = .ok (.getfield 30, 3) := by decide +kernel
theorem e4_114 : decode prog_27_method_1_code 114 = .ok (.newarray .int, 2) := by decide +kernel
theorem e4_116 : decode prog_27_method_1_code 116 = .ok (.putfield 65, 3) := by decide +kernel
theorem e4_119 : decode prog_27_method_1_code 119 = .ok (.aload_n 0, 1) := by decide +kernel
theorem e4_120 : decode prog_27_method_1_code 120 = .ok (.aload_n 0, 1) := by decide +kernel
theorem e4_121 : decode prog_27_method_1_code 121 = .ok (.getfield 30, 3) := by decide +kernel
theorem e4_124 : decode prog_27_method_1_code 124 = .ok (.newarray .int, 2) := by decide +kernel
theorem e4_126 : decode prog_27_method_1_code 126 = .ok (.putfield 68, 3) := by decide +kernel
theorem e4_129 : decode prog_27_method_1_code 129 = .ok (.aload_n 0, 1) := by decide +kernel
theorem e4_130 : decode prog_27_method_1_code 130 = .ok (.aload_n 0, 1) := by decide +kernel
theorem e4_131 : decode prog_27_method_1_code 131 = .ok (.getfield 30, 3) := by decide +kernel
theorem e4_134 : decode prog_27_method_1_code 134 = .ok (.newarray .int, 2) := by decide +kernel
theorem e4_136 : decode prog_27_method_1_code 136 = .ok (.putfield 71, 3) := by decide +kernel
theorem e4_139 : decode prog_27_method_1_code 139 = .ok (.aload_n 0, 1) := by decide +kernel
theorem e4_140 : decode prog_27_method_1_code 140 = .ok (.aload_n 0, 1) := by decide +kernel
theorem e4_141 : decode prog_27_method_1_code 141 = .ok (.getfield 30, 3) := by decide +kernel
theorem e4_144 : decode prog_27_method_1_code 144 = .ok (.newarray .int, 2) := by decide +kernel
theorem e4_146 : decode prog_27_method_1_code 146 = .ok (.putfield 74, 3) := by decide +kernel
theorem e4_149 : decode prog_27_method_1_code 149 = .ok (.aload_n 0, 1) := by decide +kernel
theorem e4_150 : decode prog_27_method_1_code 150 = .ok (.aload_n 0, 1) := by decide +kernel
theorem e4_151 : decode prog_27_method_1_code 151 = .ok (.getfield 30, 3) := by decide +kernel
theorem e4_154 : decode prog_27_method_1_code 154 = .ok (.newarray .int, 2) := by decide +kernel
theorem e4_156 : decode prog_27_method_1_code 156 = .ok (.putfield 77, 3) := by decide +kernel
theorem e4_159 : decode prog_27_method_1_code 159 = .ok (.aload_n 0, 1) := by decide +kernel
theorem e4_160 : decode prog_27_method_1_code 160 = .ok (.aload_n 0, 1) := by decide +kernel
theorem e4_161 : decode prog_27_method_1_code 161 = .ok (.getfield 30, 3) := by decide +kernel
theorem e4_164 : decode prog_27_method_1_code 164 = .ok (.newarray .int, 2) := by decide +kernel
theorem e4_166 : decode prog_27_method_1_code 166 = .ok (.putfield 80, 3) := by decide +kernel
theorem e4_169 : decode prog_27_method_1_code 169 = .ok (.aload_n 0, 1) := by decide +kernel
theorem e4_170 : decode prog_27_method_1_code 170 = .ok (.aload_n 0, 1) := by decide +kernel
theorem e4_171 : decode prog_27_method_1_code 171 = .ok (.getfield 30, 3) := by decide +kernel
theorem e4_174 : decode prog_27_method_1_code 174 = .ok (.newarray .int, 2) := by decide +kernel
theorem e4_176 : decode prog_27_method_1_code 176 = .ok (.putfield 83, 3) := by decide +kernel
theorem e4_179 : decode prog_27_method_1_code 179 = .ok (.aload_n 0, 1) := by decide +kernel
theorem e4_180 : decode prog_27_method_1_code 180 = .ok (.iconst 2, 1) := by decide +kernel
theorem e4_181 : decode prog_27_method_1_code 181 = .ok (.aload_n 0, 1) := by decide +kernel
theorem e4_182 : decode prog_27_method_1_code 182 = .ok (.getfield 30, 3) := by decide +kernel
theorem e4_185 : decode prog_27_method_1_code 185 = .ok (.imul, 1) := by decide +kernel
theorem e4_186 : decode prog_27_method_1_code 186 = .ok (.newarray .int, 2) := by decide +kernel
theorem e4_188 : decode prog_27_method_1_code 188 = .ok (.putfield 86, 3) := by decide +kernel
theorem e4_191 : decode prog_27_method_1_code 191 = .ok (.aload_n 0, 1) := by decide +kernel
theorem e4_192 : decode prog_27_method_1_code 192 = .ok (.iconst 2, 1) := by decide +kernel
theorem e4_193 : decode prog_27_method_1_code 193 = .ok (.aload_n 0, 1) := by decide +kernel
theorem e4_194 : decode prog_27_method_1_code 194 = .ok (.getfield 30, 3) := by decide +kernel
theorem e4_197 : decode prog_27_method_1_code 197 = .ok (.imul, 1) := by decide +kernel
theorem e4_198 : decode prog_27_method_1_code 198 = .ok (.newarray .int, 2) := by decide +kernel
theorem e4_200 : decode prog_27_method_1_code 200 = .ok (.putfield 89, 3) := by decide +kernel
theorem e4_203 : decode prog_27_method_1_code 203 = .ok (.aload_n 0, 1) := by decide +kernel
theorem e4_204 : decode prog_27_method_1_code 204 = .ok (.iconst 2, 1) := by decide +kernel
theorem e4_205 : decode prog_27_method_1_code 205 = .ok (.iload_n 2, 1) := by decide +kernel
theorem e4_206 : decode prog_27_method_1_code 206 = .ok (.imul, 1) := by decide +kernel
theorem e4_207 : decode prog_27_method_1_code 207 = .ok (.newarray .int, 2) := by decide +kernel
theorem e4_209 : decode prog_27_method_1_code 209 = .ok (.putfield 92, 3) := by decide +kernel
theorem e4_212 : decode prog_27_method_1_code 212 = .ok (.aload_n 0, 1) := by decide +kernel
theorem e4_213 : decode prog_27_method_1_code 213 = .ok (.iconst 2, 1) := by decide +kernel
theorem e4_214 : decode prog_27_method_1_code 214 = .ok (.iload_n 2, 1) := by decide +kernel
theorem e4_215 : decode prog_27_method_1_code 215 = .ok (.imul, 1) := by decide +kernel
theorem e4_216 : decode prog_27_method_1_code 216 = .ok (.newarray .int, 2) := by decide +kernel
theorem e4_218 : decode prog_27_method_1_code 218 = .ok (.putfield 95, 3) := by decide +kernel
theorem e4_221 : decode prog_27_method_1_code 221 = .ok (.aload_n 0, 1) := by decide +kernel
theorem e4_222 : decode prog_27_method_1_code 222 = .ok (.iconst 2, 1) := by decide +kernel
theorem e4_223 : decode prog_27_method_1_code 223 = .ok (.iload_n 2, 1) := by decide +kernel
theorem e4_224 : decode prog_27_method_1_code 224 = .ok (.imul, 1) := by decide +kernel
theorem e4_225 : decode prog_27_method_1_code 225 = .ok (.newarray .int, 2) := by decide +kernel
theorem e4_227 : decode prog_27_method_1_code 227 = .ok (.putfield 98, 3) := by decide +kernel
theorem e4_230 : decode prog_27_method_1_code 230 = .ok (.aload_n 0, 1) := by decide +kernel
theorem e4_231 : decode prog_27_method_1_code 231 = .ok (.iconst 4, 1) := by decide +kernel
theorem e4_232 : decode prog_27_method_1_code 232 = .ok (.aload_n 0, 1) := by decide +kernel
theorem e4_233 : decode prog_27_method_1_code 233 = .ok (.getfield 30, 3) := by decide +kernel
theorem e4_236 : decode prog_27_method_1_code 236 = .ok (.imul, 1) := by decide +kernel
theorem e4_237 : decode prog_27_method_1_code 237 = .ok (.newarray .int, 2) := by decide +kernel
theorem e4_239 : decode prog_27_method_1_code 239 = .ok (.putfield 101, 3) := by decide +kernel
theorem e4_242 : decode prog_27_method_1_code 242 = .ok (.aload_n 0, 1) := by decide +kernel
theorem e4_243 : decode prog_27_method_1_code 243 = .ok (.aload_n 0, 1) := by decide +kernel
theorem e4_244 : decode prog_27_method_1_code 244 = .ok (.getfield 30, 3) := by decide +kernel
theorem e4_247 : decode prog_27_method_1_code 247 = .ok (.newarray .boolean, 2) := by decide +kernel
theorem e4_249 : decode prog_27_method_1_code 249 = .ok (.putfield 104, 3) := by decide +kernel
theorem e4_252 : decode prog_27_method_1_code 252 = .ok (.aload_n 0, 1) := by decide +kernel
theorem e4_253 : decode prog_27_method_1_code 253 = .ok (.aload_n 0, 1) := by decide +kernel
theorem e4_254 : decode prog_27_method_1_code 254 = .ok (.getfield 30, 3) := by decide +kernel
theorem e4_257 : decode prog_27_method_1_code 257 = .ok (.newarray .int, 2) := by decide +kernel
theorem e4_259 : decode prog_27_method_1_code 259 = .ok (.putfield 108, 3) := by decide +kernel
theorem e4_262 : decode prog_27_method_1_code 262 = .ok (.aload_n 0, 1) := by decide +kernel
theorem e4_263 : decode prog_27_method_1_code 263 = .ok (.aload_n 0, 1) := by decide +kernel
theorem e4_264 : decode prog_27_method_1_code 264 = .ok (.getfield 30, 3) := by decide +kernel
theorem e4_267 : decode prog_27_method_1_code 267 = .ok (.newarray .int, 2) := by decide +kernel
theorem e4_269 : decode prog_27_method_1_code 269 = .ok (.putfield 111, 3) := by decide +kernel
theorem e4_272 : decode prog_27_method_1_code 272 = .ok (.aload_n 0, 1) := by decide +kernel
theorem e4_273 : decode prog_27_method_1_code 273 = .ok (.iconst 2, 1) := by decide +kernel
theorem e4_274 : decode prog_27_method_1_code 274 = .ok (.aload_n 0, 1) := by decide +kernel
theorem e4_275 : decode prog_27_method_1_code 275 = .ok (.getfield 30, 3) := by decide +kernel
theorem e4_278 : decode prog_27_method_1_code 278 = .ok (.imul, 1) := by decide +kernel
theorem e4_279 : decode prog_27_method_1_code 279 = .ok (.newarray .int, 2) := by decide +kernel
theorem e4_281 : decode prog_27_method_1_code 281 = .ok (.putfield 114, 3) := by decide +kernel
theorem e4_284 : decode prog_27_method_1_code 284 = .ok (.aload_n 0, 1) := by decide +kernel
theorem e4_285 : decode prog_27_method_1_code 285 = .ok (.aload_n 0, 1) := by decide +kernel
theorem e4_286 : decode prog_27_method_1_code 286 = .ok (.getfield 30, 3) := by decide +kernel
theorem e4_289 : decode prog_27_method_1_code 289 = .ok (.newarray .int, 2) := by decide +kernel
theorem e4_291 : decode prog_27_method_1_code 291 = .ok (.putfield 117, 3) := by decide +kernel
theorem e4_294 : decode prog_27_method_1_code 294 = .ok (.aload_n 0, 1) := by decide +kernel
theorem e4_295 : decode prog_27_method_1_code 295 = .ok (.aload_n 0, 1) := by decide +kernel
theorem e4_296 : decode prog_27_method_1_code 296 = .ok (.getfield 30, 3) := by decide +kernel
theorem e4_299 : decode prog_27_method_1_code 299 = .ok (.newarray .int, 2) := by decide +kernel
theorem e4_301 : decode prog_27_method_1_code 301 = .ok (.putfield 120, 3) := by decide +kernel
theorem e4_304 : decode prog_27_method_1_code 304 = .ok (.aload_n 0, 1) := by decide +kernel
theorem e4_305 : decode prog_27_method_1_code 305 = .ok (.aload_n 0, 1) := by decide +kernel
theorem e4_306 : decode prog_27_method_1_code 306 = .ok (.getfield 30, 3) := by decide +kernel
theorem e4_309 : decode prog_27_method_1_code 309 = .ok (.newarray .int, 2) := by decide +kernel
theorem e4_311 : decode prog_27_method_1_code 311 = .ok (.putfield 123, 3) := by decide +kernel
theorem e4_314 : decode prog_27_method_1_code 314 = .ok (.aload_n 0, 1) := by decide +kernel
theorem e4_315 : decode prog_27_method_1_code 315 = .ok (.aload_n 0, 1) := by decide +kernel
theorem e4_316 : decode prog_27_method_1_code 316 = .ok (.getfield 30, 3) := by decide +kernel
theorem e4_319 : decode prog_27_method_1_code 319 = .ok (.newarray .int, 2) := by decide +kernel
theorem e4_321 : decode prog_27_method_1_code 321 = .ok (.putfield 126, 3) := by decide +kernel
theorem e4_324 : decode prog_27_method_1_code 324 = .ok (.aload_n 0, 1) := by decide +kernel
theorem e4_325 : decode prog_27_method_1_code 325 = .ok (.getfield 86, 3) := by decide +kernel
theorem e4_328 : decode prog_27_method_1_code 328 = .ok (.iconst (-1), 1) := by decide +kernel
theorem e4_329 : decode prog_27_method_1_code 329 = .ok (.invokestatic 129, 3) := by decide +kernel
theorem e4_332 : decode prog_27_method_1_code 332 = .ok (.aload_n 0, 1) := by decide +kernel
theorem e4_333 : decode prog_27_method_1_code 333 = .ok (.getfield 89, 3) := by decide +kernel
theorem e4_336 : decode prog_27_method_1_code 336 = .ok (.iconst (-1), 1) := by decide +kernel
theorem e4_337 : decode prog_27_method_1_code 337 = .ok (.invokestatic 129, 3) := by decide +kernel
theorem e4_340 : decode prog_27_method_1_code 340 = .ok (.aload_n 0, 1) := by decide +kernel
theorem e4_341 : decode prog_27_method_1_code 341 = .ok (.getfield 98, 3) := by decide +kernel
theorem e4_344 : decode prog_27_method_1_code 344 = .ok (.iconst (-1), 1) := by decide +kernel
theorem e4_345 : decode prog_27_method_1_code 345 = .ok (.invokestatic 129, 3) := by decide +kernel
theorem e4_348 : decode prog_27_method_1_code 348 = .ok (.aload_n 0, 1) := by decide +kernel
theorem e4_349 : decode prog_27_method_1_code 349 = .ok (.getfield 108, 3) := by decide +kernel
theorem e4_352 : decode prog_27_method_1_code 352 = .ok (.iconst (-1), 1) := by decide +kernel
theorem e4_353 : decode prog_27_method_1_code 353 = .ok (.invokestatic 129, 3) := by decide +kernel
theorem e4_356 : decode prog_27_method_1_code 356 = .ok (.aload_n 0, 1) := by decide +kernel
theorem e4_357 : decode prog_27_method_1_code 357 = .ok (.getfield 114, 3) := by decide +kernel
theorem e4_360 : decode prog_27_method_1_code 360 = .ok (.iconst (-1), 1) := by decide +kernel
theorem e4_361 : decode prog_27_method_1_code 361 = .ok (.invokestatic 129, 3) := by decide +kernel
theorem e4_364 : decode prog_27_method_1_code 364 = .ok (.aload_n 0, 1) := by decide +kernel
theorem e4_365 : decode prog_27_method_1_code 365 = .ok (.getfield 117, 3) := by decide +kernel
theorem e4_368 : decode prog_27_method_1_code 368 = .ok (.iconst (-1), 1) := by decide +kernel
theorem e4_369 : decode prog_27_method_1_code 369 = .ok (.invokestatic 129, 3) := by decide +kernel
theorem e4_372 : decode prog_27_method_1_code 372 = .ok (.aload_n 0, 1) := by decide +kernel
theorem e4_373 : decode prog_27_method_1_code 373 = .ok (.getfield 120, 3) := by decide +kernel
theorem e4_376 : decode prog_27_method_1_code 376 = .ok (.iconst (-1), 1) := by decide +kernel
theorem e4_377 : decode prog_27_method_1_code 377 = .ok (.invokestatic 129, 3) := by decide +kernel
theorem e4_380 : decode prog_27_method_1_code 380 = .ok (.aload_n 0, 1) := by decide +kernel
theorem e4_381 : decode prog_27_method_1_code 381 = .ok (.getfield 77, 3) := by decide +kernel
theorem e4_384 : decode prog_27_method_1_code 384 = .ok (.iconst (-1), 1) := by decide +kernel
theorem e4_385 : decode prog_27_method_1_code 385 = .ok (.invokestatic 129, 3) := by decide +kernel
theorem e4_388 : decode prog_27_method_1_code 388 = .ok (.aload_n 0, 1) := by decide +kernel
theorem e4_389 : decode prog_27_method_1_code 389 = .ok (.getfield 74, 3) := by decide +kernel
theorem e4_392 : decode prog_27_method_1_code 392 = .ok (.iconst (-1), 1) := by decide +kernel
theorem e4_393 : decode prog_27_method_1_code 393 = .ok (.invokestatic 129, 3) := by decide +kernel
theorem e4_396 : decode prog_27_method_1_code 396 = .ok (.aload_n 0, 1) := by decide +kernel
theorem e4_397 : decode prog_27_method_1_code 397 = .ok (.invokevirtual 135, 3) := by decide +kernel
theorem e4_400 : decode prog_27_method_1_code 400 = .ok (.aload_n 0, 1) := by decide +kernel
theorem e4_401 : decode prog_27_method_1_code 401 = .ok (.invokevirtual 138, 3) := by decide +kernel
theorem e4_404 : decode prog_27_method_1_code 404 = .ok (.iconst 0, 1) := by decide +kernel
theorem e4_405 : decode prog_27_method_1_code 405 = .ok (.istore_n 3, 1) := by decide +kernel
theorem e4_406 : decode prog_27_method_1_code 406 = .ok (.iload_n 3, 1) := by decide +kernel
theorem e4_407 : decode prog_27_method_1_code 407 = .ok (.aload_n 0, 1) := by decide +kernel
theorem e4_408 : decode prog_27_method_1_code 408 = .ok (.getfield 30, 3) := by decide +kernel
theorem e4_411 : decode prog_27_method_1_code 411 = .ok (.if_icmp .ge 23, 3) := by decide +kernel
theorem e4_414 : decode prog_27_method_1_code 414 = .ok (.aload_n 0, 1) := by decide +kernel
theorem e4_415 : decode prog_27_method_1_code 415 = .ok (.getfield 56, 3) := by decide +kernel
theorem e4_418 : decode prog_27_method_1_code 418 = .ok (.iload_n 3, 1) := by decide +kernel
theorem e4_419 : decode prog_27_method_1_code 419 = .ok (.iaload, 1) := by decide +kernel
theorem e4_420 : decode prog_27_method_1_code 420 = .ok (.ifCond .lt 8, 3) := by decide +kernel
theorem e4_423 : decode prog_27_method_1_code 423 = .ok (.aload_n 0, 1) := by decide +kernel
theorem e4_424 : decode prog_27_method_1_code 424 = .ok (.iload_n 3, 1) := by decide +kernel
theorem e4_425 : decode prog_27_method_1_code 425 = .ok (.invokevirtual 141, 3) := by decide +kernel
theorem e4_428 : decode prog_27_method_1_code 428 = .ok (.iinc 3 1, 3) := by decide +kernel
theorem e4_431 : decode prog_27_method_1_code 431 = .ok (.goto (-25), 3) := by decide +kernel
theorem e4_434 : decode prog_27_method_1_code 434 = .ok (.return_, 1) := by decide +kernel
abbrev R_Ai : Room := { frames := 4, cells := 48, slots := 300, locals := 170 }
def fAi_L406b {Rt : Type} (y131 : Nat) (z321 : Nat) (z333 : Nat) (z374 : Nat) (y591 : Nat) (y592 : Nat) (Kx406 : Nat → Nat → Nat → Nat → Nat → Nat → Nat → Option Rt) (gv406 : Nat → Nat → Nat → Nat → Nat → Nat → Nat → Option Rt) (i618 : Nat) (A619 : Nat) (A620 : Nat) (A621 : Nat) (A622 : Nat) (A623 : Nat) (A624 : Nat) : Option Rt := ltN i618 y131 (rdN y591 y131 i618 fun x629 => (ltN x629 64 (addN i618 65 fun z630 => (gv406 z630 A619 A620 A621 A622 A623 A624)) (fEm y131 z321 z333 z374 y592 A619 A620 A621 A622 A623 A624 i618 fun y638 y639 y640 y641 y642 y643 => (addN i618 65 fun z644 => (gv406 z644 y638 y639 y640 y641 y642 y643))))) (Kx406 i618 A619 A620 A621 A622 A623 A624)
def fAi_L406 {Rt : Type} (y131 : Nat) (z321 : Nat) (z333 : Nat) (z374 : Nat) (y591 : Nat) (y592 : Nat) (Kx406 : Nat → Nat → Nat → Nat → Nat → Nat → Nat → Option Rt) : Nat → Nat → Nat → Nat → Nat → Nat → Nat → Option Rt := it8 (fAi_L406b y131 z321 z333 z374 y591 y592 Kx406) (fun _ _ _ _ _ _ _ => none)
def fAi_C404 {Rt : Type} (y131 : Nat) (z321 : Nat) (z333 : Nat) (z374 : Nat) (y497 : Nat) (y507 : Nat) (y517 : Nat) (y590 : Nat) (y591 : Nat) (y592 : Nat) (Kf : Nat → Nat → Nat → Option Rt) : Option Rt := fAi_L406 y131 z321 z333 z374 y591 y592 (fun i618 A619 A620 A621 A622 A623 A624 => Kf y131 y590 y591) 64 y517 y497 y507 AZ AZ AZ
def fAi_C396 {Rt : Type} (nf : Nat) (V1 : Nat) (V2 : Nat) (V3 : Nat) (V4 : Nat) (y131 : Nat) (y151 : Nat) (y166 : Nat) (z321 : Nat) (z333 : Nat) (z374 : Nat) (y497 : Nat) (y507 : Nat) (y517 : Nat) (y567 : Nat) (Kf : Nat → Nat → Nat → Option Rt) : Option Rt := fSe y131 nf y166 V1 V2 V3 V4 y151 AZ AZ AZ AZ AZ AZ AZ AZ fun y589 y590 y591 y592 y593 y594 y595 y596 => (fSo y131 y595 y591 y567 AZ AZ fun y607 y608 y609 => (fAi_C404 y131 z321 z333 z374 y497 y507 y517 y590 y591 y592 Kf))
def fAi_C324 {Rt : Type} (nf : Nat) (V1 : Nat) (V2 : Nat) (V3 : Nat) (V4 : Nat) (y131 : Nat) (y151 : Nat) (y166 : Nat) (z321 : Nat) (z333 : Nat) (z374 : Nat) (z424 : Nat) (Kf : Nat → Nat → Nat → Option Rt) : Option Rt := fFi z321 AZ 63 fun y497 => (fFi z333 AZ 63 fun y507 => (fFi 70 AZ 63 fun y517 => (fFi y131 AZ 63 fun y527 => (fFi z424 AZ 63 fun y537 => (fFi y131 AZ 63 fun y547 => (fFi y131 AZ 63 fun y557 => (fFi y131 AZ 63 fun y567 => (fFi y131 AZ 63 fun y577 => (fAi_C396 nf V1 V2 V3 V4 y131 y151 y166 z321 z333 z374 y497 y507 y517 y567 Kf)))))))))
def fAi_C284 {Rt : Type} (nf : Nat) (V1 : Nat) (V2 : Nat) (V3 : Nat) (V4 : Nat) (y131 : Nat) (y151 : Nat) (y166 : Nat) (z321 : Nat) (z333 : Nat) (z374 : Nat) (z424 : Nat) (Kf : Nat → Nat → Nat → Option Rt) : Option Rt := capN y131 4 (capN y131 4 (capN y131 4 (capN y131 4 (fAi_C324 nf V1 V2 V3 V4 y131 y151 y166 z321 z333 z374 z424 Kf))))
def fAi_C242 {Rt : Type} (nf : Nat) (V1 : Nat) (V2 : Nat) (V3 : Nat) (V4 : Nat) (y131 : Nat) (y151 : Nat) (y166 : Nat) (z321 : Nat) (z333 : Nat) (z374 : Nat) (Kf : Nat → Nat → Nat → Option Rt) : Option Rt := capN y131 4 (capN y131 4 (capN y131 4 (mulN 66 y131 fun z424 => (capN z424 8 (fAi_C284 nf V1 V2 V3 V4 y131 y151 y166 z321 z333 z374 z424 Kf)))))
def fAi_C180 {Rt : Type} (nf : Nat) (V1 : Nat) (V2 : Nat) (V3 : Nat) (V4 : Nat) (y131 : Nat) (y151 : Nat) (y166 : Nat) (Kf : Nat → Nat → Nat → Option Rt) : Option Rt := mulN 66 y131 fun z321 => (capN z321 8 (mulN 66 y131 fun z333 => (capN z333 8 (capN 70 6 (capN 70 6 (capN 70 6 (mulN 68 y131 fun z374 => (capN z374 16 (fAi_C242 nf V1 V2 V3 V4 y131 y151 y166 z321 z333 z374 Kf)))))))))
def fAi_C119 {Rt : Type} (nf : Nat) (V1 : Nat) (V2 : Nat) (V3 : Nat) (V4 : Nat) (y131 : Nat) (y151 : Nat) (y166 : Nat) (Kf : Nat → Nat → Nat → Option Rt) : Option Rt := capN y131 4 (capN y131 4 (capN y131 4 (capN y131 4 (capN y131 4 (capN y131 4 (fAi_C180 nf V1 V2 V3 V4 y131 y151 y166 Kf))))))
def fAi_C59 {Rt : Type} (nf : Nat) (V1 : Nat) (V2 : Nat) (V3 : Nat) (V4 : Nat) (y131 : Nat) (y151 : Nat) (y166 : Nat) (Kf : Nat → Nat → Nat → Option Rt) : Option Rt := capN y131 4 (capN y131 4 (capN y131 4 (capN y131 4 (capN y131 4 (capN y131 4 (fAi_C119 nf V1 V2 V3 V4 y131 y151 y166 Kf))))))
def fAi {Rt : Type} (nf : Nat) (V1 : Nat) (V2 : Nat) (V3 : Nat) (V4 : Nat) (Kf : Nat → Nat → Nat → Option Rt) : Option Rt := capN 80 16 (fVc nf V2 fun y131 => (fEc V1 (fRp V1 nf V2 V3 V4 fun y151 => (fHc y151 fun y166 => (boolN y166 (fAi_C59 nf V1 V2 V3 V4 y131 y151 y166 Kf))))))
def QAi {Rt : Type} (Z : State) (a0 : Array Value) (n0 : Nat) (h0 : Heap) (a1 : Addr) (a2 : Addr) (aV : Addr) (aF : Addr) (aE : Addr) (aN : Addr) (F : List (String × String × Value)) (G : List (String × String × Value)) (nf : Nat) (V1 : Nat) (V2 : Nat) (V3 : Nat) (V4 : Nat) (Kf : Nat → Nat → Nat → Option Rt) (r : Rt) (v : Option Value) (h : Heap) : Prop := ∃ b1 : Addr, ∃ b2 : Addr, ∃ nn : Nat, ∃ B1 : Nat, ∃ B2 : Nat, v = none ∧ HS Z a0 n0 h0 [a1, a2, aV, aF, aE, aN] h [ob a1 cA [("n", "I", (.int (E nn))), ("parent", "[I", (.ref b2)), ("vertexAt", "[I", (.ref b1))], ob a2 cE G, ia aV 70 V1, ia aF nf V2, ia aE 70 V3, ia aN 70 V4, ia b1 nn B1, ia b2 nn B2] ∧ Kf nn B1 B2 = some r
theorem ef_Ai (m : MethodId) (a1 : Addr) (a2 : Addr) : entryFrame m #[(.ref a1), (.ref a2)] 4 = mkF m 0 #[.val (.ref a1), .val (.ref a2), .unset, .unset] [] := by first | (simp [entryFrame, mkF, argsToLocals, Value.category, maxLocals]; done) | rfl
set_option maxRecDepth 65536 in
set_option maxHeartbeats 40000000 in
theorem rm_Ai {Rt : Type} (l : Launch) (Z : State) (a0 : Array Value) (hw : ∀ d ∈ tables_1, d.before a0 Z = true) (n0 : Nat) (h0 : Heap) (a1 : Addr) (a2 : Addr) (aV : Addr) (aF : Addr) (aE : Addr) (aN : Addr) (F : List (String × String × Value)) (G : List (String × String × Value)) (nf : Nat) (V1 : Nat) (V2 : Nat) (V3 : Nat) (V4 : Nat) (Z0 : n0 ≤ h0.size) (hF0 : FL F 0 "mergeStack" "[I" (.null)) (hF1 : FL F 1 "failedAt" "I" (.int (E 64))) (hF2 : FL F 2 "failedDescendant" "I" (.int (E 64))) (hF3 : FL F 3 "ends" "Lcom/example/ookayama/ookayama/EdgeEnds;" (.null)) (hF4 : FL F 4 "n" "I" (.int (E 64))) (hF5 : FL F 5 "representative" "[I" (.null)) (hF6 : FL F 6 "hasCopies" "Z" (.int (E 64))) (hF7 : FL F 7 "dfi" "[I" (.null)) (hF8 : FL F 8 "vertexAt" "[I" (.null)) (hF9 : FL F 9 "parent" "[I" (.null)) (hF10 : FL F 10 "treeEnd" "[I" (.null)) (hF11 : FL F 11 "leastAncestor" "[I" (.null)) (hF12 : FL F 12 "leastAncestorEdge" "[I" (.null)) (hF13 : FL F 13 "lowpoint" "[I" (.null)) (hF14 : FL F 14 "lowChild" "[I" (.null)) (hF15 : FL F 15 "blockedBelow" "[I" (.null)) (hF16 : FL F 16 "separatedHead" "[I" (.null)) (hF17 : FL F 17 "separatedNext" "[I" (.null)) (hF18 : FL F 18 "separatedPrev" "[I" (.null)) (hF19 : FL F 19 "firstArc" "[I" (.null)) (hF20 : FL F 20 "lastArc" "[I" (.null)) (hF21 : FL F 21 "arcNext" "[I" (.null)) (hF22 : FL F 22 "arcPrev" "[I" (.null)) (hF23 : FL F 23 "arcNode" "[I" (.null)) (hF24 : FL F 24 "extFace" "[I" (.null)) (hF25 : FL F 25 "flipped" "[Z" (.null)) (hF26 : FL F 26 "backFlag" "[I" (.null)) (hF27 : FL F 27 "pendingEnd" "[I" (.null)) (hF28 : FL F 28 "visited" "[I" (.null)) (hF29 : FL F 29 "pertinentHead" "[I" (.null)) (hF30 : FL F 30 "pertinentTail" "[I" (.null)) (hF31 : FL F 31 "pertinentNext" "[I" (.null)) (hF32 : FL F 32 "pertinentPrev" "[I" (.null)) (hF33 : FL F 33 "backStart" "[I" (.null)) (hF34 : FL F 34 "backEnd" "[I" (.null)) (hF35 : FL F 35 "backLower" "[I" (.null)) (hG0 : FL G 0 "vertexAt" "[I" (.ref aV)) (hG1 : FL G 1 "first" "[I" (.ref aF)) (hG2 : FL G 2 "endsAt" "[I" (.ref aE)) (hG3 : FL G 3 "neighbourAt" "[I" (.ref aN)) (d0 : HS Z a0 n0 h0 [a1, a2, aV, aF, aE, aN] h0 [ob a1 cA F, ob a2 cE G, ia aV 70 V1, ia aF nf V2, ia aE 70 V3, ia aN 70 V4]) (Kf : Nat → Nat → Nat → Option Rt) (r : Rt) (hf : fAi nf V1 V2 V3 V4 Kf = some r) :
    WCon l Z n0 h0 (⟨"com/example/ookayama/ookayama/EdgeAddition", "<init>", "(Lcom/example/ookayama/ookayama/EdgeEnds;)V"⟩ : MethodName) prog_27_method_1_code 4 none [] R_Ai #[(.ref a1), (.ref a2)] (QAi Z a0 n0 h0 a1 a2 aV aF aE aN F G nf V1 V2 V3 V4 Kf r) := by
  refine WCon.of (by first | exact plainFor_of_name (by decide +kernel) | decide +kernel) Z0 ?_
  intro p e s m below meth c T hx hZ hby hml hown hnm hret S
  have hC404 : ∀ (T610 : State) (h611 : Heap) (a188 a200 a211 a322 a334 a344 a353 a362 a375 : Addr) (F404 : List (String × String × Value)) (y131 z321 z333 z374 y497 y507 y517 y590 y591 y592 : Nat), WSt p l e R_Ai s m #[(.ref a1), (.ref a2)] below meth c Z n0 T610 h611 (43) (250) → HS Z a0 n0 h0 [a1, a2, aV, aF, aE, aN] h611 [ob a1 cA F404, ob a2 cE G, ia aV 70 V1, ia aF nf V2, ia aE 70 V3, ia aN 70 V4, ia a188 y131 y590, ia a200 y131 y591, ia a211 y131 y592, ia a322 z321 y497, ia a334 z333 y507, ia a344 70 AZ, ia a353 70 AZ, ia a362 70 y517, ia a375 z374 AZ] → FL F404 4 "n" "I" (.int (E y131)) → FL F404 8 "vertexAt" "[I" (.ref a188) → FL F404 9 "parent" "[I" (.ref a200) → FL F404 10 "treeEnd" "[I" (.ref a211) → FL F404 19 "firstArc" "[I" (.ref a322) → FL F404 20 "lastArc" "[I" (.ref a334) → FL F404 21 "arcNext" "[I" (.ref a344) → FL F404 22 "arcPrev" "[I" (.ref a353) → FL F404 23 "arcNode" "[I" (.ref a362) → FL F404 24 "extFace" "[I" (.ref a375) → fAi_C404 y131 z321 z333 z374 y497 y507 y517 y590 y591 y592 Kf = some r → WGo p e below s n0 (QAi Z a0 n0 h0 a1 a2 aV aF aE aN F G nf V1 V2 V3 V4 Kf r) R_Ai.cells R_Ai.slots T610 (mkF m 404 #[.val (.ref a1), .val (.ref a2), .val (.int (E 67)), .unset] []) := by
    intro T610 h611 a188 a200 a211 a322 a334 a344 a353 a362 a375 F404 y131 z321 z333 z374 y497 y507 y517 y590 y591 y592 S612 d613 hF404_4 hF404_8 hF404_9 hF404_10 hF404_19 hF404_20 hF404_21 hF404_22 hF404_23 hF404_24 hf
    rw [fAi_C404] at hf
    show WGo _ _ _ _ _ _ _ _ T610 (mkF m 404 #[.val (.ref a1), .val (.ref a2), .val (.int (E 67)), .unset] [])
    refine WGo.st (fun _ q => XS.iconst S612.here hx rfl (hb hby e4_404) q) ?_
    refine WGo.st (fun _ q => XS.istoreN S612.here hx rfl (hb hby e4_405) rfl (l' := #[.val (.ref a1), .val (.ref a2), .val (.int (E 67)), .val (.int (E 64))]) rfl q) ?_
    show WGo _ _ _ _ _ _ _ _ T610 (mkF m 406 #[.val (.ref a1), .val (.ref a2), .val (.int (E 67)), .val (.int (E 64))] [])
    obtain ⟨Kx406, eKx406⟩ : ∃ K : Nat → Nat → Nat → Nat → Nat → Nat → Nat → Option Rt, K = (fun i618 A619 A620 A621 A622 A623 A624 => Kf y131 y590 y591) := ⟨_, rfl⟩
    rw [← eKx406] at hf
    have hK406 : ∀ (T614 : State) (h615 : Heap) (i618 : Nat) (A619 : Nat) (A620 : Nat) (A621 : Nat) (A622 : Nat) (A623 : Nat) (A624 : Nat), WSt p l e R_Ai s m #[(.ref a1), (.ref a2)] below meth c Z n0 T614 h615 (43) (250) → HS Z a0 n0 h0 [a1, a2, aV, aF, aE, aN] h615 [ob a1 cA F404, ob a2 cE G, ia aV 70 V1, ia aF nf V2, ia aE 70 V3, ia aN 70 V4, ia a188 y131 y590, ia a200 y131 y591, ia a211 y131 y592, ia a322 z321 A620, ia a334 z333 A621, ia a344 70 A622, ia a353 70 A623, ia a362 70 A619, ia a375 z374 A624] → Kx406 i618 A619 A620 A621 A622 A623 A624 = some r → WGo p e below s n0 (QAi Z a0 n0 h0 a1 a2 aV aF aE aN F G nf V1 V2 V3 V4 Kf r) R_Ai.cells R_Ai.slots T614 (mkF m 434 #[.val (.ref a1), .val (.ref a2), .val (.int (E 67)), .val (.int (E i618))] []) := by
      intro T614 h615  i618 A619 A620 A621 A622 A623 A624 S616  d617 hf
      rw [eKx406] at hf
      show WGo _ _ _ _ _ _ _ _ T614 (mkF m 434 #[.val (.ref a1), .val (.ref a2), .val (.int (E 67)), .val (.int (E i618))] [])
      refine w_retV S616 hret (hb hby e4_434) (by decide) (by decide) ?_
      have dz := HS.fsub d617 (i := 0) rfl [("n", "I", (.int (E y131))), ("parent", "[I", (.ref a200)), ("vertexAt", "[I", (.ref a188))] (by show (["n", "parent", "vertexAt"] : List String).Nodup; decide) (by intro x hx; simp only [List.mem_cons, List.not_mem_nil, or_false] at hx; rcases hx with rfl | rfl | rfl; exact List.mem_of_getElem? hF404_4; exact List.mem_of_getElem? hF404_9; exact List.mem_of_getElem? hF404_8)
      exact ⟨a188, a200, y131, y590, y591, rfl, HS.sel dz [0, 1, 2, 3, 4, 5, 6, 7] [ob a1 cA [("n", "I", (.int (E y131))), ("parent", "[I", (.ref a200)), ("vertexAt", "[I", (.ref a188))], ob a2 cE G, ia aV 70 V1, ia aF nf V2, ia aE 70 V3, ia aN 70 V4, ia a188 y131 y590, ia a200 y131 y591] (by decide) rfl, hf⟩
    have hL406 : ∀ (T614 : State) (h615 : Heap) (i618 : Nat) (A619 : Nat) (A620 : Nat) (A621 : Nat) (A622 : Nat) (A623 : Nat) (A624 : Nat), WSt p l e R_Ai s m #[(.ref a1), (.ref a2)] below meth c Z n0 T614 h615 (43) (250) → HS Z a0 n0 h0 [a1, a2, aV, aF, aE, aN] h615 [ob a1 cA F404, ob a2 cE G, ia aV 70 V1, ia aF nf V2, ia aE 70 V3, ia aN 70 V4, ia a188 y131 y590, ia a200 y131 y591, ia a211 y131 y592, ia a322 z321 A620, ia a334 z333 A621, ia a344 70 A622, ia a353 70 A623, ia a362 70 A619, ia a375 z374 A624] → fAi_L406 y131 z321 z333 z374 y591 y592 Kx406 i618 A619 A620 A621 A622 A623 A624 = some r → WGo p e below s n0 (QAi Z a0 n0 h0 a1 a2 aV aF aE aN F G nf V1 V2 V3 V4 Kf r) R_Ai.cells R_Ai.slots T614 (mkF m 406 #[.val (.ref a1), .val (.ref a2), .val (.int (E 67)), .val (.int (E i618))] []) := by
      refine it8_ind (F := fAi_L406b y131 z321 z333 z374 y591 y592 Kx406) (P := fun (gv406 : Nat → Nat → Nat → Nat → Nat → Nat → Nat → Option Rt) => ∀ (T614 : State) (h615 : Heap) (i618 : Nat) (A619 : Nat) (A620 : Nat) (A621 : Nat) (A622 : Nat) (A623 : Nat) (A624 : Nat), WSt p l e R_Ai s m #[(.ref a1), (.ref a2)] below meth c Z n0 T614 h615 (43) (250) → HS Z a0 n0 h0 [a1, a2, aV, aF, aE, aN] h615 [ob a1 cA F404, ob a2 cE G, ia aV 70 V1, ia aF nf V2, ia aE 70 V3, ia aN 70 V4, ia a188 y131 y590, ia a200 y131 y591, ia a211 y131 y592, ia a322 z321 A620, ia a334 z333 A621, ia a344 70 A622, ia a353 70 A623, ia a362 70 A619, ia a375 z374 A624] → gv406 i618 A619 A620 A621 A622 A623 A624 = some r → WGo p e below s n0 (QAi Z a0 n0 h0 a1 a2 aV aF aE aN F G nf V1 V2 V3 V4 Kf r) R_Ai.cells R_Ai.slots T614 (mkF m 406 #[.val (.ref a1), .val (.ref a2), .val (.int (E 67)), .val (.int (E i618))] [])) ?_ ?_
      · intro T614 h615  i618 A619 A620 A621 A622 A623 A624 S616  d617 hf
        cases (show (none : Option _) = some r from hf)
      · intro gv406 ih T614 h615  i618 A619 A620 A621 A622 A623 A624 S616  d617 hf
        rw [fAi_L406b] at hf
        show WGo _ _ _ _ _ _ _ _ T614 (mkF m 406 #[.val (.ref a1), .val (.ref a2), .val (.int (E 67)), .val (.int (E i618))] [])
        refine WGo.st (fun _ q => XS.iloadN S616.here hx rfl (hb hby e4_406) rfl q) ?_
        refine WGo.st (fun _ q => XS.aloadN S616.here hx rfl (hb hby e4_407) rfl rfl q) ?_
        refine w_agf S616 d617 (i := 0) (fi := 4) hown (hwi hw 46 rfl) rfl hF404_4 rfl rfl (hb hby e4_408) ?_
        intro T625 S626
        show WGo _ _ _ _ _ _ _ _ T625 (mkF m 411 #[.val (.ref a1), .val (.ref a2), .val (.int (E 67)), .val (.int (E i618))] [(.int (E y131)), (.int (E i618))])
        rcases ltN_some hf with ⟨c411, hf⟩ | ⟨c411, hf⟩
        · refine WGo.st (fun _ q => XS.icmpNo S626.here hx rfl (hb hby e4_411) rfl (tlt c411).2.1 q) ?_
          show WGo _ _ _ _ _ _ _ _ T625 (mkF m 414 #[.val (.ref a1), .val (.ref a2), .val (.int (E 67)), .val (.int (E i618))] [])
          refine WGo.st (fun _ q => XS.aloadN S626.here hx rfl (hb hby e4_414) rfl rfl q) ?_
          refine w_agf S626 d617 (i := 0) (fi := 9) hown (hwi hw 87 rfl) rfl hF404_9 rfl rfl (hb hby e4_415) ?_
          intro T627 S628
          show WGo _ _ _ _ _ _ _ _ T627 (mkF m 418 #[.val (.ref a1), .val (.ref a2), .val (.int (E 67)), .val (.int (E i618))] [(.ref a200)])
          refine WGo.st (fun _ q => XS.iloadN S628.here hx rfl (hb hby e4_418) rfl q) ?_
          refine w_ald S628 d617 (i := 7) rfl rfl (hb hby e4_419) rfl hf ?_
          intro x629 hf
          show WGo _ _ _ _ _ _ _ _ T627 (mkF m 420 #[.val (.ref a1), .val (.ref a2), .val (.int (E 67)), .val (.int (E i618))] [(.int (E x629))])
          rcases ltN_some hf with ⟨c420, hf⟩ | ⟨c420, hf⟩
          · refine WGo.st (fun _ q => XS.ifYes S628.here hx rfl (pc0 := 420) (pc' := 428) rfl (hb hby e4_420) rfl ((if0E _ _).trans (tlt c420).1) (by decide) (by decide) q) ?_
            show WGo _ _ _ _ _ _ _ _ T627 (mkF m 428 #[.val (.ref a1), .val (.ref a2), .val (.int (E 67)), .val (.int (E i618))] [])
            refine w_incN S628 rfl (hb hby e4_428) (y := 65) (by decide) rfl (l1 := fun z0 => #[.val (.ref a1), .val (.ref a2), .val (.int (E 67)), .val (.int (E z0))]) (fun _ => rfl) (fun _ => rfl) hf ?_
            intro z630 hf
            show WGo _ _ _ _ _ _ _ _ T627 (mkF m 431 #[.val (.ref a1), .val (.ref a2), .val (.int (E 67)), .val (.int (E z630))] [])
            refine WGo.st (fun _ q => XS.goto S628.here hx rfl (pc0 := 431) (pc' := 406) rfl (hb hby e4_431) (by decide) (by decide) q) ?_
            show WGo _ _ _ _ _ _ _ _ T627 (mkF m 406 #[.val (.ref a1), .val (.ref a2), .val (.int (E 67)), .val (.int (E z630))] [])
            exact ih T627 h615  z630 A619 A620 A621 A622 A623 A624 S628  d617  hf
          · refine WGo.st (fun _ q => XS.ifNo S628.here hx rfl (hb hby e4_420) rfl ((if0E _ _).trans (flt c420).1) q) ?_
            show WGo _ _ _ _ _ _ _ _ T627 (mkF m 423 #[.val (.ref a1), .val (.ref a2), .val (.int (E 67)), .val (.int (E i618))] [])
            refine WGo.st (fun _ q => XS.aloadN S628.here hx rfl (hb hby e4_423) rfl rfl q) ?_
            refine WGo.st (fun _ q => XS.iloadN S628.here hx rfl (hb hby e4_424) rfl q) ?_
            refine w_private S628 (y := (⟨"com/example/ookayama/ookayama/EdgeAddition", "embedTreeEdge", "(I)V"⟩ : MethodName)) (z := (⟨"com/example/ookayama/ookayama/EdgeAddition", "searchRoots", "()[I"⟩ : MethodName)) hown (hwi hw 178 rfl) (hwi hw 179 rfl) (hwi hw 180 rfl) (hwi hw 11 rfl) (hwi hw 181 rfl) (hwi hw 176 rfl) rfl (by decide) (HS.obj d617 (i := 0) rfl) (rm_Em l Z a0 hw n0 h615 a1 a211 a362 a322 a334 a344 a353 a375 (F404) y131 z321 z333 z374 y592 A619 A620 A621 A622 A623 A624 i618 S628.ge (hF404_23) (hF404_19) (hF404_20) (hF404_21) (hF404_22) (hF404_24) (hF404_4) (hF404_10) (HS.pw d617 [0, 8, 13, 9, 10, 11, 12, 14] (by decide) rfl rfl) _ _ hf) (W := 0) (by decide) (by decide) (by decide) (by decide) rfl (by rw [hml]; rfl) (argsL := [(.int (E i618))]) (rest := []) (ps := [.int]) (rt := none) (by decide) rfl rfl rfl (by show 2 * 0 + _ ≤ _; exact Nat.le_of_eq rfl) (hb hby e4_425) ?_
            intro T631 h633 w634 S632 q635
            obtain ⟨y638, y639, y640, y641, y642, y643, rfl, d636, hf⟩ := q635
            have d637 : HS Z a0 n0 h0 [a1, a2, aV, aF, aE, aN] h633 [ob a1 cA F404, ob a2 cE G, ia aV 70 V1, ia aF nf V2, ia aE 70 V3, ia aN 70 V4, ia a188 y131 y590, ia a200 y131 y591, ia a211 y131 y592, ia a322 z321 y639, ia a334 z333 y640, ia a344 70 y641, ia a353 70 y642, ia a362 70 y638, ia a375 z374 y643] := HS.call d617 [0, 8, 13, 9, 10, 11, 12, 14] [ob a1 cA F404, ia a211 y131 y592, ia a362 70 A619, ia a322 z321 A620, ia a334 z333 A621, ia a344 70 A622, ia a353 70 A623, ia a375 z374 A624] [ob a1 cA F404, ia a211 y131 y592, ia a362 70 y638, ia a322 z321 y639, ia a334 z333 y640, ia a344 70 y641, ia a353 70 y642, ia a375 z374 y643] [] (by decide) rfl rfl d636
            show WGo _ _ _ _ _ _ _ _ T631 (mkF m 428 #[.val (.ref a1), .val (.ref a2), .val (.int (E 67)), .val (.int (E i618))] [])
            refine w_incN S632 rfl (hb hby e4_428) (y := 65) (by decide) rfl (l1 := fun z0 => #[.val (.ref a1), .val (.ref a2), .val (.int (E 67)), .val (.int (E z0))]) (fun _ => rfl) (fun _ => rfl) hf ?_
            intro z644 hf
            show WGo _ _ _ _ _ _ _ _ T631 (mkF m 431 #[.val (.ref a1), .val (.ref a2), .val (.int (E 67)), .val (.int (E z644))] [])
            refine WGo.st (fun _ q => XS.goto S632.here hx rfl (pc0 := 431) (pc' := 406) rfl (hb hby e4_431) (by decide) (by decide) q) ?_
            show WGo _ _ _ _ _ _ _ _ T631 (mkF m 406 #[.val (.ref a1), .val (.ref a2), .val (.int (E 67)), .val (.int (E z644))] [])
            exact ih T631 h633  z644 y638 y639 y640 y641 y642 y643 S632  d637  hf
        · refine WGo.st (fun _ q => XS.icmpYes S626.here hx rfl (pc0 := 411) (pc' := 434) rfl (hb hby e4_411) rfl (flt c411).2.1 (by decide) (by decide) q) ?_
          show WGo _ _ _ _ _ _ _ _ T625 (mkF m 434 #[.val (.ref a1), .val (.ref a2), .val (.int (E 67)), .val (.int (E i618))] [])
          exact hK406 T625 h615  i618 A619 A620 A621 A622 A623 A624 S626  d617 hf
    exact hL406 T610 h611  64 y517 y497 y507 AZ AZ AZ S612  d613 hf
  have hC396 : ∀ (T578 : State) (h579 : Heap) (a152 a177 a188 a200 a211 a222 a234 a249 a260 a283 a294 a306 a322 a334 a344 a353 a362 a375 : Addr) (F396 : List (String × String × Value)) (y131 y151 y166 z321 z333 z374 y497 y507 y517 y567 : Nat), WSt p l e R_Ai s m #[(.ref a1), (.ref a2)] below meth c Z n0 T578 h579 (30) (161) → HS Z a0 n0 h0 [a1, a2, aV, aF, aE, aN] h579 [ob a1 cA F396, ob a2 cE G, ia aV 70 V1, ia aF nf V2, ia aE 70 V3, ia aN 70 V4, ia a152 67 y151, ia a177 y131 AZ, ia a188 y131 AZ, ia a200 y131 AZ, ia a211 y131 AZ, ia a222 y131 AZ, ia a234 y131 AZ, ia a249 y131 AZ, ia a260 y131 AZ, ia a283 y131 y567, ia a294 y131 AZ, ia a306 y131 AZ, ia a322 z321 y497, ia a334 z333 y507, ia a344 70 AZ, ia a353 70 AZ, ia a362 70 y517, ia a375 z374 AZ] → FL F396 3 "ends" "Lcom/example/ookayama/ookayama/EdgeEnds;" (.ref a2) → FL F396 4 "n" "I" (.int (E y131)) → FL F396 5 "representative" "[I" (.ref a152) → FL F396 6 "hasCopies" "Z" (.int (E y166)) → FL F396 7 "dfi" "[I" (.ref a177) → FL F396 8 "vertexAt" "[I" (.ref a188) → FL F396 9 "parent" "[I" (.ref a200) → FL F396 10 "treeEnd" "[I" (.ref a211) → FL F396 11 "leastAncestor" "[I" (.ref a222) → FL F396 12 "leastAncestorEdge" "[I" (.ref a234) → FL F396 13 "lowpoint" "[I" (.ref a249) → FL F396 14 "lowChild" "[I" (.ref a260) → FL F396 16 "separatedHead" "[I" (.ref a283) → FL F396 17 "separatedNext" "[I" (.ref a294) → FL F396 18 "separatedPrev" "[I" (.ref a306) → FL F396 19 "firstArc" "[I" (.ref a322) → FL F396 20 "lastArc" "[I" (.ref a334) → FL F396 21 "arcNext" "[I" (.ref a344) → FL F396 22 "arcPrev" "[I" (.ref a353) → FL F396 23 "arcNode" "[I" (.ref a362) → FL F396 24 "extFace" "[I" (.ref a375) → FL F396 33 "backStart" "[I" (.null) → FL F396 34 "backEnd" "[I" (.null) → FL F396 35 "backLower" "[I" (.null) → fAi_C396 nf V1 V2 V3 V4 y131 y151 y166 z321 z333 z374 y497 y507 y517 y567 Kf = some r → WGo p e below s n0 (QAi Z a0 n0 h0 a1 a2 aV aF aE aN F G nf V1 V2 V3 V4 Kf r) R_Ai.cells R_Ai.slots T578 (mkF m 396 #[.val (.ref a1), .val (.ref a2), .val (.int (E 67)), .unset] []) := by
    intro T578 h579 a152 a177 a188 a200 a211 a222 a234 a249 a260 a283 a294 a306 a322 a334 a344 a353 a362 a375 F396 y131 y151 y166 z321 z333 z374 y497 y507 y517 y567 S580 d581 hF396_3 hF396_4 hF396_5 hF396_6 hF396_7 hF396_8 hF396_9 hF396_10 hF396_11 hF396_12 hF396_13 hF396_14 hF396_16 hF396_17 hF396_18 hF396_19 hF396_20 hF396_21 hF396_22 hF396_23 hF396_24 hF396_33 hF396_34 hF396_35 hf
    rw [fAi_C396] at hf
    show WGo _ _ _ _ _ _ _ _ T578 (mkF m 396 #[.val (.ref a1), .val (.ref a2), .val (.int (E 67)), .unset] [])
    refine WGo.st (fun _ q => XS.aloadN S580.here hx rfl (hb hby e4_396) rfl rfl q) ?_
    refine w_private S580 (y := (⟨"com/example/ookayama/ookayama/EdgeAddition", "search", "()V"⟩ : MethodName)) (z := (⟨"com/example/ookayama/ookayama/EdgeAddition", "searchRoots", "()[I"⟩ : MethodName)) hown (hwi hw 136 rfl) (hwi hw 137 rfl) (hwi hw 138 rfl) (hwi hw 11 rfl) (hwi hw 139 rfl) (hwi hw 176 rfl) rfl (by decide) (HS.obj d581 (i := 0) rfl) (rm_Se l Z a0 hw n0 h579 a1 a2 aV aF aE aN a152 a177 a188 a200 a211 a222 a234 a249 a260 (F396) (G) y131 nf y166 V1 V2 V3 V4 y151 AZ AZ AZ AZ AZ AZ AZ AZ S580.ge (hF396_7) (hF396_8) (hF396_9) (hF396_10) (hF396_11) (hF396_12) (hF396_13) (hF396_14) (hF396_5) (hF396_6) (hF396_3) (hF396_4) (hF396_33) (hF396_34) (hF396_35) (hG0) (hG1) (hG2) (hG3) (HS.pw d581 [0, 1, 2, 3, 4, 5, 6, 7, 8, 9, 10, 11, 12, 13, 14] (by decide) rfl rfl) _ _ hf) (W := 0) (by decide) (by decide) (by decide) (by decide) rfl (by rw [hml]; rfl) (argsL := []) (rest := []) (ps := []) (rt := none) (by decide) rfl rfl rfl (by show 2 * 0 + _ ≤ _; exact Nat.le_of_eq rfl) (hb hby e4_397) ?_
    intro T582 h584 w585 S583 q586
    obtain ⟨a597, a598, a599, y589, y590, y591, y592, y593, y594, y595, y596, rfl, d587, hf⟩ := q586
    have d588 : HS Z a0 n0 h0 [a1, a2, aV, aF, aE, aN] h584 [ob a1 cA (((F396.set 33 ("backStart", "[I", (.ref a597))).set 34 ("backEnd", "[I", (.ref a598))).set 35 ("backLower", "[I", (.ref a599))), ob a2 cE G, ia aV 70 V1, ia aF nf V2, ia aE 70 V3, ia aN 70 V4, ia a152 67 y151, ia a177 y131 y589, ia a188 y131 y590, ia a200 y131 y591, ia a211 y131 y592, ia a222 y131 y593, ia a234 y131 y594, ia a249 y131 y595, ia a260 y131 y596, ia a283 y131 y567, ia a294 y131 AZ, ia a306 y131 AZ, ia a322 z321 y497, ia a334 z333 y507, ia a344 70 AZ, ia a353 70 AZ, ia a362 70 y517, ia a375 z374 AZ] := HS.call d581 [0, 1, 2, 3, 4, 5, 6, 7, 8, 9, 10, 11, 12, 13, 14] [ob a1 cA F396, ob a2 cE G, ia aV 70 V1, ia aF nf V2, ia aE 70 V3, ia aN 70 V4, ia a152 67 y151, ia a177 y131 AZ, ia a188 y131 AZ, ia a200 y131 AZ, ia a211 y131 AZ, ia a222 y131 AZ, ia a234 y131 AZ, ia a249 y131 AZ, ia a260 y131 AZ] [ob a1 cA (((F396.set 33 ("backStart", "[I", (.ref a597))).set 34 ("backEnd", "[I", (.ref a598))).set 35 ("backLower", "[I", (.ref a599))), ob a2 cE G, ia aV 70 V1, ia aF nf V2, ia aE 70 V3, ia aN 70 V4, ia a152 67 y151, ia a177 y131 y589, ia a188 y131 y590, ia a200 y131 y591, ia a211 y131 y592, ia a222 y131 y593, ia a234 y131 y594, ia a249 y131 y595, ia a260 y131 y596] [] (by decide) rfl rfl d587
    show WGo _ _ _ _ _ _ _ _ T582 (mkF m 400 #[.val (.ref a1), .val (.ref a2), .val (.int (E 67)), .unset] [])
    refine WGo.st (fun _ q => XS.aloadN S583.here hx rfl (hb hby e4_400) rfl rfl q) ?_
    refine w_private S583 (y := (⟨"com/example/ookayama/ookayama/EdgeAddition", "sortSeparatedChildren", "()V"⟩ : MethodName)) (z := (⟨"com/example/ookayama/ookayama/EdgeAddition", "searchRoots", "()[I"⟩ : MethodName)) hown (hwi hw 169 rfl) (hwi hw 170 rfl) (hwi hw 171 rfl) (hwi hw 11 rfl) (hwi hw 172 rfl) (hwi hw 176 rfl) rfl (by decide) (HS.obj d588 (i := 0) rfl) (rm_So l Z a0 hw n0 h584 a1 a249 a200 a283 a294 a306 (((F396.set 33 ("backStart", "[I", (.ref a597))).set 34 ("backEnd", "[I", (.ref a598))).set 35 ("backLower", "[I", (.ref a599))) y131 y595 y591 y567 AZ AZ S583.ge ((fn rfl (fn rfl (fn rfl hF396_13)))) ((fn rfl (fn rfl (fn rfl hF396_9)))) ((fn rfl (fn rfl (fn rfl hF396_16)))) ((fn rfl (fn rfl (fn rfl hF396_17)))) ((fn rfl (fn rfl (fn rfl hF396_18)))) ((fn rfl (fn rfl (fn rfl hF396_4)))) (HS.pw d588 [0, 13, 9, 15, 16, 17] (by decide) rfl rfl) _ _ hf) (W := 0) (by decide) (by decide) (by decide) (by decide) rfl (by rw [hml]; rfl) (argsL := []) (rest := []) (ps := []) (rt := none) (by decide) rfl rfl rfl (by show 2 * 0 + _ ≤ _; exact Nat.le_of_eq rfl) (hb hby e4_401) ?_
    intro T600 h602 w603 S601 q604
    obtain ⟨y607, y608, y609, rfl, d605, hf⟩ := q604
    have d606 : HS Z a0 n0 h0 [a1, a2, aV, aF, aE, aN] h602 [ob a1 cA (((F396.set 33 ("backStart", "[I", (.ref a597))).set 34 ("backEnd", "[I", (.ref a598))).set 35 ("backLower", "[I", (.ref a599))), ob a2 cE G, ia aV 70 V1, ia aF nf V2, ia aE 70 V3, ia aN 70 V4, ia a152 67 y151, ia a177 y131 y589, ia a188 y131 y590, ia a200 y131 y591, ia a211 y131 y592, ia a222 y131 y593, ia a234 y131 y594, ia a249 y131 y595, ia a260 y131 y596, ia a283 y131 y607, ia a294 y131 y608, ia a306 y131 y609, ia a322 z321 y497, ia a334 z333 y507, ia a344 70 AZ, ia a353 70 AZ, ia a362 70 y517, ia a375 z374 AZ] := HS.call d588 [0, 13, 9, 15, 16, 17] [ob a1 cA (((F396.set 33 ("backStart", "[I", (.ref a597))).set 34 ("backEnd", "[I", (.ref a598))).set 35 ("backLower", "[I", (.ref a599))), ia a249 y131 y595, ia a200 y131 y591, ia a283 y131 y567, ia a294 y131 AZ, ia a306 y131 AZ] [ob a1 cA (((F396.set 33 ("backStart", "[I", (.ref a597))).set 34 ("backEnd", "[I", (.ref a598))).set 35 ("backLower", "[I", (.ref a599))), ia a249 y131 y595, ia a200 y131 y591, ia a283 y131 y607, ia a294 y131 y608, ia a306 y131 y609] [] (by decide) rfl rfl d605
    show WGo _ _ _ _ _ _ _ _ T600 (mkF m 404 #[.val (.ref a1), .val (.ref a2), .val (.int (E 67)), .unset] [])
    have d645 : HS Z a0 n0 h0 [a1, a2, aV, aF, aE, aN] h602 [ob a1 cA (((F396.set 33 ("backStart", "[I", (.ref a597))).set 34 ("backEnd", "[I", (.ref a598))).set 35 ("backLower", "[I", (.ref a599))), ob a2 cE G, ia aV 70 V1, ia aF nf V2, ia aE 70 V3, ia aN 70 V4, ia a188 y131 y590, ia a200 y131 y591, ia a211 y131 y592, ia a322 z321 y497, ia a334 z333 y507, ia a344 70 AZ, ia a353 70 AZ, ia a362 70 y517, ia a375 z374 AZ] := HS.sel d606 [0, 1, 2, 3, 4, 5, 8, 9, 10, 18, 19, 20, 21, 22, 23] _ (by decide) rfl
    exact hC404 T600 h602 a188 a200 a211 a322 a334 a344 a353 a362 a375 _ y131 z321 z333 z374 y497 y507 y517 y590 y591 y592 S601 d645 (fn rfl (fn rfl (fn rfl hF396_4))) (fn rfl (fn rfl (fn rfl hF396_8))) (fn rfl (fn rfl (fn rfl hF396_9))) (fn rfl (fn rfl (fn rfl hF396_10))) (fn rfl (fn rfl (fn rfl hF396_19))) (fn rfl (fn rfl (fn rfl hF396_20))) (fn rfl (fn rfl (fn rfl hF396_21))) (fn rfl (fn rfl (fn rfl hF396_22))) (fn rfl (fn rfl (fn rfl hF396_23))) (fn rfl (fn rfl (fn rfl hF396_24))) hf
  have hC324 : ∀ (T484 : State) (h485 : Heap) (a152 a177 a188 a200 a211 a222 a234 a249 a260 a272 a283 a294 a306 a322 a334 a344 a353 a362 a375 a401 a425 a440 a452 : Addr) (F324 : List (String × String × Value)) (y131 y151 y166 z321 z333 z374 z424 : Nat), WSt p l e R_Ai s m #[(.ref a1), (.ref a2)] below meth c Z n0 T484 h485 (30) (161) → HS Z a0 n0 h0 [a1, a2, aV, aF, aE, aN] h485 [ob a1 cA F324, ob a2 cE G, ia aV 70 V1, ia aF nf V2, ia aE 70 V3, ia aN 70 V4, ia a152 67 y151, ia a177 y131 AZ, ia a188 y131 AZ, ia a200 y131 AZ, ia a211 y131 AZ, ia a222 y131 AZ, ia a234 y131 AZ, ia a249 y131 AZ, ia a260 y131 AZ, ia a272 y131 AZ, ia a283 y131 AZ, ia a294 y131 AZ, ia a306 y131 AZ, ia a322 z321 AZ, ia a334 z333 AZ, ia a344 70 AZ, ia a353 70 AZ, ia a362 70 AZ, ia a375 z374 AZ, ia a401 y131 AZ, ia a425 z424 AZ, ia a440 y131 AZ, ia a452 y131 AZ] → FL F324 3 "ends" "Lcom/example/ookayama/ookayama/EdgeEnds;" (.ref a2) → FL F324 4 "n" "I" (.int (E y131)) → FL F324 5 "representative" "[I" (.ref a152) → FL F324 6 "hasCopies" "Z" (.int (E y166)) → FL F324 7 "dfi" "[I" (.ref a177) → FL F324 8 "vertexAt" "[I" (.ref a188) → FL F324 9 "parent" "[I" (.ref a200) → FL F324 10 "treeEnd" "[I" (.ref a211) → FL F324 11 "leastAncestor" "[I" (.ref a222) → FL F324 12 "leastAncestorEdge" "[I" (.ref a234) → FL F324 13 "lowpoint" "[I" (.ref a249) → FL F324 14 "lowChild" "[I" (.ref a260) → FL F324 15 "blockedBelow" "[I" (.ref a272) → FL F324 16 "separatedHead" "[I" (.ref a283) → FL F324 17 "separatedNext" "[I" (.ref a294) → FL F324 18 "separatedPrev" "[I" (.ref a306) → FL F324 19 "firstArc" "[I" (.ref a322) → FL F324 20 "lastArc" "[I" (.ref a334) → FL F324 21 "arcNext" "[I" (.ref a344) → FL F324 22 "arcPrev" "[I" (.ref a353) → FL F324 23 "arcNode" "[I" (.ref a362) → FL F324 24 "extFace" "[I" (.ref a375) → FL F324 26 "backFlag" "[I" (.ref a401) → FL F324 28 "visited" "[I" (.ref a425) → FL F324 29 "pertinentHead" "[I" (.ref a440) → FL F324 30 "pertinentTail" "[I" (.ref a452) → FL F324 33 "backStart" "[I" (.null) → FL F324 34 "backEnd" "[I" (.null) → FL F324 35 "backLower" "[I" (.null) → fAi_C324 nf V1 V2 V3 V4 y131 y151 y166 z321 z333 z374 z424 Kf = some r → WGo p e below s n0 (QAi Z a0 n0 h0 a1 a2 aV aF aE aN F G nf V1 V2 V3 V4 Kf r) R_Ai.cells R_Ai.slots T484 (mkF m 324 #[.val (.ref a1), .val (.ref a2), .val (.int (E 67)), .unset] []) := by
    intro T484 h485 a152 a177 a188 a200 a211 a222 a234 a249 a260 a272 a283 a294 a306 a322 a334 a344 a353 a362 a375 a401 a425 a440 a452 F324 y131 y151 y166 z321 z333 z374 z424 S486 d487 hF324_3 hF324_4 hF324_5 hF324_6 hF324_7 hF324_8 hF324_9 hF324_10 hF324_11 hF324_12 hF324_13 hF324_14 hF324_15 hF324_16 hF324_17 hF324_18 hF324_19 hF324_20 hF324_21 hF324_22 hF324_23 hF324_24 hF324_26 hF324_28 hF324_29 hF324_30 hF324_33 hF324_34 hF324_35 hf
    rw [fAi_C324] at hf
    show WGo _ _ _ _ _ _ _ _ T484 (mkF m 324 #[.val (.ref a1), .val (.ref a2), .val (.int (E 67)), .unset] [])
    refine WGo.st (fun _ q => XS.aloadN S486.here hx rfl (hb hby e4_324) rfl rfl q) ?_
    refine w_agf S486 d487 (i := 0) (fi := 19) hown (hwi hw 107 rfl) rfl hF324_19 rfl rfl (hb hby e4_325) ?_
    intro T488 S489
    show WGo _ _ _ _ _ _ _ _ T488 (mkF m 328 #[.val (.ref a1), .val (.ref a2), .val (.int (E 67)), .unset] [(.ref a322)])
    refine WGo.st (fun _ q => XS.iconst S489.here hx rfl (hb hby e4_328) q) ?_
    refine w_static S489 (y := (⟨"java/util/Arrays", "fill", "([II)V"⟩ : MethodName)) hown (hwi hw 56 rfl) (hwi hw 57 rfl) (hwi hw 58 rfl) (hwi hw 59 rfl) (by decide) (rm_Fi l Z a0 hw n0 h485 a322 z321 AZ 63 S489.ge  (HS.pw d487 [19] (by decide) rfl rfl) _ _ hf) (W := 0) (by decide) (by decide) (by decide) (by decide) rfl (by rw [hml]; rfl) (argsL := [(.ref a322), (.int (E 63))]) (rest := []) (ps := [(.array .int), .int]) (rt := none) (by decide) rfl rfl rfl (by show 2 * 0 + _ ≤ _; exact Nat.le_of_eq rfl) (hb hby e4_329) ?_
    intro T490 h492 w493 S491 q494
    obtain ⟨y497, rfl, d495, hf⟩ := q494
    have d496 : HS Z a0 n0 h0 [a1, a2, aV, aF, aE, aN] h492 [ob a1 cA F324, ob a2 cE G, ia aV 70 V1, ia aF nf V2, ia aE 70 V3, ia aN 70 V4, ia a152 67 y151, ia a177 y131 AZ, ia a188 y131 AZ, ia a200 y131 AZ, ia a211 y131 AZ, ia a222 y131 AZ, ia a234 y131 AZ, ia a249 y131 AZ, ia a260 y131 AZ, ia a272 y131 AZ, ia a283 y131 AZ, ia a294 y131 AZ, ia a306 y131 AZ, ia a322 z321 y497, ia a334 z333 AZ, ia a344 70 AZ, ia a353 70 AZ, ia a362 70 AZ, ia a375 z374 AZ, ia a401 y131 AZ, ia a425 z424 AZ, ia a440 y131 AZ, ia a452 y131 AZ] := HS.call d487 [19] [ia a322 z321 AZ] [ia a322 z321 y497] [] (by decide) rfl rfl d495
    show WGo _ _ _ _ _ _ _ _ T490 (mkF m 332 #[.val (.ref a1), .val (.ref a2), .val (.int (E 67)), .unset] [])
    refine WGo.st (fun _ q => XS.aloadN S491.here hx rfl (hb hby e4_332) rfl rfl q) ?_
    refine w_agf S491 d496 (i := 0) (fi := 20) hown (hwi hw 109 rfl) rfl hF324_20 rfl rfl (hb hby e4_333) ?_
    intro T498 S499
    show WGo _ _ _ _ _ _ _ _ T498 (mkF m 336 #[.val (.ref a1), .val (.ref a2), .val (.int (E 67)), .unset] [(.ref a334)])
    refine WGo.st (fun _ q => XS.iconst S499.here hx rfl (hb hby e4_336) q) ?_
    refine w_static S499 (y := (⟨"java/util/Arrays", "fill", "([II)V"⟩ : MethodName)) hown (hwi hw 56 rfl) (hwi hw 57 rfl) (hwi hw 58 rfl) (hwi hw 59 rfl) (by decide) (rm_Fi l Z a0 hw n0 h492 a334 z333 AZ 63 S499.ge  (HS.pw d496 [20] (by decide) rfl rfl) _ _ hf) (W := 0) (by decide) (by decide) (by decide) (by decide) rfl (by rw [hml]; rfl) (argsL := [(.ref a334), (.int (E 63))]) (rest := []) (ps := [(.array .int), .int]) (rt := none) (by decide) rfl rfl rfl (by show 2 * 0 + _ ≤ _; exact Nat.le_of_eq rfl) (hb hby e4_337) ?_
    intro T500 h502 w503 S501 q504
    obtain ⟨y507, rfl, d505, hf⟩ := q504
    have d506 : HS Z a0 n0 h0 [a1, a2, aV, aF, aE, aN] h502 [ob a1 cA F324, ob a2 cE G, ia aV 70 V1, ia aF nf V2, ia aE 70 V3, ia aN 70 V4, ia a152 67 y151, ia a177 y131 AZ, ia a188 y131 AZ, ia a200 y131 AZ, ia a211 y131 AZ, ia a222 y131 AZ, ia a234 y131 AZ, ia a249 y131 AZ, ia a260 y131 AZ, ia a272 y131 AZ, ia a283 y131 AZ, ia a294 y131 AZ, ia a306 y131 AZ, ia a322 z321 y497, ia a334 z333 y507, ia a344 70 AZ, ia a353 70 AZ, ia a362 70 AZ, ia a375 z374 AZ, ia a401 y131 AZ, ia a425 z424 AZ, ia a440 y131 AZ, ia a452 y131 AZ] := HS.call d496 [20] [ia a334 z333 AZ] [ia a334 z333 y507] [] (by decide) rfl rfl d505
    show WGo _ _ _ _ _ _ _ _ T500 (mkF m 340 #[.val (.ref a1), .val (.ref a2), .val (.int (E 67)), .unset] [])
    refine WGo.st (fun _ q => XS.aloadN S501.here hx rfl (hb hby e4_340) rfl rfl q) ?_
    refine w_agf S501 d506 (i := 0) (fi := 23) hown (hwi hw 115 rfl) rfl hF324_23 rfl rfl (hb hby e4_341) ?_
    intro T508 S509
    show WGo _ _ _ _ _ _ _ _ T508 (mkF m 344 #[.val (.ref a1), .val (.ref a2), .val (.int (E 67)), .unset] [(.ref a362)])
    refine WGo.st (fun _ q => XS.iconst S509.here hx rfl (hb hby e4_344) q) ?_
    refine w_static S509 (y := (⟨"java/util/Arrays", "fill", "([II)V"⟩ : MethodName)) hown (hwi hw 56 rfl) (hwi hw 57 rfl) (hwi hw 58 rfl) (hwi hw 59 rfl) (by decide) (rm_Fi l Z a0 hw n0 h502 a362 70 AZ 63 S509.ge  (HS.pw d506 [23] (by decide) rfl rfl) _ _ hf) (W := 0) (by decide) (by decide) (by decide) (by decide) rfl (by rw [hml]; rfl) (argsL := [(.ref a362), (.int (E 63))]) (rest := []) (ps := [(.array .int), .int]) (rt := none) (by decide) rfl rfl rfl (by show 2 * 0 + _ ≤ _; exact Nat.le_of_eq rfl) (hb hby e4_345) ?_
    intro T510 h512 w513 S511 q514
    obtain ⟨y517, rfl, d515, hf⟩ := q514
    have d516 : HS Z a0 n0 h0 [a1, a2, aV, aF, aE, aN] h512 [ob a1 cA F324, ob a2 cE G, ia aV 70 V1, ia aF nf V2, ia aE 70 V3, ia aN 70 V4, ia a152 67 y151, ia a177 y131 AZ, ia a188 y131 AZ, ia a200 y131 AZ, ia a211 y131 AZ, ia a222 y131 AZ, ia a234 y131 AZ, ia a249 y131 AZ, ia a260 y131 AZ, ia a272 y131 AZ, ia a283 y131 AZ, ia a294 y131 AZ, ia a306 y131 AZ, ia a322 z321 y497, ia a334 z333 y507, ia a344 70 AZ, ia a353 70 AZ, ia a362 70 y517, ia a375 z374 AZ, ia a401 y131 AZ, ia a425 z424 AZ, ia a440 y131 AZ, ia a452 y131 AZ] := HS.call d506 [23] [ia a362 70 AZ] [ia a362 70 y517] [] (by decide) rfl rfl d515
    show WGo _ _ _ _ _ _ _ _ T510 (mkF m 348 #[.val (.ref a1), .val (.ref a2), .val (.int (E 67)), .unset] [])
    refine WGo.st (fun _ q => XS.aloadN S511.here hx rfl (hb hby e4_348) rfl rfl q) ?_
    refine w_agf S511 d516 (i := 0) (fi := 26) hown (hwi hw 122 rfl) rfl hF324_26 rfl rfl (hb hby e4_349) ?_
    intro T518 S519
    show WGo _ _ _ _ _ _ _ _ T518 (mkF m 352 #[.val (.ref a1), .val (.ref a2), .val (.int (E 67)), .unset] [(.ref a401)])
    refine WGo.st (fun _ q => XS.iconst S519.here hx rfl (hb hby e4_352) q) ?_
    refine w_static S519 (y := (⟨"java/util/Arrays", "fill", "([II)V"⟩ : MethodName)) hown (hwi hw 56 rfl) (hwi hw 57 rfl) (hwi hw 58 rfl) (hwi hw 59 rfl) (by decide) (rm_Fi l Z a0 hw n0 h512 a401 y131 AZ 63 S519.ge  (HS.pw d516 [25] (by decide) rfl rfl) _ _ hf) (W := 0) (by decide) (by decide) (by decide) (by decide) rfl (by rw [hml]; rfl) (argsL := [(.ref a401), (.int (E 63))]) (rest := []) (ps := [(.array .int), .int]) (rt := none) (by decide) rfl rfl rfl (by show 2 * 0 + _ ≤ _; exact Nat.le_of_eq rfl) (hb hby e4_353) ?_
    intro T520 h522 w523 S521 q524
    obtain ⟨y527, rfl, d525, hf⟩ := q524
    have d526 : HS Z a0 n0 h0 [a1, a2, aV, aF, aE, aN] h522 [ob a1 cA F324, ob a2 cE G, ia aV 70 V1, ia aF nf V2, ia aE 70 V3, ia aN 70 V4, ia a152 67 y151, ia a177 y131 AZ, ia a188 y131 AZ, ia a200 y131 AZ, ia a211 y131 AZ, ia a222 y131 AZ, ia a234 y131 AZ, ia a249 y131 AZ, ia a260 y131 AZ, ia a272 y131 AZ, ia a283 y131 AZ, ia a294 y131 AZ, ia a306 y131 AZ, ia a322 z321 y497, ia a334 z333 y507, ia a344 70 AZ, ia a353 70 AZ, ia a362 70 y517, ia a375 z374 AZ, ia a401 y131 y527, ia a425 z424 AZ, ia a440 y131 AZ, ia a452 y131 AZ] := HS.call d516 [25] [ia a401 y131 AZ] [ia a401 y131 y527] [] (by decide) rfl rfl d525
    show WGo _ _ _ _ _ _ _ _ T520 (mkF m 356 #[.val (.ref a1), .val (.ref a2), .val (.int (E 67)), .unset] [])
    refine WGo.st (fun _ q => XS.aloadN S521.here hx rfl (hb hby e4_356) rfl rfl q) ?_
    refine w_agf S521 d526 (i := 0) (fi := 28) hown (hwi hw 126 rfl) rfl hF324_28 rfl rfl (hb hby e4_357) ?_
    intro T528 S529
    show WGo _ _ _ _ _ _ _ _ T528 (mkF m 360 #[.val (.ref a1), .val (.ref a2), .val (.int (E 67)), .unset] [(.ref a425)])
    refine WGo.st (fun _ q => XS.iconst S529.here hx rfl (hb hby e4_360) q) ?_
    refine w_static S529 (y := (⟨"java/util/Arrays", "fill", "([II)V"⟩ : MethodName)) hown (hwi hw 56 rfl) (hwi hw 57 rfl) (hwi hw 58 rfl) (hwi hw 59 rfl) (by decide) (rm_Fi l Z a0 hw n0 h522 a425 z424 AZ 63 S529.ge  (HS.pw d526 [26] (by decide) rfl rfl) _ _ hf) (W := 0) (by decide) (by decide) (by decide) (by decide) rfl (by rw [hml]; rfl) (argsL := [(.ref a425), (.int (E 63))]) (rest := []) (ps := [(.array .int), .int]) (rt := none) (by decide) rfl rfl rfl (by show 2 * 0 + _ ≤ _; exact Nat.le_of_eq rfl) (hb hby e4_361) ?_
    intro T530 h532 w533 S531 q534
    obtain ⟨y537, rfl, d535, hf⟩ := q534
    have d536 : HS Z a0 n0 h0 [a1, a2, aV, aF, aE, aN] h532 [ob a1 cA F324, ob a2 cE G, ia aV 70 V1, ia aF nf V2, ia aE 70 V3, ia aN 70 V4, ia a152 67 y151, ia a177 y131 AZ, ia a188 y131 AZ, ia a200 y131 AZ, ia a211 y131 AZ, ia a222 y131 AZ, ia a234 y131 AZ, ia a249 y131 AZ, ia a260 y131 AZ, ia a272 y131 AZ, ia a283 y131 AZ, ia a294 y131 AZ, ia a306 y131 AZ, ia a322 z321 y497, ia a334 z333 y507, ia a344 70 AZ, ia a353 70 AZ, ia a362 70 y517, ia a375 z374 AZ, ia a401 y131 y527, ia a425 z424 y537, ia a440 y131 AZ, ia a452 y131 AZ] := HS.call d526 [26] [ia a425 z424 AZ] [ia a425 z424 y537] [] (by decide) rfl rfl d535
    show WGo _ _ _ _ _ _ _ _ T530 (mkF m 364 #[.val (.ref a1), .val (.ref a2), .val (.int (E 67)), .unset] [])
    refine WGo.st (fun _ q => XS.aloadN S531.here hx rfl (hb hby e4_364) rfl rfl q) ?_
    refine w_agf S531 d536 (i := 0) (fi := 29) hown (hwi hw 128 rfl) rfl hF324_29 rfl rfl (hb hby e4_365) ?_
    intro T538 S539
    show WGo _ _ _ _ _ _ _ _ T538 (mkF m 368 #[.val (.ref a1), .val (.ref a2), .val (.int (E 67)), .unset] [(.ref a440)])
    refine WGo.st (fun _ q => XS.iconst S539.here hx rfl (hb hby e4_368) q) ?_
    refine w_static S539 (y := (⟨"java/util/Arrays", "fill", "([II)V"⟩ : MethodName)) hown (hwi hw 56 rfl) (hwi hw 57 rfl) (hwi hw 58 rfl) (hwi hw 59 rfl) (by decide) (rm_Fi l Z a0 hw n0 h532 a440 y131 AZ 63 S539.ge  (HS.pw d536 [27] (by decide) rfl rfl) _ _ hf) (W := 0) (by decide) (by decide) (by decide) (by decide) rfl (by rw [hml]; rfl) (argsL := [(.ref a440), (.int (E 63))]) (rest := []) (ps := [(.array .int), .int]) (rt := none) (by decide) rfl rfl rfl (by show 2 * 0 + _ ≤ _; exact Nat.le_of_eq rfl) (hb hby e4_369) ?_
    intro T540 h542 w543 S541 q544
    obtain ⟨y547, rfl, d545, hf⟩ := q544
    have d546 : HS Z a0 n0 h0 [a1, a2, aV, aF, aE, aN] h542 [ob a1 cA F324, ob a2 cE G, ia aV 70 V1, ia aF nf V2, ia aE 70 V3, ia aN 70 V4, ia a152 67 y151, ia a177 y131 AZ, ia a188 y131 AZ, ia a200 y131 AZ, ia a211 y131 AZ, ia a222 y131 AZ, ia a234 y131 AZ, ia a249 y131 AZ, ia a260 y131 AZ, ia a272 y131 AZ, ia a283 y131 AZ, ia a294 y131 AZ, ia a306 y131 AZ, ia a322 z321 y497, ia a334 z333 y507, ia a344 70 AZ, ia a353 70 AZ, ia a362 70 y517, ia a375 z374 AZ, ia a401 y131 y527, ia a425 z424 y537, ia a440 y131 y547, ia a452 y131 AZ] := HS.call d536 [27] [ia a440 y131 AZ] [ia a440 y131 y547] [] (by decide) rfl rfl d545
    show WGo _ _ _ _ _ _ _ _ T540 (mkF m 372 #[.val (.ref a1), .val (.ref a2), .val (.int (E 67)), .unset] [])
    refine WGo.st (fun _ q => XS.aloadN S541.here hx rfl (hb hby e4_372) rfl rfl q) ?_
    refine w_agf S541 d546 (i := 0) (fi := 30) hown (hwi hw 130 rfl) rfl hF324_30 rfl rfl (hb hby e4_373) ?_
    intro T548 S549
    show WGo _ _ _ _ _ _ _ _ T548 (mkF m 376 #[.val (.ref a1), .val (.ref a2), .val (.int (E 67)), .unset] [(.ref a452)])
    refine WGo.st (fun _ q => XS.iconst S549.here hx rfl (hb hby e4_376) q) ?_
    refine w_static S549 (y := (⟨"java/util/Arrays", "fill", "([II)V"⟩ : MethodName)) hown (hwi hw 56 rfl) (hwi hw 57 rfl) (hwi hw 58 rfl) (hwi hw 59 rfl) (by decide) (rm_Fi l Z a0 hw n0 h542 a452 y131 AZ 63 S549.ge  (HS.pw d546 [28] (by decide) rfl rfl) _ _ hf) (W := 0) (by decide) (by decide) (by decide) (by decide) rfl (by rw [hml]; rfl) (argsL := [(.ref a452), (.int (E 63))]) (rest := []) (ps := [(.array .int), .int]) (rt := none) (by decide) rfl rfl rfl (by show 2 * 0 + _ ≤ _; exact Nat.le_of_eq rfl) (hb hby e4_377) ?_
    intro T550 h552 w553 S551 q554
    obtain ⟨y557, rfl, d555, hf⟩ := q554
    have d556 : HS Z a0 n0 h0 [a1, a2, aV, aF, aE, aN] h552 [ob a1 cA F324, ob a2 cE G, ia aV 70 V1, ia aF nf V2, ia aE 70 V3, ia aN 70 V4, ia a152 67 y151, ia a177 y131 AZ, ia a188 y131 AZ, ia a200 y131 AZ, ia a211 y131 AZ, ia a222 y131 AZ, ia a234 y131 AZ, ia a249 y131 AZ, ia a260 y131 AZ, ia a272 y131 AZ, ia a283 y131 AZ, ia a294 y131 AZ, ia a306 y131 AZ, ia a322 z321 y497, ia a334 z333 y507, ia a344 70 AZ, ia a353 70 AZ, ia a362 70 y517, ia a375 z374 AZ, ia a401 y131 y527, ia a425 z424 y537, ia a440 y131 y547, ia a452 y131 y557] := HS.call d546 [28] [ia a452 y131 AZ] [ia a452 y131 y557] [] (by decide) rfl rfl d555
    show WGo _ _ _ _ _ _ _ _ T550 (mkF m 380 #[.val (.ref a1), .val (.ref a2), .val (.int (E 67)), .unset] [])
    refine WGo.st (fun _ q => XS.aloadN S551.here hx rfl (hb hby e4_380) rfl rfl q) ?_
    refine w_agf S551 d556 (i := 0) (fi := 16) hown (hwi hw 101 rfl) rfl hF324_16 rfl rfl (hb hby e4_381) ?_
    intro T558 S559
    show WGo _ _ _ _ _ _ _ _ T558 (mkF m 384 #[.val (.ref a1), .val (.ref a2), .val (.int (E 67)), .unset] [(.ref a283)])
    refine WGo.st (fun _ q => XS.iconst S559.here hx rfl (hb hby e4_384) q) ?_
    refine w_static S559 (y := (⟨"java/util/Arrays", "fill", "([II)V"⟩ : MethodName)) hown (hwi hw 56 rfl) (hwi hw 57 rfl) (hwi hw 58 rfl) (hwi hw 59 rfl) (by decide) (rm_Fi l Z a0 hw n0 h552 a283 y131 AZ 63 S559.ge  (HS.pw d556 [16] (by decide) rfl rfl) _ _ hf) (W := 0) (by decide) (by decide) (by decide) (by decide) rfl (by rw [hml]; rfl) (argsL := [(.ref a283), (.int (E 63))]) (rest := []) (ps := [(.array .int), .int]) (rt := none) (by decide) rfl rfl rfl (by show 2 * 0 + _ ≤ _; exact Nat.le_of_eq rfl) (hb hby e4_385) ?_
    intro T560 h562 w563 S561 q564
    obtain ⟨y567, rfl, d565, hf⟩ := q564
    have d566 : HS Z a0 n0 h0 [a1, a2, aV, aF, aE, aN] h562 [ob a1 cA F324, ob a2 cE G, ia aV 70 V1, ia aF nf V2, ia aE 70 V3, ia aN 70 V4, ia a152 67 y151, ia a177 y131 AZ, ia a188 y131 AZ, ia a200 y131 AZ, ia a211 y131 AZ, ia a222 y131 AZ, ia a234 y131 AZ, ia a249 y131 AZ, ia a260 y131 AZ, ia a272 y131 AZ, ia a283 y131 y567, ia a294 y131 AZ, ia a306 y131 AZ, ia a322 z321 y497, ia a334 z333 y507, ia a344 70 AZ, ia a353 70 AZ, ia a362 70 y517, ia a375 z374 AZ, ia a401 y131 y527, ia a425 z424 y537, ia a440 y131 y547, ia a452 y131 y557] := HS.call d556 [16] [ia a283 y131 AZ] [ia a283 y131 y567] [] (by decide) rfl rfl d565
    show WGo _ _ _ _ _ _ _ _ T560 (mkF m 388 #[.val (.ref a1), .val (.ref a2), .val (.int (E 67)), .unset] [])
    refine WGo.st (fun _ q => XS.aloadN S561.here hx rfl (hb hby e4_388) rfl rfl q) ?_
    refine w_agf S561 d566 (i := 0) (fi := 15) hown (hwi hw 99 rfl) rfl hF324_15 rfl rfl (hb hby e4_389) ?_
    intro T568 S569
    show WGo _ _ _ _ _ _ _ _ T568 (mkF m 392 #[.val (.ref a1), .val (.ref a2), .val (.int (E 67)), .unset] [(.ref a272)])
    refine WGo.st (fun _ q => XS.iconst S569.here hx rfl (hb hby e4_392) q) ?_
    refine w_static S569 (y := (⟨"java/util/Arrays", "fill", "([II)V"⟩ : MethodName)) hown (hwi hw 56 rfl) (hwi hw 57 rfl) (hwi hw 58 rfl) (hwi hw 59 rfl) (by decide) (rm_Fi l Z a0 hw n0 h562 a272 y131 AZ 63 S569.ge  (HS.pw d566 [15] (by decide) rfl rfl) _ _ hf) (W := 0) (by decide) (by decide) (by decide) (by decide) rfl (by rw [hml]; rfl) (argsL := [(.ref a272), (.int (E 63))]) (rest := []) (ps := [(.array .int), .int]) (rt := none) (by decide) rfl rfl rfl (by show 2 * 0 + _ ≤ _; exact Nat.le_of_eq rfl) (hb hby e4_393) ?_
    intro T570 h572 w573 S571 q574
    obtain ⟨y577, rfl, d575, hf⟩ := q574
    have d576 : HS Z a0 n0 h0 [a1, a2, aV, aF, aE, aN] h572 [ob a1 cA F324, ob a2 cE G, ia aV 70 V1, ia aF nf V2, ia aE 70 V3, ia aN 70 V4, ia a152 67 y151, ia a177 y131 AZ, ia a188 y131 AZ, ia a200 y131 AZ, ia a211 y131 AZ, ia a222 y131 AZ, ia a234 y131 AZ, ia a249 y131 AZ, ia a260 y131 AZ, ia a272 y131 y577, ia a283 y131 y567, ia a294 y131 AZ, ia a306 y131 AZ, ia a322 z321 y497, ia a334 z333 y507, ia a344 70 AZ, ia a353 70 AZ, ia a362 70 y517, ia a375 z374 AZ, ia a401 y131 y527, ia a425 z424 y537, ia a440 y131 y547, ia a452 y131 y557] := HS.call d566 [15] [ia a272 y131 AZ] [ia a272 y131 y577] [] (by decide) rfl rfl d575
    show WGo _ _ _ _ _ _ _ _ T570 (mkF m 396 #[.val (.ref a1), .val (.ref a2), .val (.int (E 67)), .unset] [])
    have d646 : HS Z a0 n0 h0 [a1, a2, aV, aF, aE, aN] h572 [ob a1 cA F324, ob a2 cE G, ia aV 70 V1, ia aF nf V2, ia aE 70 V3, ia aN 70 V4, ia a152 67 y151, ia a177 y131 AZ, ia a188 y131 AZ, ia a200 y131 AZ, ia a211 y131 AZ, ia a222 y131 AZ, ia a234 y131 AZ, ia a249 y131 AZ, ia a260 y131 AZ, ia a283 y131 y567, ia a294 y131 AZ, ia a306 y131 AZ, ia a322 z321 y497, ia a334 z333 y507, ia a344 70 AZ, ia a353 70 AZ, ia a362 70 y517, ia a375 z374 AZ] := HS.sel d576 [0, 1, 2, 3, 4, 5, 6, 7, 8, 9, 10, 11, 12, 13, 14, 16, 17, 18, 19, 20, 21, 22, 23, 24] _ (by decide) rfl
    exact hC396 T570 h572 a152 a177 a188 a200 a211 a222 a234 a249 a260 a283 a294 a306 a322 a334 a344 a353 a362 a375 _ y131 y151 y166 z321 z333 z374 y497 y507 y517 y567 S571 d646 hF324_3 hF324_4 hF324_5 hF324_6 hF324_7 hF324_8 hF324_9 hF324_10 hF324_11 hF324_12 hF324_13 hF324_14 hF324_16 hF324_17 hF324_18 hF324_19 hF324_20 hF324_21 hF324_22 hF324_23 hF324_24 hF324_33 hF324_34 hF324_35 hf
  have hC284 : ∀ (T434 : State) (h435 : Heap) (a152 a177 a188 a200 a211 a222 a234 a249 a260 a272 a283 a294 a306 a322 a334 a344 a353 a362 a375 a401 a425 : Addr) (F284 : List (String × String × Value)) (y131 y151 y166 z321 z333 z374 z424 : Nat), WSt p l e R_Ai s m #[(.ref a1), (.ref a2)] below meth c Z n0 T434 h435 (26) (145) → HS Z a0 n0 h0 [a1, a2, aV, aF, aE, aN] h435 [ob a1 cA F284, ob a2 cE G, ia aV 70 V1, ia aF nf V2, ia aE 70 V3, ia aN 70 V4, ia a152 67 y151, ia a177 y131 AZ, ia a188 y131 AZ, ia a200 y131 AZ, ia a211 y131 AZ, ia a222 y131 AZ, ia a234 y131 AZ, ia a249 y131 AZ, ia a260 y131 AZ, ia a272 y131 AZ, ia a283 y131 AZ, ia a294 y131 AZ, ia a306 y131 AZ, ia a322 z321 AZ, ia a334 z333 AZ, ia a344 70 AZ, ia a353 70 AZ, ia a362 70 AZ, ia a375 z374 AZ, ia a401 y131 AZ, ia a425 z424 AZ] → FL F284 3 "ends" "Lcom/example/ookayama/ookayama/EdgeEnds;" (.ref a2) → FL F284 4 "n" "I" (.int (E y131)) → FL F284 5 "representative" "[I" (.ref a152) → FL F284 6 "hasCopies" "Z" (.int (E y166)) → FL F284 7 "dfi" "[I" (.ref a177) → FL F284 8 "vertexAt" "[I" (.ref a188) → FL F284 9 "parent" "[I" (.ref a200) → FL F284 10 "treeEnd" "[I" (.ref a211) → FL F284 11 "leastAncestor" "[I" (.ref a222) → FL F284 12 "leastAncestorEdge" "[I" (.ref a234) → FL F284 13 "lowpoint" "[I" (.ref a249) → FL F284 14 "lowChild" "[I" (.ref a260) → FL F284 15 "blockedBelow" "[I" (.ref a272) → FL F284 16 "separatedHead" "[I" (.ref a283) → FL F284 17 "separatedNext" "[I" (.ref a294) → FL F284 18 "separatedPrev" "[I" (.ref a306) → FL F284 19 "firstArc" "[I" (.ref a322) → FL F284 20 "lastArc" "[I" (.ref a334) → FL F284 21 "arcNext" "[I" (.ref a344) → FL F284 22 "arcPrev" "[I" (.ref a353) → FL F284 23 "arcNode" "[I" (.ref a362) → FL F284 24 "extFace" "[I" (.ref a375) → FL F284 26 "backFlag" "[I" (.ref a401) → FL F284 28 "visited" "[I" (.ref a425) → FL F284 29 "pertinentHead" "[I" (.null) → FL F284 30 "pertinentTail" "[I" (.null) → FL F284 31 "pertinentNext" "[I" (.null) → FL F284 32 "pertinentPrev" "[I" (.null) → FL F284 33 "backStart" "[I" (.null) → FL F284 34 "backEnd" "[I" (.null) → FL F284 35 "backLower" "[I" (.null) → fAi_C284 nf V1 V2 V3 V4 y131 y151 y166 z321 z333 z374 z424 Kf = some r → WGo p e below s n0 (QAi Z a0 n0 h0 a1 a2 aV aF aE aN F G nf V1 V2 V3 V4 Kf r) R_Ai.cells R_Ai.slots T434 (mkF m 284 #[.val (.ref a1), .val (.ref a2), .val (.int (E 67)), .unset] []) := by
    intro T434 h435 a152 a177 a188 a200 a211 a222 a234 a249 a260 a272 a283 a294 a306 a322 a334 a344 a353 a362 a375 a401 a425 F284 y131 y151 y166 z321 z333 z374 z424 S436 d437 hF284_3 hF284_4 hF284_5 hF284_6 hF284_7 hF284_8 hF284_9 hF284_10 hF284_11 hF284_12 hF284_13 hF284_14 hF284_15 hF284_16 hF284_17 hF284_18 hF284_19 hF284_20 hF284_21 hF284_22 hF284_23 hF284_24 hF284_26 hF284_28 hF284_29 hF284_30 hF284_31 hF284_32 hF284_33 hF284_34 hF284_35 hf
    rw [fAi_C284] at hf
    show WGo _ _ _ _ _ _ _ _ T434 (mkF m 284 #[.val (.ref a1), .val (.ref a2), .val (.int (E 67)), .unset] [])
    refine WGo.st (fun _ q => XS.aloadN S436.here hx rfl (hb hby e4_284) rfl rfl q) ?_
    refine WGo.st (fun _ q => XS.aloadN S436.here hx rfl (hb hby e4_285) rfl rfl q) ?_
    refine w_agf S436 d437 (i := 0) (fi := 4) hown (hwi hw 46 rfl) rfl hF284_4 rfl rfl (hb hby e4_286) ?_
    intro T438 S439
    show WGo _ _ _ _ _ _ _ _ T438 (mkF m 289 #[.val (.ref a1), .val (.ref a2), .val (.int (E 67)), .unset] [(.int (E y131)), (.ref a1)])
    refine w_anw S439 d437 (hwi hw 0 rfl) rfl rfl (hb hby e4_289) rfl (cap := 4) hf (by decide) (by decide) (by decide) ?_
    intro T441 h442 a440 S443 d444 hf
    show WGo _ _ _ _ _ _ _ _ T441 (mkF m 291 #[.val (.ref a1), .val (.ref a2), .val (.int (E 67)), .unset] [(.ref a440), (.ref a1)])
    refine w_apf S443 d444 (i := 0) (fi := 29) hown (hwi hw 128 rfl) rfl hF284_29 (Or.inr ⟨(hwi hw 129 rfl), rfl, hnm⟩) (hwi hw 10 rfl) (ty := (.array .int)) (by decide) rfl rfl rfl rfl (hb hby e4_291) ?_
    intro T445 h446 S447 d448
    have d449 : HS Z a0 n0 h0 [a1, a2, aV, aF, aE, aN] h446 [ob a1 cA (F284.set 29 ("pertinentHead", "[I", (.ref a440))), ob a2 cE G, ia aV 70 V1, ia aF nf V2, ia aE 70 V3, ia aN 70 V4, ia a152 67 y151, ia a177 y131 AZ, ia a188 y131 AZ, ia a200 y131 AZ, ia a211 y131 AZ, ia a222 y131 AZ, ia a234 y131 AZ, ia a249 y131 AZ, ia a260 y131 AZ, ia a272 y131 AZ, ia a283 y131 AZ, ia a294 y131 AZ, ia a306 y131 AZ, ia a322 z321 AZ, ia a334 z333 AZ, ia a344 70 AZ, ia a353 70 AZ, ia a362 70 AZ, ia a375 z374 AZ, ia a401 y131 AZ, ia a425 z424 AZ, ia a440 y131 AZ] := d448
    show WGo _ _ _ _ _ _ _ _ T445 (mkF m 294 #[.val (.ref a1), .val (.ref a2), .val (.int (E 67)), .unset] [])
    refine WGo.st (fun _ q => XS.aloadN S447.here hx rfl (hb hby e4_294) rfl rfl q) ?_
    refine WGo.st (fun _ q => XS.aloadN S447.here hx rfl (hb hby e4_295) rfl rfl q) ?_
    refine w_agf S447 d449 (i := 0) (fi := 4) hown (hwi hw 46 rfl) rfl (fn rfl hF284_4) rfl rfl (hb hby e4_296) ?_
    intro T450 S451
    show WGo _ _ _ _ _ _ _ _ T450 (mkF m 299 #[.val (.ref a1), .val (.ref a2), .val (.int (E 67)), .unset] [(.int (E y131)), (.ref a1)])
    refine w_anw S451 d449 (hwi hw 0 rfl) rfl rfl (hb hby e4_299) rfl (cap := 4) hf (by decide) (by decide) (by decide) ?_
    intro T453 h454 a452 S455 d456 hf
    show WGo _ _ _ _ _ _ _ _ T453 (mkF m 301 #[.val (.ref a1), .val (.ref a2), .val (.int (E 67)), .unset] [(.ref a452), (.ref a1)])
    refine w_apf S455 d456 (i := 0) (fi := 30) hown (hwi hw 130 rfl) rfl (fn rfl hF284_30) (Or.inr ⟨(hwi hw 131 rfl), rfl, hnm⟩) (hwi hw 10 rfl) (ty := (.array .int)) (by decide) rfl rfl rfl rfl (hb hby e4_301) ?_
    intro T457 h458 S459 d460
    show WGo _ _ _ _ _ _ _ _ T457 (mkF m 304 #[.val (.ref a1), .val (.ref a2), .val (.int (E 67)), .unset] [])
    refine WGo.st (fun _ q => XS.aloadN S459.here hx rfl (hb hby e4_304) rfl rfl q) ?_
    refine WGo.st (fun _ q => XS.aloadN S459.here hx rfl (hb hby e4_305) rfl rfl q) ?_
    refine w_agf S459 d460 (i := 0) (fi := 4) hown (hwi hw 46 rfl) rfl (fn rfl (fn rfl hF284_4)) rfl rfl (hb hby e4_306) ?_
    intro T461 S462
    show WGo _ _ _ _ _ _ _ _ T461 (mkF m 309 #[.val (.ref a1), .val (.ref a2), .val (.int (E 67)), .unset] [(.int (E y131)), (.ref a1)])
    refine w_anw S462 d460 (hwi hw 0 rfl) rfl rfl (hb hby e4_309) rfl (cap := 4) hf (by decide) (by decide) (by decide) ?_
    intro T464 h465 a463 S466 d467 hf
    show WGo _ _ _ _ _ _ _ _ T464 (mkF m 311 #[.val (.ref a1), .val (.ref a2), .val (.int (E 67)), .unset] [(.ref a463), (.ref a1)])
    refine w_apf S466 d467 (i := 0) (fi := 31) hown (hwi hw 132 rfl) rfl (fn rfl (fn rfl hF284_31)) (Or.inr ⟨(hwi hw 133 rfl), rfl, hnm⟩) (hwi hw 10 rfl) (ty := (.array .int)) (by decide) rfl rfl rfl rfl (hb hby e4_311) ?_
    intro T468 h469 S470 d471
    show WGo _ _ _ _ _ _ _ _ T468 (mkF m 314 #[.val (.ref a1), .val (.ref a2), .val (.int (E 67)), .unset] [])
    refine WGo.st (fun _ q => XS.aloadN S470.here hx rfl (hb hby e4_314) rfl rfl q) ?_
    refine WGo.st (fun _ q => XS.aloadN S470.here hx rfl (hb hby e4_315) rfl rfl q) ?_
    refine w_agf S470 d471 (i := 0) (fi := 4) hown (hwi hw 46 rfl) rfl (fn rfl (fn rfl (fn rfl hF284_4))) rfl rfl (hb hby e4_316) ?_
    intro T472 S473
    show WGo _ _ _ _ _ _ _ _ T472 (mkF m 319 #[.val (.ref a1), .val (.ref a2), .val (.int (E 67)), .unset] [(.int (E y131)), (.ref a1)])
    refine w_anw S473 d471 (hwi hw 0 rfl) rfl rfl (hb hby e4_319) rfl (cap := 4) hf (by decide) (by decide) (by decide) ?_
    intro T475 h476 a474 S477 d478 hf
    show WGo _ _ _ _ _ _ _ _ T475 (mkF m 321 #[.val (.ref a1), .val (.ref a2), .val (.int (E 67)), .unset] [(.ref a474), (.ref a1)])
    refine w_apf S477 d478 (i := 0) (fi := 32) hown (hwi hw 134 rfl) rfl (fn rfl (fn rfl (fn rfl hF284_32))) (Or.inr ⟨(hwi hw 135 rfl), rfl, hnm⟩) (hwi hw 10 rfl) (ty := (.array .int)) (by decide) rfl rfl rfl rfl (hb hby e4_321) ?_
    intro T479 h480 S481 d482
    have d483 : HS Z a0 n0 h0 [a1, a2, aV, aF, aE, aN] h480 [ob a1 cA ((((F284.set 29 ("pertinentHead", "[I", (.ref a440))).set 30 ("pertinentTail", "[I", (.ref a452))).set 31 ("pertinentNext", "[I", (.ref a463))).set 32 ("pertinentPrev", "[I", (.ref a474))), ob a2 cE G, ia aV 70 V1, ia aF nf V2, ia aE 70 V3, ia aN 70 V4, ia a152 67 y151, ia a177 y131 AZ, ia a188 y131 AZ, ia a200 y131 AZ, ia a211 y131 AZ, ia a222 y131 AZ, ia a234 y131 AZ, ia a249 y131 AZ, ia a260 y131 AZ, ia a272 y131 AZ, ia a283 y131 AZ, ia a294 y131 AZ, ia a306 y131 AZ, ia a322 z321 AZ, ia a334 z333 AZ, ia a344 70 AZ, ia a353 70 AZ, ia a362 70 AZ, ia a375 z374 AZ, ia a401 y131 AZ, ia a425 z424 AZ, ia a440 y131 AZ, ia a452 y131 AZ, ia a463 y131 AZ, ia a474 y131 AZ] := d482
    show WGo _ _ _ _ _ _ _ _ T479 (mkF m 324 #[.val (.ref a1), .val (.ref a2), .val (.int (E 67)), .unset] [])
    have d647 : HS Z a0 n0 h0 [a1, a2, aV, aF, aE, aN] h480 [ob a1 cA ((((F284.set 29 ("pertinentHead", "[I", (.ref a440))).set 30 ("pertinentTail", "[I", (.ref a452))).set 31 ("pertinentNext", "[I", (.ref a463))).set 32 ("pertinentPrev", "[I", (.ref a474))), ob a2 cE G, ia aV 70 V1, ia aF nf V2, ia aE 70 V3, ia aN 70 V4, ia a152 67 y151, ia a177 y131 AZ, ia a188 y131 AZ, ia a200 y131 AZ, ia a211 y131 AZ, ia a222 y131 AZ, ia a234 y131 AZ, ia a249 y131 AZ, ia a260 y131 AZ, ia a272 y131 AZ, ia a283 y131 AZ, ia a294 y131 AZ, ia a306 y131 AZ, ia a322 z321 AZ, ia a334 z333 AZ, ia a344 70 AZ, ia a353 70 AZ, ia a362 70 AZ, ia a375 z374 AZ, ia a401 y131 AZ, ia a425 z424 AZ, ia a440 y131 AZ, ia a452 y131 AZ] := HS.sel d483 [0, 1, 2, 3, 4, 5, 6, 7, 8, 9, 10, 11, 12, 13, 14, 15, 16, 17, 18, 19, 20, 21, 22, 23, 24, 25, 26, 27, 28] _ (by decide) rfl
    exact hC324 T479 h480 a152 a177 a188 a200 a211 a222 a234 a249 a260 a272 a283 a294 a306 a322 a334 a344 a353 a362 a375 a401 a425 a440 a452 _ y131 y151 y166 z321 z333 z374 z424 S481 d647 (fn rfl (fn rfl (fn rfl (fn rfl hF284_3)))) (fn rfl (fn rfl (fn rfl (fn rfl hF284_4)))) (fn rfl (fn rfl (fn rfl (fn rfl hF284_5)))) (fn rfl (fn rfl (fn rfl (fn rfl hF284_6)))) (fn rfl (fn rfl (fn rfl (fn rfl hF284_7)))) (fn rfl (fn rfl (fn rfl (fn rfl hF284_8)))) (fn rfl (fn rfl (fn rfl (fn rfl hF284_9)))) (fn rfl (fn rfl (fn rfl (fn rfl hF284_10)))) (fn rfl (fn rfl (fn rfl (fn rfl hF284_11)))) (fn rfl (fn rfl (fn rfl (fn rfl hF284_12)))) (fn rfl (fn rfl (fn rfl (fn rfl hF284_13)))) (fn rfl (fn rfl (fn rfl (fn rfl hF284_14)))) (fn rfl (fn rfl (fn rfl (fn rfl hF284_15)))) (fn rfl (fn rfl (fn rfl (fn rfl hF284_16)))) (fn rfl (fn rfl (fn rfl (fn rfl hF284_17)))) (fn rfl (fn rfl (fn rfl (fn rfl hF284_18)))) (fn rfl (fn rfl (fn rfl (fn rfl hF284_19)))) (fn rfl (fn rfl (fn rfl (fn rfl hF284_20)))) (fn rfl (fn rfl (fn rfl (fn rfl hF284_21)))) (fn rfl (fn rfl (fn rfl (fn rfl hF284_22)))) (fn rfl (fn rfl (fn rfl (fn rfl hF284_23)))) (fn rfl (fn rfl (fn rfl (fn rfl hF284_24)))) (fn rfl (fn rfl (fn rfl (fn rfl hF284_26)))) (fn rfl (fn rfl (fn rfl (fn rfl hF284_28)))) (fn rfl (fn rfl (fn rfl (fset_eq hF284_29)))) (fn rfl (fn rfl (fset_eq (fn rfl hF284_30)))) (fn rfl (fn rfl (fn rfl (fn rfl hF284_33)))) (fn rfl (fn rfl (fn rfl (fn rfl hF284_34)))) (fn rfl (fn rfl (fn rfl (fn rfl hF284_35)))) hf
  have hC242 : ∀ (T384 : State) (h385 : Heap) (a152 a177 a188 a200 a211 a222 a234 a249 a260 a272 a283 a294 a306 a322 a334 a344 a353 a362 a375 : Addr) (F242 : List (String × String × Value)) (y131 y151 y166 z321 z333 z374 : Nat), WSt p l e R_Ai s m #[(.ref a1), (.ref a2)] below meth c Z n0 T384 h385 (22) (125) → HS Z a0 n0 h0 [a1, a2, aV, aF, aE, aN] h385 [ob a1 cA F242, ob a2 cE G, ia aV 70 V1, ia aF nf V2, ia aE 70 V3, ia aN 70 V4, ia a152 67 y151, ia a177 y131 AZ, ia a188 y131 AZ, ia a200 y131 AZ, ia a211 y131 AZ, ia a222 y131 AZ, ia a234 y131 AZ, ia a249 y131 AZ, ia a260 y131 AZ, ia a272 y131 AZ, ia a283 y131 AZ, ia a294 y131 AZ, ia a306 y131 AZ, ia a322 z321 AZ, ia a334 z333 AZ, ia a344 70 AZ, ia a353 70 AZ, ia a362 70 AZ, ia a375 z374 AZ] → FL F242 3 "ends" "Lcom/example/ookayama/ookayama/EdgeEnds;" (.ref a2) → FL F242 4 "n" "I" (.int (E y131)) → FL F242 5 "representative" "[I" (.ref a152) → FL F242 6 "hasCopies" "Z" (.int (E y166)) → FL F242 7 "dfi" "[I" (.ref a177) → FL F242 8 "vertexAt" "[I" (.ref a188) → FL F242 9 "parent" "[I" (.ref a200) → FL F242 10 "treeEnd" "[I" (.ref a211) → FL F242 11 "leastAncestor" "[I" (.ref a222) → FL F242 12 "leastAncestorEdge" "[I" (.ref a234) → FL F242 13 "lowpoint" "[I" (.ref a249) → FL F242 14 "lowChild" "[I" (.ref a260) → FL F242 15 "blockedBelow" "[I" (.ref a272) → FL F242 16 "separatedHead" "[I" (.ref a283) → FL F242 17 "separatedNext" "[I" (.ref a294) → FL F242 18 "separatedPrev" "[I" (.ref a306) → FL F242 19 "firstArc" "[I" (.ref a322) → FL F242 20 "lastArc" "[I" (.ref a334) → FL F242 21 "arcNext" "[I" (.ref a344) → FL F242 22 "arcPrev" "[I" (.ref a353) → FL F242 23 "arcNode" "[I" (.ref a362) → FL F242 24 "extFace" "[I" (.ref a375) → FL F242 25 "flipped" "[Z" (.null) → FL F242 26 "backFlag" "[I" (.null) → FL F242 27 "pendingEnd" "[I" (.null) → FL F242 28 "visited" "[I" (.null) → FL F242 29 "pertinentHead" "[I" (.null) → FL F242 30 "pertinentTail" "[I" (.null) → FL F242 31 "pertinentNext" "[I" (.null) → FL F242 32 "pertinentPrev" "[I" (.null) → FL F242 33 "backStart" "[I" (.null) → FL F242 34 "backEnd" "[I" (.null) → FL F242 35 "backLower" "[I" (.null) → fAi_C242 nf V1 V2 V3 V4 y131 y151 y166 z321 z333 z374 Kf = some r → WGo p e below s n0 (QAi Z a0 n0 h0 a1 a2 aV aF aE aN F G nf V1 V2 V3 V4 Kf r) R_Ai.cells R_Ai.slots T384 (mkF m 242 #[.val (.ref a1), .val (.ref a2), .val (.int (E 67)), .unset] []) := by
    intro T384 h385 a152 a177 a188 a200 a211 a222 a234 a249 a260 a272 a283 a294 a306 a322 a334 a344 a353 a362 a375 F242 y131 y151 y166 z321 z333 z374 S386 d387 hF242_3 hF242_4 hF242_5 hF242_6 hF242_7 hF242_8 hF242_9 hF242_10 hF242_11 hF242_12 hF242_13 hF242_14 hF242_15 hF242_16 hF242_17 hF242_18 hF242_19 hF242_20 hF242_21 hF242_22 hF242_23 hF242_24 hF242_25 hF242_26 hF242_27 hF242_28 hF242_29 hF242_30 hF242_31 hF242_32 hF242_33 hF242_34 hF242_35 hf
    rw [fAi_C242] at hf
    show WGo _ _ _ _ _ _ _ _ T384 (mkF m 242 #[.val (.ref a1), .val (.ref a2), .val (.int (E 67)), .unset] [])
    refine WGo.st (fun _ q => XS.aloadN S386.here hx rfl (hb hby e4_242) rfl rfl q) ?_
    refine WGo.st (fun _ q => XS.aloadN S386.here hx rfl (hb hby e4_243) rfl rfl q) ?_
    refine w_agf S386 d387 (i := 0) (fi := 4) hown (hwi hw 46 rfl) rfl hF242_4 rfl rfl (hb hby e4_244) ?_
    intro T388 S389
    show WGo _ _ _ _ _ _ _ _ T388 (mkF m 247 #[.val (.ref a1), .val (.ref a2), .val (.int (E 67)), .unset] [(.int (E y131)), (.ref a1)])
    refine w_anw S389 d387 (hwi hw 119 rfl) rfl rfl (hb hby e4_247) rfl (cap := 4) hf (by decide) (by decide) (by decide) ?_
    intro T391 h392 a390 S393 d394 hf
    show WGo _ _ _ _ _ _ _ _ T391 (mkF m 249 #[.val (.ref a1), .val (.ref a2), .val (.int (E 67)), .unset] [(.ref a390), (.ref a1)])
    refine w_apf S393 d394 (i := 0) (fi := 25) hown (hwi hw 120 rfl) rfl hF242_25 (Or.inr ⟨(hwi hw 121 rfl), rfl, hnm⟩) (hwi hw 10 rfl) (ty := (.array .boolean)) (by decide) rfl rfl rfl rfl (hb hby e4_249) ?_
    intro T395 h396 S397 d398
    show WGo _ _ _ _ _ _ _ _ T395 (mkF m 252 #[.val (.ref a1), .val (.ref a2), .val (.int (E 67)), .unset] [])
    refine WGo.st (fun _ q => XS.aloadN S397.here hx rfl (hb hby e4_252) rfl rfl q) ?_
    refine WGo.st (fun _ q => XS.aloadN S397.here hx rfl (hb hby e4_253) rfl rfl q) ?_
    refine w_agf S397 d398 (i := 0) (fi := 4) hown (hwi hw 46 rfl) rfl (fn rfl hF242_4) rfl rfl (hb hby e4_254) ?_
    intro T399 S400
    show WGo _ _ _ _ _ _ _ _ T399 (mkF m 257 #[.val (.ref a1), .val (.ref a2), .val (.int (E 67)), .unset] [(.int (E y131)), (.ref a1)])
    refine w_anw S400 d398 (hwi hw 0 rfl) rfl rfl (hb hby e4_257) rfl (cap := 4) hf (by decide) (by decide) (by decide) ?_
    intro T402 h403 a401 S404 d405 hf
    show WGo _ _ _ _ _ _ _ _ T402 (mkF m 259 #[.val (.ref a1), .val (.ref a2), .val (.int (E 67)), .unset] [(.ref a401), (.ref a1)])
    refine w_apf S404 d405 (i := 0) (fi := 26) hown (hwi hw 122 rfl) rfl (fn rfl hF242_26) (Or.inr ⟨(hwi hw 123 rfl), rfl, hnm⟩) (hwi hw 10 rfl) (ty := (.array .int)) (by decide) rfl rfl rfl rfl (hb hby e4_259) ?_
    intro T406 h407 S408 d409
    have d410 : HS Z a0 n0 h0 [a1, a2, aV, aF, aE, aN] h407 [ob a1 cA ((F242.set 25 ("flipped", "[Z", (.ref a390))).set 26 ("backFlag", "[I", (.ref a401))), ob a2 cE G, ia aV 70 V1, ia aF nf V2, ia aE 70 V3, ia aN 70 V4, ia a152 67 y151, ia a177 y131 AZ, ia a188 y131 AZ, ia a200 y131 AZ, ia a211 y131 AZ, ia a222 y131 AZ, ia a234 y131 AZ, ia a249 y131 AZ, ia a260 y131 AZ, ia a272 y131 AZ, ia a283 y131 AZ, ia a294 y131 AZ, ia a306 y131 AZ, ia a322 z321 AZ, ia a334 z333 AZ, ia a344 70 AZ, ia a353 70 AZ, ia a362 70 AZ, ia a375 z374 AZ, (a390, .inl (.boolean, DL y131 AZ)), ia a401 y131 AZ] := d409
    show WGo _ _ _ _ _ _ _ _ T406 (mkF m 262 #[.val (.ref a1), .val (.ref a2), .val (.int (E 67)), .unset] [])
    refine WGo.st (fun _ q => XS.aloadN S408.here hx rfl (hb hby e4_262) rfl rfl q) ?_
    refine WGo.st (fun _ q => XS.aloadN S408.here hx rfl (hb hby e4_263) rfl rfl q) ?_
    refine w_agf S408 d410 (i := 0) (fi := 4) hown (hwi hw 46 rfl) rfl (fn rfl (fn rfl hF242_4)) rfl rfl (hb hby e4_264) ?_
    intro T411 S412
    show WGo _ _ _ _ _ _ _ _ T411 (mkF m 267 #[.val (.ref a1), .val (.ref a2), .val (.int (E 67)), .unset] [(.int (E y131)), (.ref a1)])
    refine w_anw S412 d410 (hwi hw 0 rfl) rfl rfl (hb hby e4_267) rfl (cap := 4) hf (by decide) (by decide) (by decide) ?_
    intro T414 h415 a413 S416 d417 hf
    show WGo _ _ _ _ _ _ _ _ T414 (mkF m 269 #[.val (.ref a1), .val (.ref a2), .val (.int (E 67)), .unset] [(.ref a413), (.ref a1)])
    refine w_apf S416 d417 (i := 0) (fi := 27) hown (hwi hw 124 rfl) rfl (fn rfl (fn rfl hF242_27)) (Or.inr ⟨(hwi hw 125 rfl), rfl, hnm⟩) (hwi hw 10 rfl) (ty := (.array .int)) (by decide) rfl rfl rfl rfl (hb hby e4_269) ?_
    intro T418 h419 S420 d421
    show WGo _ _ _ _ _ _ _ _ T418 (mkF m 272 #[.val (.ref a1), .val (.ref a2), .val (.int (E 67)), .unset] [])
    refine WGo.st (fun _ q => XS.aloadN S420.here hx rfl (hb hby e4_272) rfl rfl q) ?_
    refine WGo.st (fun _ q => XS.iconst S420.here hx rfl (hb hby e4_273) q) ?_
    refine WGo.st (fun _ q => XS.aloadN S420.here hx rfl (hb hby e4_274) rfl rfl q) ?_
    refine w_agf S420 d421 (i := 0) (fi := 4) hown (hwi hw 46 rfl) rfl (fn rfl (fn rfl (fn rfl hF242_4))) rfl rfl (hb hby e4_275) ?_
    intro T422 S423
    show WGo _ _ _ _ _ _ _ _ T422 (mkF m 278 #[.val (.ref a1), .val (.ref a2), .val (.int (E 67)), .unset] [(.int (E y131)), (.int (E 66)), (.ref a1)])
    refine w_mulN S423 rfl (hb hby e4_278) rfl hf ?_
    intro z424 hf
    show WGo _ _ _ _ _ _ _ _ T422 (mkF m 279 #[.val (.ref a1), .val (.ref a2), .val (.int (E 67)), .unset] [(.int (E z424)), (.ref a1)])
    refine w_anw S423 d421 (hwi hw 0 rfl) rfl rfl (hb hby e4_279) rfl (cap := 8) hf (by decide) (by decide) (by decide) ?_
    intro T426 h427 a425 S428 d429 hf
    show WGo _ _ _ _ _ _ _ _ T426 (mkF m 281 #[.val (.ref a1), .val (.ref a2), .val (.int (E 67)), .unset] [(.ref a425), (.ref a1)])
    refine w_apf S428 d429 (i := 0) (fi := 28) hown (hwi hw 126 rfl) rfl (fn rfl (fn rfl (fn rfl hF242_28))) (Or.inr ⟨(hwi hw 127 rfl), rfl, hnm⟩) (hwi hw 10 rfl) (ty := (.array .int)) (by decide) rfl rfl rfl rfl (hb hby e4_281) ?_
    intro T430 h431 S432 d433
    show WGo _ _ _ _ _ _ _ _ T430 (mkF m 284 #[.val (.ref a1), .val (.ref a2), .val (.int (E 67)), .unset] [])
    have d648 : HS Z a0 n0 h0 [a1, a2, aV, aF, aE, aN] h431 [ob a1 cA ((((F242.set 25 ("flipped", "[Z", (.ref a390))).set 26 ("backFlag", "[I", (.ref a401))).set 27 ("pendingEnd", "[I", (.ref a413))).set 28 ("visited", "[I", (.ref a425))), ob a2 cE G, ia aV 70 V1, ia aF nf V2, ia aE 70 V3, ia aN 70 V4, ia a152 67 y151, ia a177 y131 AZ, ia a188 y131 AZ, ia a200 y131 AZ, ia a211 y131 AZ, ia a222 y131 AZ, ia a234 y131 AZ, ia a249 y131 AZ, ia a260 y131 AZ, ia a272 y131 AZ, ia a283 y131 AZ, ia a294 y131 AZ, ia a306 y131 AZ, ia a322 z321 AZ, ia a334 z333 AZ, ia a344 70 AZ, ia a353 70 AZ, ia a362 70 AZ, ia a375 z374 AZ, ia a401 y131 AZ, ia a425 z424 AZ] := HS.sel d433 [0, 1, 2, 3, 4, 5, 6, 7, 8, 9, 10, 11, 12, 13, 14, 15, 16, 17, 18, 19, 20, 21, 22, 23, 24, 26, 28] _ (by decide) rfl
    exact hC284 T430 h431 a152 a177 a188 a200 a211 a222 a234 a249 a260 a272 a283 a294 a306 a322 a334 a344 a353 a362 a375 a401 a425 _ y131 y151 y166 z321 z333 z374 z424 S432 d648 (fn rfl (fn rfl (fn rfl (fn rfl hF242_3)))) (fn rfl (fn rfl (fn rfl (fn rfl hF242_4)))) (fn rfl (fn rfl (fn rfl (fn rfl hF242_5)))) (fn rfl (fn rfl (fn rfl (fn rfl hF242_6)))) (fn rfl (fn rfl (fn rfl (fn rfl hF242_7)))) (fn rfl (fn rfl (fn rfl (fn rfl hF242_8)))) (fn rfl (fn rfl (fn rfl (fn rfl hF242_9)))) (fn rfl (fn rfl (fn rfl (fn rfl hF242_10)))) (fn rfl (fn rfl (fn rfl (fn rfl hF242_11)))) (fn rfl (fn rfl (fn rfl (fn rfl hF242_12)))) (fn rfl (fn rfl (fn rfl (fn rfl hF242_13)))) (fn rfl (fn rfl (fn rfl (fn rfl hF242_14)))) (fn rfl (fn rfl (fn rfl (fn rfl hF242_15)))) (fn rfl (fn rfl (fn rfl (fn rfl hF242_16)))) (fn rfl (fn rfl (fn rfl (fn rfl hF242_17)))) (fn rfl (fn rfl (fn rfl (fn rfl hF242_18)))) (fn rfl (fn rfl (fn rfl (fn rfl hF242_19)))) (fn rfl (fn rfl (fn rfl (fn rfl hF242_20)))) (fn rfl (fn rfl (fn rfl (fn rfl hF242_21)))) (fn rfl (fn rfl (fn rfl (fn rfl hF242_22)))) (fn rfl (fn rfl (fn rfl (fn rfl hF242_23)))) (fn rfl (fn rfl (fn rfl (fn rfl hF242_24)))) (fn rfl (fn rfl (fset_eq (fn rfl hF242_26)))) (fset_eq (fn rfl (fn rfl (fn rfl hF242_28)))) (fn rfl (fn rfl (fn rfl (fn rfl hF242_29)))) (fn rfl (fn rfl (fn rfl (fn rfl hF242_30)))) (fn rfl (fn rfl (fn rfl (fn rfl hF242_31)))) (fn rfl (fn rfl (fn rfl (fn rfl hF242_32)))) (fn rfl (fn rfl (fn rfl (fn rfl hF242_33)))) (fn rfl (fn rfl (fn rfl (fn rfl hF242_34)))) (fn rfl (fn rfl (fn rfl (fn rfl hF242_35)))) hf
  have hC180 : ∀ (T315 : State) (h316 : Heap) (a152 a177 a188 a200 a211 a222 a234 a249 a260 a272 a283 a294 a306 : Addr) (F180 : List (String × String × Value)) (y131 y151 y166 : Nat), WSt p l e R_Ai s m #[(.ref a1), (.ref a2)] below meth c Z n0 T315 h316 (16) (75) → HS Z a0 n0 h0 [a1, a2, aV, aF, aE, aN] h316 [ob a1 cA F180, ob a2 cE G, ia aV 70 V1, ia aF nf V2, ia aE 70 V3, ia aN 70 V4, ia a152 67 y151, ia a177 y131 AZ, ia a188 y131 AZ, ia a200 y131 AZ, ia a211 y131 AZ, ia a222 y131 AZ, ia a234 y131 AZ, ia a249 y131 AZ, ia a260 y131 AZ, ia a272 y131 AZ, ia a283 y131 AZ, ia a294 y131 AZ, ia a306 y131 AZ] → FL F180 3 "ends" "Lcom/example/ookayama/ookayama/EdgeEnds;" (.ref a2) → FL F180 4 "n" "I" (.int (E y131)) → FL F180 5 "representative" "[I" (.ref a152) → FL F180 6 "hasCopies" "Z" (.int (E y166)) → FL F180 7 "dfi" "[I" (.ref a177) → FL F180 8 "vertexAt" "[I" (.ref a188) → FL F180 9 "parent" "[I" (.ref a200) → FL F180 10 "treeEnd" "[I" (.ref a211) → FL F180 11 "leastAncestor" "[I" (.ref a222) → FL F180 12 "leastAncestorEdge" "[I" (.ref a234) → FL F180 13 "lowpoint" "[I" (.ref a249) → FL F180 14 "lowChild" "[I" (.ref a260) → FL F180 15 "blockedBelow" "[I" (.ref a272) → FL F180 16 "separatedHead" "[I" (.ref a283) → FL F180 17 "separatedNext" "[I" (.ref a294) → FL F180 18 "separatedPrev" "[I" (.ref a306) → FL F180 19 "firstArc" "[I" (.null) → FL F180 20 "lastArc" "[I" (.null) → FL F180 21 "arcNext" "[I" (.null) → FL F180 22 "arcPrev" "[I" (.null) → FL F180 23 "arcNode" "[I" (.null) → FL F180 24 "extFace" "[I" (.null) → FL F180 25 "flipped" "[Z" (.null) → FL F180 26 "backFlag" "[I" (.null) → FL F180 27 "pendingEnd" "[I" (.null) → FL F180 28 "visited" "[I" (.null) → FL F180 29 "pertinentHead" "[I" (.null) → FL F180 30 "pertinentTail" "[I" (.null) → FL F180 31 "pertinentNext" "[I" (.null) → FL F180 32 "pertinentPrev" "[I" (.null) → FL F180 33 "backStart" "[I" (.null) → FL F180 34 "backEnd" "[I" (.null) → FL F180 35 "backLower" "[I" (.null) → fAi_C180 nf V1 V2 V3 V4 y131 y151 y166 Kf = some r → WGo p e below s n0 (QAi Z a0 n0 h0 a1 a2 aV aF aE aN F G nf V1 V2 V3 V4 Kf r) R_Ai.cells R_Ai.slots T315 (mkF m 180 #[.val (.ref a1), .val (.ref a2), .val (.int (E 67)), .unset] [(.ref a1)]) := by
    intro T315 h316 a152 a177 a188 a200 a211 a222 a234 a249 a260 a272 a283 a294 a306 F180 y131 y151 y166 S317 d318 hF180_3 hF180_4 hF180_5 hF180_6 hF180_7 hF180_8 hF180_9 hF180_10 hF180_11 hF180_12 hF180_13 hF180_14 hF180_15 hF180_16 hF180_17 hF180_18 hF180_19 hF180_20 hF180_21 hF180_22 hF180_23 hF180_24 hF180_25 hF180_26 hF180_27 hF180_28 hF180_29 hF180_30 hF180_31 hF180_32 hF180_33 hF180_34 hF180_35 hf
    rw [fAi_C180] at hf
    show WGo _ _ _ _ _ _ _ _ T315 (mkF m 180 #[.val (.ref a1), .val (.ref a2), .val (.int (E 67)), .unset] [(.ref a1)])
    refine WGo.st (fun _ q => XS.iconst S317.here hx rfl (hb hby e4_180) q) ?_
    refine WGo.st (fun _ q => XS.aloadN S317.here hx rfl (hb hby e4_181) rfl rfl q) ?_
    refine w_agf S317 d318 (i := 0) (fi := 4) hown (hwi hw 46 rfl) rfl hF180_4 rfl rfl (hb hby e4_182) ?_
    intro T319 S320
    show WGo _ _ _ _ _ _ _ _ T319 (mkF m 185 #[.val (.ref a1), .val (.ref a2), .val (.int (E 67)), .unset] [(.int (E y131)), (.int (E 66)), (.ref a1)])
    refine w_mulN S320 rfl (hb hby e4_185) rfl hf ?_
    intro z321 hf
    show WGo _ _ _ _ _ _ _ _ T319 (mkF m 186 #[.val (.ref a1), .val (.ref a2), .val (.int (E 67)), .unset] [(.int (E z321)), (.ref a1)])
    refine w_anw S320 d318 (hwi hw 0 rfl) rfl rfl (hb hby e4_186) rfl (cap := 8) hf (by decide) (by decide) (by decide) ?_
    intro T323 h324 a322 S325 d326 hf
    show WGo _ _ _ _ _ _ _ _ T323 (mkF m 188 #[.val (.ref a1), .val (.ref a2), .val (.int (E 67)), .unset] [(.ref a322), (.ref a1)])
    refine w_apf S325 d326 (i := 0) (fi := 19) hown (hwi hw 107 rfl) rfl hF180_19 (Or.inr ⟨(hwi hw 108 rfl), rfl, hnm⟩) (hwi hw 10 rfl) (ty := (.array .int)) (by decide) rfl rfl rfl rfl (hb hby e4_188) ?_
    intro T327 h328 S329 d330
    show WGo _ _ _ _ _ _ _ _ T327 (mkF m 191 #[.val (.ref a1), .val (.ref a2), .val (.int (E 67)), .unset] [])
    refine WGo.st (fun _ q => XS.aloadN S329.here hx rfl (hb hby e4_191) rfl rfl q) ?_
    refine WGo.st (fun _ q => XS.iconst S329.here hx rfl (hb hby e4_192) q) ?_
    refine WGo.st (fun _ q => XS.aloadN S329.here hx rfl (hb hby e4_193) rfl rfl q) ?_
    refine w_agf S329 d330 (i := 0) (fi := 4) hown (hwi hw 46 rfl) rfl (fn rfl hF180_4) rfl rfl (hb hby e4_194) ?_
    intro T331 S332
    show WGo _ _ _ _ _ _ _ _ T331 (mkF m 197 #[.val (.ref a1), .val (.ref a2), .val (.int (E 67)), .unset] [(.int (E y131)), (.int (E 66)), (.ref a1)])
    refine w_mulN S332 rfl (hb hby e4_197) rfl hf ?_
    intro z333 hf
    show WGo _ _ _ _ _ _ _ _ T331 (mkF m 198 #[.val (.ref a1), .val (.ref a2), .val (.int (E 67)), .unset] [(.int (E z333)), (.ref a1)])
    refine w_anw S332 d330 (hwi hw 0 rfl) rfl rfl (hb hby e4_198) rfl (cap := 8) hf (by decide) (by decide) (by decide) ?_
    intro T335 h336 a334 S337 d338 hf
    show WGo _ _ _ _ _ _ _ _ T335 (mkF m 200 #[.val (.ref a1), .val (.ref a2), .val (.int (E 67)), .unset] [(.ref a334), (.ref a1)])
    refine w_apf S337 d338 (i := 0) (fi := 20) hown (hwi hw 109 rfl) rfl (fn rfl hF180_20) (Or.inr ⟨(hwi hw 110 rfl), rfl, hnm⟩) (hwi hw 10 rfl) (ty := (.array .int)) (by decide) rfl rfl rfl rfl (hb hby e4_200) ?_
    intro T339 h340 S341 d342
    have d343 : HS Z a0 n0 h0 [a1, a2, aV, aF, aE, aN] h340 [ob a1 cA ((F180.set 19 ("firstArc", "[I", (.ref a322))).set 20 ("lastArc", "[I", (.ref a334))), ob a2 cE G, ia aV 70 V1, ia aF nf V2, ia aE 70 V3, ia aN 70 V4, ia a152 67 y151, ia a177 y131 AZ, ia a188 y131 AZ, ia a200 y131 AZ, ia a211 y131 AZ, ia a222 y131 AZ, ia a234 y131 AZ, ia a249 y131 AZ, ia a260 y131 AZ, ia a272 y131 AZ, ia a283 y131 AZ, ia a294 y131 AZ, ia a306 y131 AZ, ia a322 z321 AZ, ia a334 z333 AZ] := d342
    show WGo _ _ _ _ _ _ _ _ T339 (mkF m 203 #[.val (.ref a1), .val (.ref a2), .val (.int (E 67)), .unset] [])
    refine WGo.st (fun _ q => XS.aloadN S341.here hx rfl (hb hby e4_203) rfl rfl q) ?_
    refine WGo.st (fun _ q => XS.iconst S341.here hx rfl (hb hby e4_204) q) ?_
    refine WGo.st (fun _ q => XS.iloadN S341.here hx rfl (hb hby e4_205) rfl q) ?_
    refine WGo.st (fun _ q => XS.imul S341.here hx rfl (hb hby e4_206) rfl q) ?_
    show WGo _ _ _ _ _ _ _ _ T339 (mkF m 207 #[.val (.ref a1), .val (.ref a2), .val (.int (E 67)), .unset] [(.int (E 66 * E 67)), (.ref a1)])
    rw [show E 66 * E 67 = E 70 from by decide]
    show WGo _ _ _ _ _ _ _ _ T339 (mkF m 207 #[.val (.ref a1), .val (.ref a2), .val (.int (E 67)), .unset] [(.int (E 70)), (.ref a1)])
    refine w_anw S341 d343 (hwi hw 0 rfl) rfl rfl (hb hby e4_207) rfl (cap := 6) hf (by decide) (by decide) (by decide) ?_
    intro T345 h346 a344 S347 d348 hf
    show WGo _ _ _ _ _ _ _ _ T345 (mkF m 209 #[.val (.ref a1), .val (.ref a2), .val (.int (E 67)), .unset] [(.ref a344), (.ref a1)])
    refine w_apf S347 d348 (i := 0) (fi := 21) hown (hwi hw 111 rfl) rfl (fn rfl (fn rfl hF180_21)) (Or.inr ⟨(hwi hw 112 rfl), rfl, hnm⟩) (hwi hw 10 rfl) (ty := (.array .int)) (by decide) rfl rfl rfl rfl (hb hby e4_209) ?_
    intro T349 h350 S351 d352
    show WGo _ _ _ _ _ _ _ _ T349 (mkF m 212 #[.val (.ref a1), .val (.ref a2), .val (.int (E 67)), .unset] [])
    refine WGo.st (fun _ q => XS.aloadN S351.here hx rfl (hb hby e4_212) rfl rfl q) ?_
    refine WGo.st (fun _ q => XS.iconst S351.here hx rfl (hb hby e4_213) q) ?_
    refine WGo.st (fun _ q => XS.iloadN S351.here hx rfl (hb hby e4_214) rfl q) ?_
    refine WGo.st (fun _ q => XS.imul S351.here hx rfl (hb hby e4_215) rfl q) ?_
    show WGo _ _ _ _ _ _ _ _ T349 (mkF m 216 #[.val (.ref a1), .val (.ref a2), .val (.int (E 67)), .unset] [(.int (E 66 * E 67)), (.ref a1)])
    rw [show E 66 * E 67 = E 70 from by decide]
    show WGo _ _ _ _ _ _ _ _ T349 (mkF m 216 #[.val (.ref a1), .val (.ref a2), .val (.int (E 67)), .unset] [(.int (E 70)), (.ref a1)])
    refine w_anw S351 d352 (hwi hw 0 rfl) rfl rfl (hb hby e4_216) rfl (cap := 6) hf (by decide) (by decide) (by decide) ?_
    intro T354 h355 a353 S356 d357 hf
    show WGo _ _ _ _ _ _ _ _ T354 (mkF m 218 #[.val (.ref a1), .val (.ref a2), .val (.int (E 67)), .unset] [(.ref a353), (.ref a1)])
    refine w_apf S356 d357 (i := 0) (fi := 22) hown (hwi hw 113 rfl) rfl (fn rfl (fn rfl (fn rfl hF180_22))) (Or.inr ⟨(hwi hw 114 rfl), rfl, hnm⟩) (hwi hw 10 rfl) (ty := (.array .int)) (by decide) rfl rfl rfl rfl (hb hby e4_218) ?_
    intro T358 h359 S360 d361
    show WGo _ _ _ _ _ _ _ _ T358 (mkF m 221 #[.val (.ref a1), .val (.ref a2), .val (.int (E 67)), .unset] [])
    refine WGo.st (fun _ q => XS.aloadN S360.here hx rfl (hb hby e4_221) rfl rfl q) ?_
    refine WGo.st (fun _ q => XS.iconst S360.here hx rfl (hb hby e4_222) q) ?_
    refine WGo.st (fun _ q => XS.iloadN S360.here hx rfl (hb hby e4_223) rfl q) ?_
    refine WGo.st (fun _ q => XS.imul S360.here hx rfl (hb hby e4_224) rfl q) ?_
    show WGo _ _ _ _ _ _ _ _ T358 (mkF m 225 #[.val (.ref a1), .val (.ref a2), .val (.int (E 67)), .unset] [(.int (E 66 * E 67)), (.ref a1)])
    rw [show E 66 * E 67 = E 70 from by decide]
    show WGo _ _ _ _ _ _ _ _ T358 (mkF m 225 #[.val (.ref a1), .val (.ref a2), .val (.int (E 67)), .unset] [(.int (E 70)), (.ref a1)])
    refine w_anw S360 d361 (hwi hw 0 rfl) rfl rfl (hb hby e4_225) rfl (cap := 6) hf (by decide) (by decide) (by decide) ?_
    intro T363 h364 a362 S365 d366 hf
    show WGo _ _ _ _ _ _ _ _ T363 (mkF m 227 #[.val (.ref a1), .val (.ref a2), .val (.int (E 67)), .unset] [(.ref a362), (.ref a1)])
    refine w_apf S365 d366 (i := 0) (fi := 23) hown (hwi hw 115 rfl) rfl (fn rfl (fn rfl (fn rfl (fn rfl hF180_23)))) (Or.inr ⟨(hwi hw 116 rfl), rfl, hnm⟩) (hwi hw 10 rfl) (ty := (.array .int)) (by decide) rfl rfl rfl rfl (hb hby e4_227) ?_
    intro T367 h368 S369 d370
    have d371 : HS Z a0 n0 h0 [a1, a2, aV, aF, aE, aN] h368 [ob a1 cA (((((F180.set 19 ("firstArc", "[I", (.ref a322))).set 20 ("lastArc", "[I", (.ref a334))).set 21 ("arcNext", "[I", (.ref a344))).set 22 ("arcPrev", "[I", (.ref a353))).set 23 ("arcNode", "[I", (.ref a362))), ob a2 cE G, ia aV 70 V1, ia aF nf V2, ia aE 70 V3, ia aN 70 V4, ia a152 67 y151, ia a177 y131 AZ, ia a188 y131 AZ, ia a200 y131 AZ, ia a211 y131 AZ, ia a222 y131 AZ, ia a234 y131 AZ, ia a249 y131 AZ, ia a260 y131 AZ, ia a272 y131 AZ, ia a283 y131 AZ, ia a294 y131 AZ, ia a306 y131 AZ, ia a322 z321 AZ, ia a334 z333 AZ, ia a344 70 AZ, ia a353 70 AZ, ia a362 70 AZ] := d370
    show WGo _ _ _ _ _ _ _ _ T367 (mkF m 230 #[.val (.ref a1), .val (.ref a2), .val (.int (E 67)), .unset] [])
    refine WGo.st (fun _ q => XS.aloadN S369.here hx rfl (hb hby e4_230) rfl rfl q) ?_
    refine WGo.st (fun _ q => XS.iconst S369.here hx rfl (hb hby e4_231) q) ?_
    refine WGo.st (fun _ q => XS.aloadN S369.here hx rfl (hb hby e4_232) rfl rfl q) ?_
    refine w_agf S369 d371 (i := 0) (fi := 4) hown (hwi hw 46 rfl) rfl (fn rfl (fn rfl (fn rfl (fn rfl (fn rfl hF180_4))))) rfl rfl (hb hby e4_233) ?_
    intro T372 S373
    show WGo _ _ _ _ _ _ _ _ T372 (mkF m 236 #[.val (.ref a1), .val (.ref a2), .val (.int (E 67)), .unset] [(.int (E y131)), (.int (E 68)), (.ref a1)])
    refine w_mulN S373 rfl (hb hby e4_236) rfl hf ?_
    intro z374 hf
    show WGo _ _ _ _ _ _ _ _ T372 (mkF m 237 #[.val (.ref a1), .val (.ref a2), .val (.int (E 67)), .unset] [(.int (E z374)), (.ref a1)])
    refine w_anw S373 d371 (hwi hw 0 rfl) rfl rfl (hb hby e4_237) rfl (cap := 16) hf (by decide) (by decide) (by decide) ?_
    intro T376 h377 a375 S378 d379 hf
    show WGo _ _ _ _ _ _ _ _ T376 (mkF m 239 #[.val (.ref a1), .val (.ref a2), .val (.int (E 67)), .unset] [(.ref a375), (.ref a1)])
    refine w_apf S378 d379 (i := 0) (fi := 24) hown (hwi hw 117 rfl) rfl (fn rfl (fn rfl (fn rfl (fn rfl (fn rfl hF180_24))))) (Or.inr ⟨(hwi hw 118 rfl), rfl, hnm⟩) (hwi hw 10 rfl) (ty := (.array .int)) (by decide) rfl rfl rfl rfl (hb hby e4_239) ?_
    intro T380 h381 S382 d383
    show WGo _ _ _ _ _ _ _ _ T380 (mkF m 242 #[.val (.ref a1), .val (.ref a2), .val (.int (E 67)), .unset] [])
    exact hC242 T380 h381 a152 a177 a188 a200 a211 a222 a234 a249 a260 a272 a283 a294 a306 a322 a334 a344 a353 a362 a375 _ y131 y151 y166 z321 z333 z374 S382 d383 (fn rfl (fn rfl (fn rfl (fn rfl (fn rfl (fn rfl hF180_3)))))) (fn rfl (fn rfl (fn rfl (fn rfl (fn rfl (fn rfl hF180_4)))))) (fn rfl (fn rfl (fn rfl (fn rfl (fn rfl (fn rfl hF180_5)))))) (fn rfl (fn rfl (fn rfl (fn rfl (fn rfl (fn rfl hF180_6)))))) (fn rfl (fn rfl (fn rfl (fn rfl (fn rfl (fn rfl hF180_7)))))) (fn rfl (fn rfl (fn rfl (fn rfl (fn rfl (fn rfl hF180_8)))))) (fn rfl (fn rfl (fn rfl (fn rfl (fn rfl (fn rfl hF180_9)))))) (fn rfl (fn rfl (fn rfl (fn rfl (fn rfl (fn rfl hF180_10)))))) (fn rfl (fn rfl (fn rfl (fn rfl (fn rfl (fn rfl hF180_11)))))) (fn rfl (fn rfl (fn rfl (fn rfl (fn rfl (fn rfl hF180_12)))))) (fn rfl (fn rfl (fn rfl (fn rfl (fn rfl (fn rfl hF180_13)))))) (fn rfl (fn rfl (fn rfl (fn rfl (fn rfl (fn rfl hF180_14)))))) (fn rfl (fn rfl (fn rfl (fn rfl (fn rfl (fn rfl hF180_15)))))) (fn rfl (fn rfl (fn rfl (fn rfl (fn rfl (fn rfl hF180_16)))))) (fn rfl (fn rfl (fn rfl (fn rfl (fn rfl (fn rfl hF180_17)))))) (fn rfl (fn rfl (fn rfl (fn rfl (fn rfl (fn rfl hF180_18)))))) (fn rfl (fn rfl (fn rfl (fn rfl (fn rfl (fset_eq hF180_19)))))) (fn rfl (fn rfl (fn rfl (fn rfl (fset_eq (fn rfl hF180_20)))))) (fn rfl (fn rfl (fn rfl (fset_eq (fn rfl (fn rfl hF180_21)))))) (fn rfl (fn rfl (fset_eq (fn rfl (fn rfl (fn rfl hF180_22)))))) (fn rfl (fset_eq (fn rfl (fn rfl (fn rfl (fn rfl hF180_23)))))) (fset_eq (fn rfl (fn rfl (fn rfl (fn rfl (fn rfl hF180_24)))))) (fn rfl (fn rfl (fn rfl (fn rfl (fn rfl (fn rfl hF180_25)))))) (fn rfl (fn rfl (fn rfl (fn rfl (fn rfl (fn rfl hF180_26)))))) (fn rfl (fn rfl (fn rfl (fn rfl (fn rfl (fn rfl hF180_27)))))) (fn rfl (fn rfl (fn rfl (fn rfl (fn rfl (fn rfl hF180_28)))))) (fn rfl (fn rfl (fn rfl (fn rfl (fn rfl (fn rfl hF180_29)))))) (fn rfl (fn rfl (fn rfl (fn rfl (fn rfl (fn rfl hF180_30)))))) (fn rfl (fn rfl (fn rfl (fn rfl (fn rfl (fn rfl hF180_31)))))) (fn rfl (fn rfl (fn rfl (fn rfl (fn rfl (fn rfl hF180_32)))))) (fn rfl (fn rfl (fn rfl (fn rfl (fn rfl (fn rfl hF180_33)))))) (fn rfl (fn rfl (fn rfl (fn rfl (fn rfl (fn rfl hF180_34)))))) (fn rfl (fn rfl (fn rfl (fn rfl (fn rfl (fn rfl hF180_35)))))) hf
  have hC119 : ∀ (T243 : State) (h244 : Heap) (a152 a177 a188 a200 a211 a222 a234 : Addr) (F119 : List (String × String × Value)) (y131 y151 y166 : Nat), WSt p l e R_Ai s m #[(.ref a1), (.ref a2)] below meth c Z n0 T243 h244 (10) (51) → HS Z a0 n0 h0 [a1, a2, aV, aF, aE, aN] h244 [ob a1 cA F119, ob a2 cE G, ia aV 70 V1, ia aF nf V2, ia aE 70 V3, ia aN 70 V4, ia a152 67 y151, ia a177 y131 AZ, ia a188 y131 AZ, ia a200 y131 AZ, ia a211 y131 AZ, ia a222 y131 AZ, ia a234 y131 AZ] → FL F119 3 "ends" "Lcom/example/ookayama/ookayama/EdgeEnds;" (.ref a2) → FL F119 4 "n" "I" (.int (E y131)) → FL F119 5 "representative" "[I" (.ref a152) → FL F119 6 "hasCopies" "Z" (.int (E y166)) → FL F119 7 "dfi" "[I" (.ref a177) → FL F119 8 "vertexAt" "[I" (.ref a188) → FL F119 9 "parent" "[I" (.ref a200) → FL F119 10 "treeEnd" "[I" (.ref a211) → FL F119 11 "leastAncestor" "[I" (.ref a222) → FL F119 12 "leastAncestorEdge" "[I" (.ref a234) → FL F119 13 "lowpoint" "[I" (.null) → FL F119 14 "lowChild" "[I" (.null) → FL F119 15 "blockedBelow" "[I" (.null) → FL F119 16 "separatedHead" "[I" (.null) → FL F119 17 "separatedNext" "[I" (.null) → FL F119 18 "separatedPrev" "[I" (.null) → FL F119 19 "firstArc" "[I" (.null) → FL F119 20 "lastArc" "[I" (.null) → FL F119 21 "arcNext" "[I" (.null) → FL F119 22 "arcPrev" "[I" (.null) → FL F119 23 "arcNode" "[I" (.null) → FL F119 24 "extFace" "[I" (.null) → FL F119 25 "flipped" "[Z" (.null) → FL F119 26 "backFlag" "[I" (.null) → FL F119 27 "pendingEnd" "[I" (.null) → FL F119 28 "visited" "[I" (.null) → FL F119 29 "pertinentHead" "[I" (.null) → FL F119 30 "pertinentTail" "[I" (.null) → FL F119 31 "pertinentNext" "[I" (.null) → FL F119 32 "pertinentPrev" "[I" (.null) → FL F119 33 "backStart" "[I" (.null) → FL F119 34 "backEnd" "[I" (.null) → FL F119 35 "backLower" "[I" (.null) → fAi_C119 nf V1 V2 V3 V4 y131 y151 y166 Kf = some r → WGo p e below s n0 (QAi Z a0 n0 h0 a1 a2 aV aF aE aN F G nf V1 V2 V3 V4 Kf r) R_Ai.cells R_Ai.slots T243 (mkF m 119 #[.val (.ref a1), .val (.ref a2), .val (.int (E 67)), .unset] []) := by
    intro T243 h244 a152 a177 a188 a200 a211 a222 a234 F119 y131 y151 y166 S245 d246 hF119_3 hF119_4 hF119_5 hF119_6 hF119_7 hF119_8 hF119_9 hF119_10 hF119_11 hF119_12 hF119_13 hF119_14 hF119_15 hF119_16 hF119_17 hF119_18 hF119_19 hF119_20 hF119_21 hF119_22 hF119_23 hF119_24 hF119_25 hF119_26 hF119_27 hF119_28 hF119_29 hF119_30 hF119_31 hF119_32 hF119_33 hF119_34 hF119_35 hf
    rw [fAi_C119] at hf
    show WGo _ _ _ _ _ _ _ _ T243 (mkF m 119 #[.val (.ref a1), .val (.ref a2), .val (.int (E 67)), .unset] [])
    refine WGo.st (fun _ q => XS.aloadN S245.here hx rfl (hb hby e4_119) rfl rfl q) ?_
    refine WGo.st (fun _ q => XS.aloadN S245.here hx rfl (hb hby e4_120) rfl rfl q) ?_
    refine w_agf S245 d246 (i := 0) (fi := 4) hown (hwi hw 46 rfl) rfl hF119_4 rfl rfl (hb hby e4_121) ?_
    intro T247 S248
    show WGo _ _ _ _ _ _ _ _ T247 (mkF m 124 #[.val (.ref a1), .val (.ref a2), .val (.int (E 67)), .unset] [(.int (E y131)), (.ref a1)])
    refine w_anw S248 d246 (hwi hw 0 rfl) rfl rfl (hb hby e4_124) rfl (cap := 4) hf (by decide) (by decide) (by decide) ?_
    intro T250 h251 a249 S252 d253 hf
    show WGo _ _ _ _ _ _ _ _ T250 (mkF m 126 #[.val (.ref a1), .val (.ref a2), .val (.int (E 67)), .unset] [(.ref a249), (.ref a1)])
    refine w_apf S252 d253 (i := 0) (fi := 13) hown (hwi hw 95 rfl) rfl hF119_13 (Or.inr ⟨(hwi hw 96 rfl), rfl, hnm⟩) (hwi hw 10 rfl) (ty := (.array .int)) (by decide) rfl rfl rfl rfl (hb hby e4_126) ?_
    intro T254 h255 S256 d257
    show WGo _ _ _ _ _ _ _ _ T254 (mkF m 129 #[.val (.ref a1), .val (.ref a2), .val (.int (E 67)), .unset] [])
    refine WGo.st (fun _ q => XS.aloadN S256.here hx rfl (hb hby e4_129) rfl rfl q) ?_
    refine WGo.st (fun _ q => XS.aloadN S256.here hx rfl (hb hby e4_130) rfl rfl q) ?_
    refine w_agf S256 d257 (i := 0) (fi := 4) hown (hwi hw 46 rfl) rfl (fn rfl hF119_4) rfl rfl (hb hby e4_131) ?_
    intro T258 S259
    show WGo _ _ _ _ _ _ _ _ T258 (mkF m 134 #[.val (.ref a1), .val (.ref a2), .val (.int (E 67)), .unset] [(.int (E y131)), (.ref a1)])
    refine w_anw S259 d257 (hwi hw 0 rfl) rfl rfl (hb hby e4_134) rfl (cap := 4) hf (by decide) (by decide) (by decide) ?_
    intro T261 h262 a260 S263 d264 hf
    show WGo _ _ _ _ _ _ _ _ T261 (mkF m 136 #[.val (.ref a1), .val (.ref a2), .val (.int (E 67)), .unset] [(.ref a260), (.ref a1)])
    refine w_apf S263 d264 (i := 0) (fi := 14) hown (hwi hw 97 rfl) rfl (fn rfl hF119_14) (Or.inr ⟨(hwi hw 98 rfl), rfl, hnm⟩) (hwi hw 10 rfl) (ty := (.array .int)) (by decide) rfl rfl rfl rfl (hb hby e4_136) ?_
    intro T265 h266 S267 d268
    have d269 : HS Z a0 n0 h0 [a1, a2, aV, aF, aE, aN] h266 [ob a1 cA ((F119.set 13 ("lowpoint", "[I", (.ref a249))).set 14 ("lowChild", "[I", (.ref a260))), ob a2 cE G, ia aV 70 V1, ia aF nf V2, ia aE 70 V3, ia aN 70 V4, ia a152 67 y151, ia a177 y131 AZ, ia a188 y131 AZ, ia a200 y131 AZ, ia a211 y131 AZ, ia a222 y131 AZ, ia a234 y131 AZ, ia a249 y131 AZ, ia a260 y131 AZ] := d268
    show WGo _ _ _ _ _ _ _ _ T265 (mkF m 139 #[.val (.ref a1), .val (.ref a2), .val (.int (E 67)), .unset] [])
    refine WGo.st (fun _ q => XS.aloadN S267.here hx rfl (hb hby e4_139) rfl rfl q) ?_
    refine WGo.st (fun _ q => XS.aloadN S267.here hx rfl (hb hby e4_140) rfl rfl q) ?_
    refine w_agf S267 d269 (i := 0) (fi := 4) hown (hwi hw 46 rfl) rfl (fn rfl (fn rfl hF119_4)) rfl rfl (hb hby e4_141) ?_
    intro T270 S271
    show WGo _ _ _ _ _ _ _ _ T270 (mkF m 144 #[.val (.ref a1), .val (.ref a2), .val (.int (E 67)), .unset] [(.int (E y131)), (.ref a1)])
    refine w_anw S271 d269 (hwi hw 0 rfl) rfl rfl (hb hby e4_144) rfl (cap := 4) hf (by decide) (by decide) (by decide) ?_
    intro T273 h274 a272 S275 d276 hf
    show WGo _ _ _ _ _ _ _ _ T273 (mkF m 146 #[.val (.ref a1), .val (.ref a2), .val (.int (E 67)), .unset] [(.ref a272), (.ref a1)])
    refine w_apf S275 d276 (i := 0) (fi := 15) hown (hwi hw 99 rfl) rfl (fn rfl (fn rfl hF119_15)) (Or.inr ⟨(hwi hw 100 rfl), rfl, hnm⟩) (hwi hw 10 rfl) (ty := (.array .int)) (by decide) rfl rfl rfl rfl (hb hby e4_146) ?_
    intro T277 h278 S279 d280
    show WGo _ _ _ _ _ _ _ _ T277 (mkF m 149 #[.val (.ref a1), .val (.ref a2), .val (.int (E 67)), .unset] [])
    refine WGo.st (fun _ q => XS.aloadN S279.here hx rfl (hb hby e4_149) rfl rfl q) ?_
    refine WGo.st (fun _ q => XS.aloadN S279.here hx rfl (hb hby e4_150) rfl rfl q) ?_
    refine w_agf S279 d280 (i := 0) (fi := 4) hown (hwi hw 46 rfl) rfl (fn rfl (fn rfl (fn rfl hF119_4))) rfl rfl (hb hby e4_151) ?_
    intro T281 S282
    show WGo _ _ _ _ _ _ _ _ T281 (mkF m 154 #[.val (.ref a1), .val (.ref a2), .val (.int (E 67)), .unset] [(.int (E y131)), (.ref a1)])
    refine w_anw S282 d280 (hwi hw 0 rfl) rfl rfl (hb hby e4_154) rfl (cap := 4) hf (by decide) (by decide) (by decide) ?_
    intro T284 h285 a283 S286 d287 hf
    show WGo _ _ _ _ _ _ _ _ T284 (mkF m 156 #[.val (.ref a1), .val (.ref a2), .val (.int (E 67)), .unset] [(.ref a283), (.ref a1)])
    refine w_apf S286 d287 (i := 0) (fi := 16) hown (hwi hw 101 rfl) rfl (fn rfl (fn rfl (fn rfl hF119_16))) (Or.inr ⟨(hwi hw 102 rfl), rfl, hnm⟩) (hwi hw 10 rfl) (ty := (.array .int)) (by decide) rfl rfl rfl rfl (hb hby e4_156) ?_
    intro T288 h289 S290 d291
    show WGo _ _ _ _ _ _ _ _ T288 (mkF m 159 #[.val (.ref a1), .val (.ref a2), .val (.int (E 67)), .unset] [])
    refine WGo.st (fun _ q => XS.aloadN S290.here hx rfl (hb hby e4_159) rfl rfl q) ?_
    refine WGo.st (fun _ q => XS.aloadN S290.here hx rfl (hb hby e4_160) rfl rfl q) ?_
    refine w_agf S290 d291 (i := 0) (fi := 4) hown (hwi hw 46 rfl) rfl (fn rfl (fn rfl (fn rfl (fn rfl hF119_4)))) rfl rfl (hb hby e4_161) ?_
    intro T292 S293
    show WGo _ _ _ _ _ _ _ _ T292 (mkF m 164 #[.val (.ref a1), .val (.ref a2), .val (.int (E 67)), .unset] [(.int (E y131)), (.ref a1)])
    refine w_anw S293 d291 (hwi hw 0 rfl) rfl rfl (hb hby e4_164) rfl (cap := 4) hf (by decide) (by decide) (by decide) ?_
    intro T295 h296 a294 S297 d298 hf
    show WGo _ _ _ _ _ _ _ _ T295 (mkF m 166 #[.val (.ref a1), .val (.ref a2), .val (.int (E 67)), .unset] [(.ref a294), (.ref a1)])
    refine w_apf S297 d298 (i := 0) (fi := 17) hown (hwi hw 103 rfl) rfl (fn rfl (fn rfl (fn rfl (fn rfl hF119_17)))) (Or.inr ⟨(hwi hw 104 rfl), rfl, hnm⟩) (hwi hw 10 rfl) (ty := (.array .int)) (by decide) rfl rfl rfl rfl (hb hby e4_166) ?_
    intro T299 h300 S301 d302
    have d303 : HS Z a0 n0 h0 [a1, a2, aV, aF, aE, aN] h300 [ob a1 cA (((((F119.set 13 ("lowpoint", "[I", (.ref a249))).set 14 ("lowChild", "[I", (.ref a260))).set 15 ("blockedBelow", "[I", (.ref a272))).set 16 ("separatedHead", "[I", (.ref a283))).set 17 ("separatedNext", "[I", (.ref a294))), ob a2 cE G, ia aV 70 V1, ia aF nf V2, ia aE 70 V3, ia aN 70 V4, ia a152 67 y151, ia a177 y131 AZ, ia a188 y131 AZ, ia a200 y131 AZ, ia a211 y131 AZ, ia a222 y131 AZ, ia a234 y131 AZ, ia a249 y131 AZ, ia a260 y131 AZ, ia a272 y131 AZ, ia a283 y131 AZ, ia a294 y131 AZ] := d302
    show WGo _ _ _ _ _ _ _ _ T299 (mkF m 169 #[.val (.ref a1), .val (.ref a2), .val (.int (E 67)), .unset] [])
    refine WGo.st (fun _ q => XS.aloadN S301.here hx rfl (hb hby e4_169) rfl rfl q) ?_
    refine WGo.st (fun _ q => XS.aloadN S301.here hx rfl (hb hby e4_170) rfl rfl q) ?_
    refine w_agf S301 d303 (i := 0) (fi := 4) hown (hwi hw 46 rfl) rfl (fn rfl (fn rfl (fn rfl (fn rfl (fn rfl hF119_4))))) rfl rfl (hb hby e4_171) ?_
    intro T304 S305
    show WGo _ _ _ _ _ _ _ _ T304 (mkF m 174 #[.val (.ref a1), .val (.ref a2), .val (.int (E 67)), .unset] [(.int (E y131)), (.ref a1)])
    refine w_anw S305 d303 (hwi hw 0 rfl) rfl rfl (hb hby e4_174) rfl (cap := 4) hf (by decide) (by decide) (by decide) ?_
    intro T307 h308 a306 S309 d310 hf
    show WGo _ _ _ _ _ _ _ _ T307 (mkF m 176 #[.val (.ref a1), .val (.ref a2), .val (.int (E 67)), .unset] [(.ref a306), (.ref a1)])
    refine w_apf S309 d310 (i := 0) (fi := 18) hown (hwi hw 105 rfl) rfl (fn rfl (fn rfl (fn rfl (fn rfl (fn rfl hF119_18))))) (Or.inr ⟨(hwi hw 106 rfl), rfl, hnm⟩) (hwi hw 10 rfl) (ty := (.array .int)) (by decide) rfl rfl rfl rfl (hb hby e4_176) ?_
    intro T311 h312 S313 d314
    show WGo _ _ _ _ _ _ _ _ T311 (mkF m 179 #[.val (.ref a1), .val (.ref a2), .val (.int (E 67)), .unset] [])
    refine WGo.st (fun _ q => XS.aloadN S313.here hx rfl (hb hby e4_179) rfl rfl q) ?_
    exact hC180 T311 h312 a152 a177 a188 a200 a211 a222 a234 a249 a260 a272 a283 a294 a306 _ y131 y151 y166 S313 d314 (fn rfl (fn rfl (fn rfl (fn rfl (fn rfl (fn rfl hF119_3)))))) (fn rfl (fn rfl (fn rfl (fn rfl (fn rfl (fn rfl hF119_4)))))) (fn rfl (fn rfl (fn rfl (fn rfl (fn rfl (fn rfl hF119_5)))))) (fn rfl (fn rfl (fn rfl (fn rfl (fn rfl (fn rfl hF119_6)))))) (fn rfl (fn rfl (fn rfl (fn rfl (fn rfl (fn rfl hF119_7)))))) (fn rfl (fn rfl (fn rfl (fn rfl (fn rfl (fn rfl hF119_8)))))) (fn rfl (fn rfl (fn rfl (fn rfl (fn rfl (fn rfl hF119_9)))))) (fn rfl (fn rfl (fn rfl (fn rfl (fn rfl (fn rfl hF119_10)))))) (fn rfl (fn rfl (fn rfl (fn rfl (fn rfl (fn rfl hF119_11)))))) (fn rfl (fn rfl (fn rfl (fn rfl (fn rfl (fn rfl hF119_12)))))) (fn rfl (fn rfl (fn rfl (fn rfl (fn rfl (fset_eq hF119_13)))))) (fn rfl (fn rfl (fn rfl (fn rfl (fset_eq (fn rfl hF119_14)))))) (fn rfl (fn rfl (fn rfl (fset_eq (fn rfl (fn rfl hF119_15)))))) (fn rfl (fn rfl (fset_eq (fn rfl (fn rfl (fn rfl hF119_16)))))) (fn rfl (fset_eq (fn rfl (fn rfl (fn rfl (fn rfl hF119_17)))))) (fset_eq (fn rfl (fn rfl (fn rfl (fn rfl (fn rfl hF119_18)))))) (fn rfl (fn rfl (fn rfl (fn rfl (fn rfl (fn rfl hF119_19)))))) (fn rfl (fn rfl (fn rfl (fn rfl (fn rfl (fn rfl hF119_20)))))) (fn rfl (fn rfl (fn rfl (fn rfl (fn rfl (fn rfl hF119_21)))))) (fn rfl (fn rfl (fn rfl (fn rfl (fn rfl (fn rfl hF119_22)))))) (fn rfl (fn rfl (fn rfl (fn rfl (fn rfl (fn rfl hF119_23)))))) (fn rfl (fn rfl (fn rfl (fn rfl (fn rfl (fn rfl hF119_24)))))) (fn rfl (fn rfl (fn rfl (fn rfl (fn rfl (fn rfl hF119_25)))))) (fn rfl (fn rfl (fn rfl (fn rfl (fn rfl (fn rfl hF119_26)))))) (fn rfl (fn rfl (fn rfl (fn rfl (fn rfl (fn rfl hF119_27)))))) (fn rfl (fn rfl (fn rfl (fn rfl (fn rfl (fn rfl hF119_28)))))) (fn rfl (fn rfl (fn rfl (fn rfl (fn rfl (fn rfl hF119_29)))))) (fn rfl (fn rfl (fn rfl (fn rfl (fn rfl (fn rfl hF119_30)))))) (fn rfl (fn rfl (fn rfl (fn rfl (fn rfl (fn rfl hF119_31)))))) (fn rfl (fn rfl (fn rfl (fn rfl (fn rfl (fn rfl hF119_32)))))) (fn rfl (fn rfl (fn rfl (fn rfl (fn rfl (fn rfl hF119_33)))))) (fn rfl (fn rfl (fn rfl (fn rfl (fn rfl (fn rfl hF119_34)))))) (fn rfl (fn rfl (fn rfl (fn rfl (fn rfl (fn rfl hF119_35)))))) hf
  have hC59 : ∀ (T171 : State) (h172 : Heap) (a152 : Addr) (F59 : List (String × String × Value)) (y131 y151 y166 : Nat), WSt p l e R_Ai s m #[(.ref a1), (.ref a2)] below meth c Z n0 T171 h172 (4) (27) → HS Z a0 n0 h0 [a1, a2, aV, aF, aE, aN] h172 [ob a1 cA F59, ob a2 cE G, ia aV 70 V1, ia aF nf V2, ia aE 70 V3, ia aN 70 V4, ia a152 67 y151] → FL F59 3 "ends" "Lcom/example/ookayama/ookayama/EdgeEnds;" (.ref a2) → FL F59 4 "n" "I" (.int (E y131)) → FL F59 5 "representative" "[I" (.ref a152) → FL F59 6 "hasCopies" "Z" (.int (E y166)) → FL F59 7 "dfi" "[I" (.null) → FL F59 8 "vertexAt" "[I" (.null) → FL F59 9 "parent" "[I" (.null) → FL F59 10 "treeEnd" "[I" (.null) → FL F59 11 "leastAncestor" "[I" (.null) → FL F59 12 "leastAncestorEdge" "[I" (.null) → FL F59 13 "lowpoint" "[I" (.null) → FL F59 14 "lowChild" "[I" (.null) → FL F59 15 "blockedBelow" "[I" (.null) → FL F59 16 "separatedHead" "[I" (.null) → FL F59 17 "separatedNext" "[I" (.null) → FL F59 18 "separatedPrev" "[I" (.null) → FL F59 19 "firstArc" "[I" (.null) → FL F59 20 "lastArc" "[I" (.null) → FL F59 21 "arcNext" "[I" (.null) → FL F59 22 "arcPrev" "[I" (.null) → FL F59 23 "arcNode" "[I" (.null) → FL F59 24 "extFace" "[I" (.null) → FL F59 25 "flipped" "[Z" (.null) → FL F59 26 "backFlag" "[I" (.null) → FL F59 27 "pendingEnd" "[I" (.null) → FL F59 28 "visited" "[I" (.null) → FL F59 29 "pertinentHead" "[I" (.null) → FL F59 30 "pertinentTail" "[I" (.null) → FL F59 31 "pertinentNext" "[I" (.null) → FL F59 32 "pertinentPrev" "[I" (.null) → FL F59 33 "backStart" "[I" (.null) → FL F59 34 "backEnd" "[I" (.null) → FL F59 35 "backLower" "[I" (.null) → fAi_C59 nf V1 V2 V3 V4 y131 y151 y166 Kf = some r → WGo p e below s n0 (QAi Z a0 n0 h0 a1 a2 aV aF aE aN F G nf V1 V2 V3 V4 Kf r) R_Ai.cells R_Ai.slots T171 (mkF m 59 #[.val (.ref a1), .val (.ref a2), .val (.int (E 67)), .unset] []) := by
    intro T171 h172 a152 F59 y131 y151 y166 S173 d174 hF59_3 hF59_4 hF59_5 hF59_6 hF59_7 hF59_8 hF59_9 hF59_10 hF59_11 hF59_12 hF59_13 hF59_14 hF59_15 hF59_16 hF59_17 hF59_18 hF59_19 hF59_20 hF59_21 hF59_22 hF59_23 hF59_24 hF59_25 hF59_26 hF59_27 hF59_28 hF59_29 hF59_30 hF59_31 hF59_32 hF59_33 hF59_34 hF59_35 hf
    rw [fAi_C59] at hf
    show WGo _ _ _ _ _ _ _ _ T171 (mkF m 59 #[.val (.ref a1), .val (.ref a2), .val (.int (E 67)), .unset] [])
    refine WGo.st (fun _ q => XS.aloadN S173.here hx rfl (hb hby e4_59) rfl rfl q) ?_
    refine WGo.st (fun _ q => XS.aloadN S173.here hx rfl (hb hby e4_60) rfl rfl q) ?_
    refine w_agf S173 d174 (i := 0) (fi := 4) hown (hwi hw 46 rfl) rfl hF59_4 rfl rfl (hb hby e4_61) ?_
    intro T175 S176
    show WGo _ _ _ _ _ _ _ _ T175 (mkF m 64 #[.val (.ref a1), .val (.ref a2), .val (.int (E 67)), .unset] [(.int (E y131)), (.ref a1)])
    refine w_anw S176 d174 (hwi hw 0 rfl) rfl rfl (hb hby e4_64) rfl (cap := 4) hf (by decide) (by decide) (by decide) ?_
    intro T178 h179 a177 S180 d181 hf
    show WGo _ _ _ _ _ _ _ _ T178 (mkF m 66 #[.val (.ref a1), .val (.ref a2), .val (.int (E 67)), .unset] [(.ref a177), (.ref a1)])
    refine w_apf S180 d181 (i := 0) (fi := 7) hown (hwi hw 83 rfl) rfl hF59_7 (Or.inr ⟨(hwi hw 84 rfl), rfl, hnm⟩) (hwi hw 10 rfl) (ty := (.array .int)) (by decide) rfl rfl rfl rfl (hb hby e4_66) ?_
    intro T182 h183 S184 d185
    show WGo _ _ _ _ _ _ _ _ T182 (mkF m 69 #[.val (.ref a1), .val (.ref a2), .val (.int (E 67)), .unset] [])
    refine WGo.st (fun _ q => XS.aloadN S184.here hx rfl (hb hby e4_69) rfl rfl q) ?_
    refine WGo.st (fun _ q => XS.aloadN S184.here hx rfl (hb hby e4_70) rfl rfl q) ?_
    refine w_agf S184 d185 (i := 0) (fi := 4) hown (hwi hw 46 rfl) rfl (fn rfl hF59_4) rfl rfl (hb hby e4_71) ?_
    intro T186 S187
    show WGo _ _ _ _ _ _ _ _ T186 (mkF m 74 #[.val (.ref a1), .val (.ref a2), .val (.int (E 67)), .unset] [(.int (E y131)), (.ref a1)])
    refine w_anw S187 d185 (hwi hw 0 rfl) rfl rfl (hb hby e4_74) rfl (cap := 4) hf (by decide) (by decide) (by decide) ?_
    intro T189 h190 a188 S191 d192 hf
    show WGo _ _ _ _ _ _ _ _ T189 (mkF m 76 #[.val (.ref a1), .val (.ref a2), .val (.int (E 67)), .unset] [(.ref a188), (.ref a1)])
    refine w_apf S191 d192 (i := 0) (fi := 8) hown (hwi hw 85 rfl) rfl (fn rfl hF59_8) (Or.inr ⟨(hwi hw 86 rfl), rfl, hnm⟩) (hwi hw 10 rfl) (ty := (.array .int)) (by decide) rfl rfl rfl rfl (hb hby e4_76) ?_
    intro T193 h194 S195 d196
    have d197 : HS Z a0 n0 h0 [a1, a2, aV, aF, aE, aN] h194 [ob a1 cA ((F59.set 7 ("dfi", "[I", (.ref a177))).set 8 ("vertexAt", "[I", (.ref a188))), ob a2 cE G, ia aV 70 V1, ia aF nf V2, ia aE 70 V3, ia aN 70 V4, ia a152 67 y151, ia a177 y131 AZ, ia a188 y131 AZ] := d196
    show WGo _ _ _ _ _ _ _ _ T193 (mkF m 79 #[.val (.ref a1), .val (.ref a2), .val (.int (E 67)), .unset] [])
    refine WGo.st (fun _ q => XS.aloadN S195.here hx rfl (hb hby e4_79) rfl rfl q) ?_
    refine WGo.st (fun _ q => XS.aloadN S195.here hx rfl (hb hby e4_80) rfl rfl q) ?_
    refine w_agf S195 d197 (i := 0) (fi := 4) hown (hwi hw 46 rfl) rfl (fn rfl (fn rfl hF59_4)) rfl rfl (hb hby e4_81) ?_
    intro T198 S199
    show WGo _ _ _ _ _ _ _ _ T198 (mkF m 84 #[.val (.ref a1), .val (.ref a2), .val (.int (E 67)), .unset] [(.int (E y131)), (.ref a1)])
    refine w_anw S199 d197 (hwi hw 0 rfl) rfl rfl (hb hby e4_84) rfl (cap := 4) hf (by decide) (by decide) (by decide) ?_
    intro T201 h202 a200 S203 d204 hf
    show WGo _ _ _ _ _ _ _ _ T201 (mkF m 86 #[.val (.ref a1), .val (.ref a2), .val (.int (E 67)), .unset] [(.ref a200), (.ref a1)])
    refine w_apf S203 d204 (i := 0) (fi := 9) hown (hwi hw 87 rfl) rfl (fn rfl (fn rfl hF59_9)) (Or.inr ⟨(hwi hw 88 rfl), rfl, hnm⟩) (hwi hw 10 rfl) (ty := (.array .int)) (by decide) rfl rfl rfl rfl (hb hby e4_86) ?_
    intro T205 h206 S207 d208
    show WGo _ _ _ _ _ _ _ _ T205 (mkF m 89 #[.val (.ref a1), .val (.ref a2), .val (.int (E 67)), .unset] [])
    refine WGo.st (fun _ q => XS.aloadN S207.here hx rfl (hb hby e4_89) rfl rfl q) ?_
    refine WGo.st (fun _ q => XS.aloadN S207.here hx rfl (hb hby e4_90) rfl rfl q) ?_
    refine w_agf S207 d208 (i := 0) (fi := 4) hown (hwi hw 46 rfl) rfl (fn rfl (fn rfl (fn rfl hF59_4))) rfl rfl (hb hby e4_91) ?_
    intro T209 S210
    show WGo _ _ _ _ _ _ _ _ T209 (mkF m 94 #[.val (.ref a1), .val (.ref a2), .val (.int (E 67)), .unset] [(.int (E y131)), (.ref a1)])
    refine w_anw S210 d208 (hwi hw 0 rfl) rfl rfl (hb hby e4_94) rfl (cap := 4) hf (by decide) (by decide) (by decide) ?_
    intro T212 h213 a211 S214 d215 hf
    show WGo _ _ _ _ _ _ _ _ T212 (mkF m 96 #[.val (.ref a1), .val (.ref a2), .val (.int (E 67)), .unset] [(.ref a211), (.ref a1)])
    refine w_apf S214 d215 (i := 0) (fi := 10) hown (hwi hw 89 rfl) rfl (fn rfl (fn rfl (fn rfl hF59_10))) (Or.inr ⟨(hwi hw 90 rfl), rfl, hnm⟩) (hwi hw 10 rfl) (ty := (.array .int)) (by decide) rfl rfl rfl rfl (hb hby e4_96) ?_
    intro T216 h217 S218 d219
    show WGo _ _ _ _ _ _ _ _ T216 (mkF m 99 #[.val (.ref a1), .val (.ref a2), .val (.int (E 67)), .unset] [])
    refine WGo.st (fun _ q => XS.aloadN S218.here hx rfl (hb hby e4_99) rfl rfl q) ?_
    refine WGo.st (fun _ q => XS.aloadN S218.here hx rfl (hb hby e4_100) rfl rfl q) ?_
    refine w_agf S218 d219 (i := 0) (fi := 4) hown (hwi hw 46 rfl) rfl (fn rfl (fn rfl (fn rfl (fn rfl hF59_4)))) rfl rfl (hb hby e4_101) ?_
    intro T220 S221
    show WGo _ _ _ _ _ _ _ _ T220 (mkF m 104 #[.val (.ref a1), .val (.ref a2), .val (.int (E 67)), .unset] [(.int (E y131)), (.ref a1)])
    refine w_anw S221 d219 (hwi hw 0 rfl) rfl rfl (hb hby e4_104) rfl (cap := 4) hf (by decide) (by decide) (by decide) ?_
    intro T223 h224 a222 S225 d226 hf
    show WGo _ _ _ _ _ _ _ _ T223 (mkF m 106 #[.val (.ref a1), .val (.ref a2), .val (.int (E 67)), .unset] [(.ref a222), (.ref a1)])
    refine w_apf S225 d226 (i := 0) (fi := 11) hown (hwi hw 91 rfl) rfl (fn rfl (fn rfl (fn rfl (fn rfl hF59_11)))) (Or.inr ⟨(hwi hw 92 rfl), rfl, hnm⟩) (hwi hw 10 rfl) (ty := (.array .int)) (by decide) rfl rfl rfl rfl (hb hby e4_106) ?_
    intro T227 h228 S229 d230
    have d231 : HS Z a0 n0 h0 [a1, a2, aV, aF, aE, aN] h228 [ob a1 cA (((((F59.set 7 ("dfi", "[I", (.ref a177))).set 8 ("vertexAt", "[I", (.ref a188))).set 9 ("parent", "[I", (.ref a200))).set 10 ("treeEnd", "[I", (.ref a211))).set 11 ("leastAncestor", "[I", (.ref a222))), ob a2 cE G, ia aV 70 V1, ia aF nf V2, ia aE 70 V3, ia aN 70 V4, ia a152 67 y151, ia a177 y131 AZ, ia a188 y131 AZ, ia a200 y131 AZ, ia a211 y131 AZ, ia a222 y131 AZ] := d230
    show WGo _ _ _ _ _ _ _ _ T227 (mkF m 109 #[.val (.ref a1), .val (.ref a2), .val (.int (E 67)), .unset] [])
    refine WGo.st (fun _ q => XS.aloadN S229.here hx rfl (hb hby e4_109) rfl rfl q) ?_
    refine WGo.st (fun _ q => XS.aloadN S229.here hx rfl (hb hby e4_110) rfl rfl q) ?_
    refine w_agf S229 d231 (i := 0) (fi := 4) hown (hwi hw 46 rfl) rfl (fn rfl (fn rfl (fn rfl (fn rfl (fn rfl hF59_4))))) rfl rfl (hb hby e4_111) ?_
    intro T232 S233
    show WGo _ _ _ _ _ _ _ _ T232 (mkF m 114 #[.val (.ref a1), .val (.ref a2), .val (.int (E 67)), .unset] [(.int (E y131)), (.ref a1)])
    refine w_anw S233 d231 (hwi hw 0 rfl) rfl rfl (hb hby e4_114) rfl (cap := 4) hf (by decide) (by decide) (by decide) ?_
    intro T235 h236 a234 S237 d238 hf
    show WGo _ _ _ _ _ _ _ _ T235 (mkF m 116 #[.val (.ref a1), .val (.ref a2), .val (.int (E 67)), .unset] [(.ref a234), (.ref a1)])
    refine w_apf S237 d238 (i := 0) (fi := 12) hown (hwi hw 93 rfl) rfl (fn rfl (fn rfl (fn rfl (fn rfl (fn rfl hF59_12))))) (Or.inr ⟨(hwi hw 94 rfl), rfl, hnm⟩) (hwi hw 10 rfl) (ty := (.array .int)) (by decide) rfl rfl rfl rfl (hb hby e4_116) ?_
    intro T239 h240 S241 d242
    show WGo _ _ _ _ _ _ _ _ T239 (mkF m 119 #[.val (.ref a1), .val (.ref a2), .val (.int (E 67)), .unset] [])
    exact hC119 T239 h240 a152 a177 a188 a200 a211 a222 a234 _ y131 y151 y166 S241 d242 (fn rfl (fn rfl (fn rfl (fn rfl (fn rfl (fn rfl hF59_3)))))) (fn rfl (fn rfl (fn rfl (fn rfl (fn rfl (fn rfl hF59_4)))))) (fn rfl (fn rfl (fn rfl (fn rfl (fn rfl (fn rfl hF59_5)))))) (fn rfl (fn rfl (fn rfl (fn rfl (fn rfl (fn rfl hF59_6)))))) (fn rfl (fn rfl (fn rfl (fn rfl (fn rfl (fset_eq hF59_7)))))) (fn rfl (fn rfl (fn rfl (fn rfl (fset_eq (fn rfl hF59_8)))))) (fn rfl (fn rfl (fn rfl (fset_eq (fn rfl (fn rfl hF59_9)))))) (fn rfl (fn rfl (fset_eq (fn rfl (fn rfl (fn rfl hF59_10)))))) (fn rfl (fset_eq (fn rfl (fn rfl (fn rfl (fn rfl hF59_11)))))) (fset_eq (fn rfl (fn rfl (fn rfl (fn rfl (fn rfl hF59_12)))))) (fn rfl (fn rfl (fn rfl (fn rfl (fn rfl (fn rfl hF59_13)))))) (fn rfl (fn rfl (fn rfl (fn rfl (fn rfl (fn rfl hF59_14)))))) (fn rfl (fn rfl (fn rfl (fn rfl (fn rfl (fn rfl hF59_15)))))) (fn rfl (fn rfl (fn rfl (fn rfl (fn rfl (fn rfl hF59_16)))))) (fn rfl (fn rfl (fn rfl (fn rfl (fn rfl (fn rfl hF59_17)))))) (fn rfl (fn rfl (fn rfl (fn rfl (fn rfl (fn rfl hF59_18)))))) (fn rfl (fn rfl (fn rfl (fn rfl (fn rfl (fn rfl hF59_19)))))) (fn rfl (fn rfl (fn rfl (fn rfl (fn rfl (fn rfl hF59_20)))))) (fn rfl (fn rfl (fn rfl (fn rfl (fn rfl (fn rfl hF59_21)))))) (fn rfl (fn rfl (fn rfl (fn rfl (fn rfl (fn rfl hF59_22)))))) (fn rfl (fn rfl (fn rfl (fn rfl (fn rfl (fn rfl hF59_23)))))) (fn rfl (fn rfl (fn rfl (fn rfl (fn rfl (fn rfl hF59_24)))))) (fn rfl (fn rfl (fn rfl (fn rfl (fn rfl (fn rfl hF59_25)))))) (fn rfl (fn rfl (fn rfl (fn rfl (fn rfl (fn rfl hF59_26)))))) (fn rfl (fn rfl (fn rfl (fn rfl (fn rfl (fn rfl hF59_27)))))) (fn rfl (fn rfl (fn rfl (fn rfl (fn rfl (fn rfl hF59_28)))))) (fn rfl (fn rfl (fn rfl (fn rfl (fn rfl (fn rfl hF59_29)))))) (fn rfl (fn rfl (fn rfl (fn rfl (fn rfl (fn rfl hF59_30)))))) (fn rfl (fn rfl (fn rfl (fn rfl (fn rfl (fn rfl hF59_31)))))) (fn rfl (fn rfl (fn rfl (fn rfl (fn rfl (fn rfl hF59_32)))))) (fn rfl (fn rfl (fn rfl (fn rfl (fn rfl (fn rfl hF59_33)))))) (fn rfl (fn rfl (fn rfl (fn rfl (fn rfl (fn rfl hF59_34)))))) (fn rfl (fn rfl (fn rfl (fn rfl (fn rfl (fn rfl hF59_35)))))) hf
  refine WGo.cast (ef_Ai m a1 a2) ?_
  rw [fAi] at hf
  show WGo _ _ _ _ _ _ _ _ T (mkF m 0 #[.val (.ref a1), .val (.ref a2), .unset, .unset] [])
  refine WGo.st (fun _ q => XS.aloadN S.here hx rfl (hb hby e4_0) rfl rfl q) ?_
  refine w_objinit S hown (hwi hw 32 rfl) (hwi hw 19 rfl) (hwi hw 20 rfl) rfl (by rw [hml]; rfl) rfl (hb hby e4_1) (by decide) (W := 0) (by show 2 * 0 + _ ≤ _; exact Nat.le_of_eq rfl) (by decide) ?_
  intro T101 S102
  show WGo _ _ _ _ _ _ _ _ T101 (mkF m 4 #[.val (.ref a1), .val (.ref a2), .unset, .unset] [])
  refine WGo.st (fun _ q => XS.aloadN S102.here hx rfl (hb hby e4_4) rfl rfl q) ?_
  refine WGo.st (fun _ q => XS.bipush S102.here hx rfl (hb hby e4_5) q) ?_
  refine w_anw S102 d0 (hwi hw 0 rfl) rfl rfl (hb hby e4_7) rfl (cap := 16) hf (by decide) (by decide) (by decide) ?_
  intro T104 h105 a103 S106 d107 hf
  show WGo _ _ _ _ _ _ _ _ T104 (mkF m 9 #[.val (.ref a1), .val (.ref a2), .unset, .unset] [(.ref a103), (.ref a1)])
  refine w_apf S106 d107 (i := 0) (fi := 0) hown (hwi hw 33 rfl) rfl hF0 (Or.inl (hwi hw 34 rfl)) (hwi hw 10 rfl) (ty := (.array .int)) (by decide) rfl rfl rfl rfl (hb hby e4_9) ?_
  intro T108 h109 S110 d111
  show WGo _ _ _ _ _ _ _ _ T108 (mkF m 12 #[.val (.ref a1), .val (.ref a2), .unset, .unset] [])
  refine WGo.st (fun _ q => XS.aloadN S110.here hx rfl (hb hby e4_12) rfl rfl q) ?_
  refine WGo.st (fun _ q => XS.iconst S110.here hx rfl (hb hby e4_13) q) ?_
  refine w_apf S110 d111 (i := 0) (fi := 1) hown (hwi hw 35 rfl) rfl (fn rfl hF1) (Or.inl (hwi hw 36 rfl)) (hwi hw 10 rfl) (ty := .int) (by decide) rfl rfl rfl rfl (hb hby e4_14) ?_
  intro T112 h113 S114 d115
  show WGo _ _ _ _ _ _ _ _ T112 (mkF m 17 #[.val (.ref a1), .val (.ref a2), .unset, .unset] [])
  refine WGo.st (fun _ q => XS.aloadN S114.here hx rfl (hb hby e4_17) rfl rfl q) ?_
  refine WGo.st (fun _ q => XS.iconst S114.here hx rfl (hb hby e4_18) q) ?_
  refine w_apf S114 d115 (i := 0) (fi := 2) hown (hwi hw 37 rfl) rfl (fn rfl (fn rfl hF2)) (Or.inl (hwi hw 38 rfl)) (hwi hw 10 rfl) (ty := .int) (by decide) rfl rfl rfl rfl (hb hby e4_19) ?_
  intro T116 h117 S118 d119
  show WGo _ _ _ _ _ _ _ _ T116 (mkF m 22 #[.val (.ref a1), .val (.ref a2), .unset, .unset] [])
  refine WGo.st (fun _ q => XS.aloadN S118.here hx rfl (hb hby e4_22) rfl rfl q) ?_
  refine WGo.st (fun _ q => XS.aloadN S118.here hx rfl (hb hby e4_23) rfl rfl q) ?_
  refine w_apf S118 d119 (i := 0) (fi := 3) hown (hwi hw 39 rfl) rfl (fn rfl (fn rfl (fn rfl hF3))) (Or.inr ⟨(hwi hw 40 rfl), rfl, hnm⟩) (hwi hw 10 rfl) (ty := (.object "com/example/ookayama/ookayama/EdgeEnds")) (by decide) rfl rfl rfl rfl (hb hby e4_24) ?_
  intro T120 h121 S122 d123
  show WGo _ _ _ _ _ _ _ _ T120 (mkF m 27 #[.val (.ref a1), .val (.ref a2), .unset, .unset] [])
  refine WGo.st (fun _ q => XS.aloadN S122.here hx rfl (hb hby e4_27) rfl rfl q) ?_
  refine WGo.st (fun _ q => XS.aloadN S122.here hx rfl (hb hby e4_28) rfl rfl q) ?_
  refine w_virtual S122 (y := (⟨"com/example/ookayama/ookayama/EdgeEnds", "vertexCount", "()I"⟩ : MethodName)) hown (hwi hw 41 rfl) (hwi hw 42 rfl) (hwi hw 44 rfl) (hwi hw 43 rfl) (hwi hw 14 rfl) (hwi hw 45 rfl) (by decide) (HS.obj d123 (i := 1) rfl) (rm_Vc l Z a0 hw n0 h121 a2 aF (G) nf V2 S122.ge (hG1) (HS.pw d123 [1, 3] (by decide) rfl rfl) _ _ hf) (W := 1) (by decide) (by decide) (by decide) (by decide) rfl (by rw [hml]; rfl) (argsL := []) (rest := [(.ref a1)]) (ps := []) (rt := (some .int)) (by decide) rfl rfl rfl (by show 2 * 0 + _ ≤ _; exact Nat.le_of_eq rfl) (hb hby e4_29) ?_
  intro T124 h126 w127 S125 q128
  obtain ⟨y131, rfl, d129, hf⟩ := q128
  have d130 : HS Z a0 n0 h0 [a1, a2, aV, aF, aE, aN] h126 [ob a1 cA ((((F.set 0 ("mergeStack", "[I", (.ref a103))).set 1 ("failedAt", "I", (.int (E 63)))).set 2 ("failedDescendant", "I", (.int (E 63)))).set 3 ("ends", "Lcom/example/ookayama/ookayama/EdgeEnds;", (.ref a2))), ob a2 cE G, ia aV 70 V1, ia aF nf V2, ia aE 70 V3, ia aN 70 V4, ia a103 80 AZ] := HS.call d123 [1, 3] [ob a2 cE G, ia aF nf V2] [ob a2 cE G, ia aF nf V2] [] (by decide) rfl rfl d129
  show WGo _ _ _ _ _ _ _ _ T124 (mkF m 32 #[.val (.ref a1), .val (.ref a2), .unset, .unset] [(.int (E y131)), (.ref a1)])
  refine w_apf S125 d130 (i := 0) (fi := 4) hown (hwi hw 46 rfl) rfl (fn rfl (fn rfl (fn rfl (fn rfl hF4)))) (Or.inr ⟨(hwi hw 47 rfl), rfl, hnm⟩) (hwi hw 10 rfl) (ty := .int) (by decide) rfl rfl rfl rfl (hb hby e4_32) ?_
  intro T132 h133 S134 d135
  have d136 : HS Z a0 n0 h0 [a1, a2, aV, aF, aE, aN] h133 [ob a1 cA (((((F.set 0 ("mergeStack", "[I", (.ref a103))).set 1 ("failedAt", "I", (.int (E 63)))).set 2 ("failedDescendant", "I", (.int (E 63)))).set 3 ("ends", "Lcom/example/ookayama/ookayama/EdgeEnds;", (.ref a2))).set 4 ("n", "I", (.int (E y131)))), ob a2 cE G, ia aV 70 V1, ia aF nf V2, ia aE 70 V3, ia aN 70 V4, ia a103 80 AZ] := d135
  show WGo _ _ _ _ _ _ _ _ T132 (mkF m 35 #[.val (.ref a1), .val (.ref a2), .unset, .unset] [])
  refine WGo.st (fun _ q => XS.aloadN S134.here hx rfl (hb hby e4_35) rfl rfl q) ?_
  refine w_virtual S134 (y := (⟨"com/example/ookayama/ookayama/EdgeEnds", "edgeCount", "()I"⟩ : MethodName)) hown (hwi hw 48 rfl) (hwi hw 49 rfl) (hwi hw 51 rfl) (hwi hw 50 rfl) (hwi hw 14 rfl) (hwi hw 52 rfl) (by decide) (HS.obj d136 (i := 1) rfl) (rm_Ec l Z a0 hw n0 h133 a2 aV (G) V1 S134.ge (hG0) (HS.pw d136 [1, 2] (by decide) rfl rfl) _ _ hf) (W := 0) (by decide) (by decide) (by decide) (by decide) rfl (by rw [hml]; rfl) (argsL := []) (rest := []) (ps := []) (rt := (some .int)) (by decide) rfl rfl rfl (by show 2 * 0 + _ ≤ _; exact Nat.le_of_eq rfl) (hb hby e4_36) ?_
  intro T137 h139 w140 S138 q141
  obtain ⟨rfl, d142, hf⟩ := q141
  have d143 : HS Z a0 n0 h0 [a1, a2, aV, aF, aE, aN] h139 [ob a1 cA (((((F.set 0 ("mergeStack", "[I", (.ref a103))).set 1 ("failedAt", "I", (.int (E 63)))).set 2 ("failedDescendant", "I", (.int (E 63)))).set 3 ("ends", "Lcom/example/ookayama/ookayama/EdgeEnds;", (.ref a2))).set 4 ("n", "I", (.int (E y131)))), ob a2 cE G, ia aV 70 V1, ia aF nf V2, ia aE 70 V3, ia aN 70 V4, ia a103 80 AZ] := HS.call d136 [1, 2] [ob a2 cE G, ia aV 70 V1] [ob a2 cE G, ia aV 70 V1] [] (by decide) rfl rfl d142
  show WGo _ _ _ _ _ _ _ _ T137 (mkF m 39 #[.val (.ref a1), .val (.ref a2), .unset, .unset] [(.int (E 67))])
  refine WGo.st (fun _ q => XS.istoreN S138.here hx rfl (hb hby e4_39) rfl (l' := #[.val (.ref a1), .val (.ref a2), .val (.int (E 67)), .unset]) rfl q) ?_
  show WGo _ _ _ _ _ _ _ _ T137 (mkF m 40 #[.val (.ref a1), .val (.ref a2), .val (.int (E 67)), .unset] [])
  refine WGo.st (fun _ q => XS.aloadN S138.here hx rfl (hb hby e4_40) rfl rfl q) ?_
  refine WGo.st (fun _ q => XS.aloadN S138.here hx rfl (hb hby e4_41) rfl rfl q) ?_
  refine w_static S138 (y := (⟨"com/example/ookayama/ookayama/EdgeAddition", "representatives", "(Lcom/example/ookayama/ookayama/EdgeEnds;)[I"⟩ : MethodName)) hown (hwi hw 53 rfl) (hwi hw 54 rfl) (hwi hw 11 rfl) (hwi hw 55 rfl) (by decide) (rm_Rp l Z a0 hw n0 h139 a2 aV aF aE aN (G) V1 nf V2 V3 V4 S138.ge (hG0) (hG1) (hG2) (hG3) (HS.pw d143 [1, 2, 3, 4, 5] (by decide) rfl rfl) _ _ hf) (W := 1) (by decide) (by decide) (by decide) (by decide) rfl (by rw [hml]; rfl) (argsL := [(.ref a2)]) (rest := [(.ref a1)]) (ps := [(.object "com/example/ookayama/ookayama/EdgeEnds")]) (rt := (some (.array .int))) (by decide) rfl rfl rfl (by show 2 * 0 + _ ≤ _; exact Nat.le_of_eq rfl) (hb hby e4_42) ?_
  intro T144 h146 w147 S145 q148
  obtain ⟨a152, y151, rfl, d149, hf⟩ := q148
  have d150 : HS Z a0 n0 h0 [a1, a2, aV, aF, aE, aN] h146 [ob a1 cA (((((F.set 0 ("mergeStack", "[I", (.ref a103))).set 1 ("failedAt", "I", (.int (E 63)))).set 2 ("failedDescendant", "I", (.int (E 63)))).set 3 ("ends", "Lcom/example/ookayama/ookayama/EdgeEnds;", (.ref a2))).set 4 ("n", "I", (.int (E y131)))), ob a2 cE G, ia aV 70 V1, ia aF nf V2, ia aE 70 V3, ia aN 70 V4, ia a103 80 AZ, ia a152 67 y151] := HS.call d143 [1, 2, 3, 4, 5] [ob a2 cE G, ia aV 70 V1, ia aF nf V2, ia aE 70 V3, ia aN 70 V4] [ob a2 cE G, ia aV 70 V1, ia aF nf V2, ia aE 70 V3, ia aN 70 V4] [ia a152 67 y151] (by decide) rfl rfl d149
  show WGo _ _ _ _ _ _ _ _ T144 (mkF m 45 #[.val (.ref a1), .val (.ref a2), .val (.int (E 67)), .unset] [(.ref a152), (.ref a1)])
  refine w_apf S145 d150 (i := 0) (fi := 5) hown (hwi hw 76 rfl) rfl (fn rfl (fn rfl (fn rfl (fn rfl (fn rfl hF5))))) (Or.inr ⟨(hwi hw 77 rfl), rfl, hnm⟩) (hwi hw 10 rfl) (ty := (.array .int)) (by decide) rfl rfl rfl rfl (hb hby e4_45) ?_
  intro T153 h154 S155 d156
  show WGo _ _ _ _ _ _ _ _ T153 (mkF m 48 #[.val (.ref a1), .val (.ref a2), .val (.int (E 67)), .unset] [])
  refine WGo.st (fun _ q => XS.aloadN S155.here hx rfl (hb hby e4_48) rfl rfl q) ?_
  refine WGo.st (fun _ q => XS.aloadN S155.here hx rfl (hb hby e4_49) rfl rfl q) ?_
  refine w_agf S155 d156 (i := 0) (fi := 5) hown (hwi hw 76 rfl) rfl (fset_eq (fn rfl (fn rfl (fn rfl (fn rfl (fn rfl hF5)))))) rfl rfl (hb hby e4_50) ?_
  intro T157 S158
  show WGo _ _ _ _ _ _ _ _ T157 (mkF m 53 #[.val (.ref a1), .val (.ref a2), .val (.int (E 67)), .unset] [(.ref a152), (.ref a1)])
  refine w_static S158 (y := (⟨"com/example/ookayama/ookayama/EdgeAddition", "hasCopies", "([I)Z"⟩ : MethodName)) hown (hwi hw 78 rfl) (hwi hw 79 rfl) (hwi hw 11 rfl) (hwi hw 80 rfl) (by decide) (rm_Hc l Z a0 hw n0 h154 a152 y151 S158.ge  (HS.pw d156 [7] (by decide) rfl rfl) _ _ hf) (W := 1) (by decide) (by decide) (by decide) (by decide) rfl (by rw [hml]; rfl) (argsL := [(.ref a152)]) (rest := [(.ref a1)]) (ps := [(.array .int)]) (rt := (some .boolean)) (by decide) rfl rfl rfl (by show 2 * 0 + _ ≤ _; exact Nat.le_of_eq rfl) (hb hby e4_53) ?_
  intro T159 h161 w162 S160 q163
  obtain ⟨y166, rfl, d164, hf⟩ := q163
  have d165 : HS Z a0 n0 h0 [a1, a2, aV, aF, aE, aN] h161 [ob a1 cA ((((((F.set 0 ("mergeStack", "[I", (.ref a103))).set 1 ("failedAt", "I", (.int (E 63)))).set 2 ("failedDescendant", "I", (.int (E 63)))).set 3 ("ends", "Lcom/example/ookayama/ookayama/EdgeEnds;", (.ref a2))).set 4 ("n", "I", (.int (E y131)))).set 5 ("representative", "[I", (.ref a152))), ob a2 cE G, ia aV 70 V1, ia aF nf V2, ia aE 70 V3, ia aN 70 V4, ia a103 80 AZ, ia a152 67 y151] := HS.call d156 [7] [ia a152 67 y151] [ia a152 67 y151] [] (by decide) rfl rfl d164
  show WGo _ _ _ _ _ _ _ _ T159 (mkF m 56 #[.val (.ref a1), .val (.ref a2), .val (.int (E 67)), .unset] [(.int (E y166)), (.ref a1)])
  obtain ⟨hbz, hf⟩ := boolN_some hf
  refine w_apf S160 d165 (i := 0) (fi := 6) hown (hwi hw 81 rfl) rfl (fn rfl (fn rfl (fn rfl (fn rfl (fn rfl (fn rfl hF6)))))) (Or.inr ⟨(hwi hw 82 rfl), rfl, hnm⟩) (hwi hw 10 rfl) (ty := .boolean) (by decide) (by rcases hbz with q | q <;> rw [q] <;> rfl) (by rcases hbz with q | q <;> rw [q] <;> rfl) rfl rfl (hb hby e4_56) ?_
  intro T167 h168 S169 d170
  show WGo _ _ _ _ _ _ _ _ T167 (mkF m 59 #[.val (.ref a1), .val (.ref a2), .val (.int (E 67)), .unset] [])
  have d649 : HS Z a0 n0 h0 [a1, a2, aV, aF, aE, aN] h168 [ob a1 cA (((((((F.set 0 ("mergeStack", "[I", (.ref a103))).set 1 ("failedAt", "I", (.int (E 63)))).set 2 ("failedDescendant", "I", (.int (E 63)))).set 3 ("ends", "Lcom/example/ookayama/ookayama/EdgeEnds;", (.ref a2))).set 4 ("n", "I", (.int (E y131)))).set 5 ("representative", "[I", (.ref a152))).set 6 ("hasCopies", "Z", (.int (E y166)))), ob a2 cE G, ia aV 70 V1, ia aF nf V2, ia aE 70 V3, ia aN 70 V4, ia a152 67 y151] := HS.sel d170 [0, 1, 2, 3, 4, 5, 7] _ (by decide) rfl
  exact hC59 T167 h168 a152 _ y131 y151 y166 S169 d649 (fn rfl (fn rfl (fn rfl (fset_eq (fn rfl (fn rfl (fn rfl hF3))))))) (fn rfl (fn rfl (fset_eq (fn rfl (fn rfl (fn rfl (fn rfl hF4))))))) (fn rfl (fset_eq (fn rfl (fn rfl (fn rfl (fn rfl (fn rfl hF5))))))) (fset_eq (fn rfl (fn rfl (fn rfl (fn rfl (fn rfl (fn rfl hF6))))))) (fn rfl (fn rfl (fn rfl (fn rfl (fn rfl (fn rfl (fn rfl hF7))))))) (fn rfl (fn rfl (fn rfl (fn rfl (fn rfl (fn rfl (fn rfl hF8))))))) (fn rfl (fn rfl (fn rfl (fn rfl (fn rfl (fn rfl (fn rfl hF9))))))) (fn rfl (fn rfl (fn rfl (fn rfl (fn rfl (fn rfl (fn rfl hF10))))))) (fn rfl (fn rfl (fn rfl (fn rfl (fn rfl (fn rfl (fn rfl hF11))))))) (fn rfl (fn rfl (fn rfl (fn rfl (fn rfl (fn rfl (fn rfl hF12))))))) (fn rfl (fn rfl (fn rfl (fn rfl (fn rfl (fn rfl (fn rfl hF13))))))) (fn rfl (fn rfl (fn rfl (fn rfl (fn rfl (fn rfl (fn rfl hF14))))))) (fn rfl (fn rfl (fn rfl (fn rfl (fn rfl (fn rfl (fn rfl hF15))))))) (fn rfl (fn rfl (fn rfl (fn rfl (fn rfl (fn rfl (fn rfl hF16))))))) (fn rfl (fn rfl (fn rfl (fn rfl (fn rfl (fn rfl (fn rfl hF17))))))) (fn rfl (fn rfl (fn rfl (fn rfl (fn rfl (fn rfl (fn rfl hF18))))))) (fn rfl (fn rfl (fn rfl (fn rfl (fn rfl (fn rfl (fn rfl hF19))))))) (fn rfl (fn rfl (fn rfl (fn rfl (fn rfl (fn rfl (fn rfl hF20))))))) (fn rfl (fn rfl (fn rfl (fn rfl (fn rfl (fn rfl (fn rfl hF21))))))) (fn rfl (fn rfl (fn rfl (fn rfl (fn rfl (fn rfl (fn rfl hF22))))))) (fn rfl (fn rfl (fn rfl (fn rfl (fn rfl (fn rfl (fn rfl hF23))))))) (fn rfl (fn rfl (fn rfl (fn rfl (fn rfl (fn rfl (fn rfl hF24))))))) (fn rfl (fn rfl (fn rfl (fn rfl (fn rfl (fn rfl (fn rfl hF25))))))) (fn rfl (fn rfl (fn rfl (fn rfl (fn rfl (fn rfl (fn rfl hF26))))))) (fn rfl (fn rfl (fn rfl (fn rfl (fn rfl (fn rfl (fn rfl hF27))))))) (fn rfl (fn rfl (fn rfl (fn rfl (fn rfl (fn rfl (fn rfl hF28))))))) (fn rfl (fn rfl (fn rfl (fn rfl (fn rfl (fn rfl (fn rfl hF29))))))) (fn rfl (fn rfl (fn rfl (fn rfl (fn rfl (fn rfl (fn rfl hF30))))))) (fn rfl (fn rfl (fn rfl (fn rfl (fn rfl (fn rfl (fn rfl hF31))))))) (fn rfl (fn rfl (fn rfl (fn rfl (fn rfl (fn rfl (fn rfl hF32))))))) (fn rfl (fn rfl (fn rfl (fn rfl (fn rfl (fn rfl (fn rfl hF33))))))) (fn rfl (fn rfl (fn rfl (fn rfl (fn rfl (fn rfl (fn rfl hF34))))))) (fn rfl (fn rfl (fn rfl (fn rfl (fn rfl (fn rfl (fn rfl hF35))))))) hf
def fLw (nn At : Nat) : Option Nat := capN 68 4 (wrN AZ 68 64 64 fun A106 => (wrN A106 68 65 65 fun A111 => (wrN A111 68 66 66 fun A116 => (wrN A116 68 67 67 fun A121 => (rdN At 70 64 fun x126 => (rdN At 70 65 fun x127 => (fRx A121 x126 x127 fun y135 => (rdN At 70 66 fun x136 => (rdN At 70 67 fun x137 => (fRx y135 x136 x137 fun y145 => (rdN At 70 68 fun x146 => (rdN At 70 69 fun x147 => (fRx y145 x146 x147 fun y155 => (rdN At 70 64 fun x156 => (rdN At 70 65 fun x157 => (fRx y155 x156 x157 fun y165 => (rdN At 70 66 fun x166 => (rdN At 70 67 fun x167 => (fRx y165 x166 x167 fun y175 => (rdN At 70 68 fun x176 => (rdN At 70 69 fun x177 => (fRx y175 x176 x177 fun y185 => (rdN At 70 64 fun x186 => (rdN At 70 65 fun x187 => (fRx y185 x186 x187 fun y195 => (rdN At 70 66 fun x196 => (rdN At 70 67 fun x197 => (fRx y195 x196 x197 fun y205 => (rdN At 70 68 fun x206 => (rdN At 70 69 fun x207 => (fRx y205 x206 x207 fun y215 => (capN 68 4 (rdN y215 68 64 fun x221 => (jn (fun (i226 : Nat) (A227 : Nat) => (jn (fun (i232 : Nat) (A233 : Nat) => (jn (fun (i238 : Nat) (A239 : Nat) => (jn (fun (i244 : Nat) (A245 : Nat) => (fEi nn At fun y263 y264 y265 y266 => (fAi y266 At y263 y264 y265 fun y277 y278 y279 => (fSr y277 y278 y279 fun y289 y290 => (capN y290 1000 (eqN y290 i244 (jn (fun (i296 : Nat) => (jn (fun (i301 : Nat) => (jn (fun (i306 : Nat) => (jn (fun (i311 : Nat) => (some i311 : Option Nat)) fun (Kj469 : Nat → Option Nat) => (ltN 67 i244 (eqN i306 64 (Kj469 64) (rdN y289 y290 67 fun x312 => (rdN A245 68 67 fun x313 => (eqN x312 x313 (Kj469 65) (Kj469 64))))) (Kj469 i306)) : Option Nat)) fun (Kj440 : Nat → Option Nat) => (ltN 66 i244 (eqN i301 64 (Kj440 64) (rdN y289 y290 66 fun x314 => (rdN A245 68 66 fun x315 => (eqN x314 x315 (Kj440 65) (Kj440 64))))) (Kj440 i301)) : Option Nat)) fun (Kj411 : Nat → Option Nat) => (ltN 65 i244 (eqN i296 64 (Kj411 64) (rdN y289 y290 65 fun x316 => (rdN A245 68 65 fun x317 => (eqN x316 x317 (Kj411 65) (Kj411 64))))) (Kj411 i296)) : Option Nat)) fun (Kj382 : Nat → Option Nat) => (ltN 64 i244 (rdN y289 y290 64 fun x318 => (rdN A245 68 64 fun x319 => (eqN x318 x319 (Kj382 65) (Kj382 64)))) (Kj382 65))) (some 64))))) : Option Nat)) fun (Kj314 : Nat → Nat → Option Nat) => (ltN 67 nn (rdN y215 68 67 fun x320 => (eqN x320 67 (wrN A239 68 i238 67 fun A321 => (addN i238 65 fun z326 => (Kj314 z326 A321))) (Kj314 i238 A239))) (Kj314 i238 A239)) : Option Nat)) fun (Kj291 : Nat → Nat → Option Nat) => (ltN 66 nn (rdN y215 68 66 fun x327 => (eqN x327 66 (wrN A233 68 i232 66 fun A328 => (addN i232 65 fun z333 => (Kj291 z333 A328))) (Kj291 i232 A233))) (Kj291 i232 A233)) : Option Nat)) fun (Kj268 : Nat → Nat → Option Nat) => (ltN 65 nn (rdN y215 68 65 fun x334 => (eqN x334 65 (wrN A227 68 i226 65 fun A335 => (addN i226 65 fun z340 => (Kj268 z340 A335))) (Kj268 i226 A227))) (Kj268 i226 A227)) : Option Nat)) fun (Kj245 : Nat → Nat → Option Nat) => (eqN x221 64 (wrN AZ 68 64 64 fun A341 => (addN 64 65 fun z346 => (Kj245 z346 A341))) (Kj245 64 AZ))))))))))))))))))))))))))))))))))))
def bt (n k : Nat) (f : Nat → Bool) : Bool := (List.range n).all fun i => f (i + k)
theorem bt_get {n k : Nat} {f : Nat → Bool} (h : bt n k f = true) {x : Nat} (h0 : k ≤ x) (h1 : x < n + k) : f x = true := by
  have := List.all_eq_true.mp h (x - k) (List.mem_range.mpr (by omega))
  rwa [show x - k + k = x from by omega] at this
def okL (nn At : Nat) : Bool := match fLw nn At with | some x => Nat.beq x 65 | none => false
theorem okL_get {nn At : Nat} (h : okL nn At = true) : fLw nn At = some 65 := by
  unfold okL at h
  split at h
  · rename_i x e; rw [e, beq_iff.mp h]
  · cases h
set_option maxRecDepth 1000000 in
theorem br_1 : (bt 1 64 fun a => bt 1 64 fun b => bt 1 64 fun c => bt 1 64 fun d => bt 1 64 fun e => bt 1 64 fun f => okL 65 (pk a b c d e f)) = true := by decide +kernel
set_option maxRecDepth 1000000 in
theorem br_2 : (bt 2 64 fun a => bt 2 64 fun b => bt 2 64 fun c => bt 2 64 fun d => bt 2 64 fun e => bt 2 64 fun f => okL 66 (pk a b c d e f)) = true := by decide +kernel
set_option maxRecDepth 1000000 in
theorem br_3 : (bt 3 64 fun a => bt 3 64 fun b => bt 3 64 fun c => bt 3 64 fun d => bt 3 64 fun e => bt 3 64 fun f => okL 67 (pk a b c d e f)) = true := by decide +kernel
set_option maxRecDepth 1000000 in
theorem br_4_0_0 : (bt 4 64 fun c => bt 4 64 fun d => bt 4 64 fun e => bt 4 64 fun f => okL 68 (pk 64 64 c d e f)) = true := by decide +kernel
set_option maxRecDepth 1000000 in
theorem br_4_0_1 : (bt 4 64 fun c => bt 4 64 fun d => bt 4 64 fun e => bt 4 64 fun f => okL 68 (pk 64 65 c d e f)) = true := by decide +kernel
set_option maxRecDepth 1000000 in
theorem br_4_0_2 : (bt 4 64 fun c => bt 4 64 fun d => bt 4 64 fun e => bt 4 64 fun f => okL 68 (pk 64 66 c d e f)) = true := by decide +kernel
set_option maxRecDepth 1000000 in
theorem br_4_0_3 : (bt 4 64 fun c => bt 4 64 fun d => bt 4 64 fun e => bt 4 64 fun f => okL 68 (pk 64 67 c d e f)) = true := by decide +kernel
set_option maxRecDepth 1000000 in
theorem br_4_1_0 : (bt 4 64 fun c => bt 4 64 fun d => bt 4 64 fun e => bt 4 64 fun f => okL 68 (pk 65 64 c d e f)) = true := by decide +kernel
set_option maxRecDepth 1000000 in
theorem br_4_1_1 : (bt 4 64 fun c => bt 4 64 fun d => bt 4 64 fun e => bt 4 64 fun f => okL 68 (pk 65 65 c d e f)) = true := by decide +kernel
set_option maxRecDepth 1000000 in
theorem br_4_1_2 : (bt 4 64 fun c => bt 4 64 fun d => bt 4 64 fun e => bt 4 64 fun f => okL 68 (pk 65 66 c d e f)) = true := by decide +kernel
set_option maxRecDepth 1000000 in
theorem br_4_1_3 : (bt 4 64 fun c => bt 4 64 fun d => bt 4 64 fun e => bt 4 64 fun f => okL 68 (pk 65 67 c d e f)) = true := by decide +kernel
set_option maxRecDepth 1000000 in
theorem br_4_2_0 : (bt 4 64 fun c => bt 4 64 fun d => bt 4 64 fun e => bt 4 64 fun f => okL 68 (pk 66 64 c d e f)) = true := by decide +kernel
set_option maxRecDepth 1000000 in
theorem br_4_2_1 : (bt 4 64 fun c => bt 4 64 fun d => bt 4 64 fun e => bt 4 64 fun f => okL 68 (pk 66 65 c d e f)) = true := by decide +kernel
set_option maxRecDepth 1000000 in
theorem br_4_2_2 : (bt 4 64 fun c => bt 4 64 fun d => bt 4 64 fun e => bt 4 64 fun f => okL 68 (pk 66 66 c d e f)) = true := by decide +kernel
set_option maxRecDepth 1000000 in
theorem br_4_2_3 : (bt 4 64 fun c => bt 4 64 fun d => bt 4 64 fun e => bt 4 64 fun f => okL 68 (pk 66 67 c d e f)) = true := by decide +kernel
set_option maxRecDepth 1000000 in
theorem br_4_3_0 : (bt 4 64 fun c => bt 4 64 fun d => bt 4 64 fun e => bt 4 64 fun f => okL 68 (pk 67 64 c d e f)) = true := by decide +kernel
set_option maxRecDepth 1000000 in
theorem br_4_3_1 : (bt 4 64 fun c => bt 4 64 fun d => bt 4 64 fun e => bt 4 64 fun f => okL 68 (pk 67 65 c d e f)) = true := by decide +kernel
set_option maxRecDepth 1000000 in
theorem br_4_3_2 : (bt 4 64 fun c => bt 4 64 fun d => bt 4 64 fun e => bt 4 64 fun f => okL 68 (pk 67 66 c d e f)) = true := by decide +kernel
set_option maxRecDepth 1000000 in
theorem br_4_3_3 : (bt 4 64 fun c => bt 4 64 fun d => bt 4 64 fun e => bt 4 64 fun f => okL 68 (pk 67 67 c d e f)) = true := by decide +kernel
theorem brute (nn a b c d e f : Nat) (n1 : 65 ≤ nn) (n2 : nn < 69) (a1 : 64 ≤ a) (a2 : a < nn) (b1 : 64 ≤ b) (b2 : b < nn) (c1 : 64 ≤ c) (c2 : c < nn) (d1 : 64 ≤ d) (d2 : d < nn) (e1 : 64 ≤ e) (e2 : e < nn) (f1 : 64 ≤ f) (f2 : f < nn) : fLw nn (pk a b c d e f) = some 65 := by
  have hn : nn = 65 ∨ nn = 66 ∨ nn = 67 ∨ nn = 68 := by omega
  apply okL_get
  rcases hn with rfl | rfl | rfl | rfl
  · exact bt_get (bt_get (bt_get (bt_get (bt_get (bt_get br_1 a1 (by omega)) b1 (by omega)) c1 (by omega)) d1 (by omega)) e1 (by omega)) f1 (by omega)
  · exact bt_get (bt_get (bt_get (bt_get (bt_get (bt_get br_2 a1 (by omega)) b1 (by omega)) c1 (by omega)) d1 (by omega)) e1 (by omega)) f1 (by omega)
  · exact bt_get (bt_get (bt_get (bt_get (bt_get (bt_get br_3 a1 (by omega)) b1 (by omega)) c1 (by omega)) d1 (by omega)) e1 (by omega)) f1 (by omega)
  · have ha : a = 64 ∨ a = 65 ∨ a = 66 ∨ a = 67 := by omega
    have hb : b = 64 ∨ b = 65 ∨ b = 66 ∨ b = 67 := by omega
    rcases ha with rfl | rfl | rfl | rfl <;> rcases hb with rfl | rfl | rfl | rfl
    · exact bt_get (bt_get (bt_get (bt_get br_4_0_0 c1 (by omega)) d1 (by omega)) e1 (by omega)) f1 (by omega)
    · exact bt_get (bt_get (bt_get (bt_get br_4_0_1 c1 (by omega)) d1 (by omega)) e1 (by omega)) f1 (by omega)
    · exact bt_get (bt_get (bt_get (bt_get br_4_0_2 c1 (by omega)) d1 (by omega)) e1 (by omega)) f1 (by omega)
    · exact bt_get (bt_get (bt_get (bt_get br_4_0_3 c1 (by omega)) d1 (by omega)) e1 (by omega)) f1 (by omega)
    · exact bt_get (bt_get (bt_get (bt_get br_4_1_0 c1 (by omega)) d1 (by omega)) e1 (by omega)) f1 (by omega)
    · exact bt_get (bt_get (bt_get (bt_get br_4_1_1 c1 (by omega)) d1 (by omega)) e1 (by omega)) f1 (by omega)
    · exact bt_get (bt_get (bt_get (bt_get br_4_1_2 c1 (by omega)) d1 (by omega)) e1 (by omega)) f1 (by omega)
    · exact bt_get (bt_get (bt_get (bt_get br_4_1_3 c1 (by omega)) d1 (by omega)) e1 (by omega)) f1 (by omega)
    · exact bt_get (bt_get (bt_get (bt_get br_4_2_0 c1 (by omega)) d1 (by omega)) e1 (by omega)) f1 (by omega)
    · exact bt_get (bt_get (bt_get (bt_get br_4_2_1 c1 (by omega)) d1 (by omega)) e1 (by omega)) f1 (by omega)
    · exact bt_get (bt_get (bt_get (bt_get br_4_2_2 c1 (by omega)) d1 (by omega)) e1 (by omega)) f1 (by omega)
    · exact bt_get (bt_get (bt_get (bt_get br_4_2_3 c1 (by omega)) d1 (by omega)) e1 (by omega)) f1 (by omega)
    · exact bt_get (bt_get (bt_get (bt_get br_4_3_0 c1 (by omega)) d1 (by omega)) e1 (by omega)) f1 (by omega)
    · exact bt_get (bt_get (bt_get (bt_get br_4_3_1 c1 (by omega)) d1 (by omega)) e1 (by omega)) f1 (by omega)
    · exact bt_get (bt_get (bt_get (bt_get br_4_3_2 c1 (by omega)) d1 (by omega)) e1 (by omega)) f1 (by omega)
    · exact bt_get (bt_get (bt_get (bt_get br_4_3_3 c1 (by omega)) d1 (by omega)) e1 (by omega)) f1 (by omega)

def Q0 (Z : State) (n0 : Nat) (h0 : Heap) (p1 : Int32) (p2 : Int32) (p3 : Int32) (p4 : Int32) (v : Option Value) (h : Heap) : Prop := v = some (.int 1)
theorem ef_0 (m : MethodId) (p1 : Int32) (p2 : Int32) (p3 : Int32) (p4 : Int32) : entryFrame m #[(.int p1), (.int p2), (.int p3), (.int p4)] maxLocals = mkF m 0 #[.val (.int p1), .val (.int p2), .val (.int p3), .val (.int p4), .unset, .unset, .unset, .unset, .unset, .unset, .unset, .unset] [] := by first | (simp [entryFrame, mkF, argsToLocals, Value.category, maxLocals]; done) | rfl
set_option maxRecDepth 65536 in
set_option maxHeartbeats 40000000 in
theorem rm_0 (l : Launch) (Z : State) (a0 : Array Value) (hw : ∀ d ∈ tables_1, d.before a0 Z = true) (n0 : Nat) (h0 : Heap) (p1 : Int32) (p2 : Int32) (p3 : Int32) (p4 : Int32) (Z0 : n0 ≤ h0.size)  :
    WCon l Z n0 h0 x code maxLocals ret tables_1 room_1 #[(.int p1), (.int p2), (.int p3), (.int p4)] (Q0 Z n0 h0 p1 p2 p3 p4) := by
  refine WCon.of (by first | exact plainFor_of_name (by decide +kernel) | decide +kernel) Z0 ?_
  intro p e s m below meth c T hx hZ hby hml hown hnm hret S
  refine WGo.cast (ef_0 m p1 p2 p3 p4) ?_
  show WGo _ _ _ _ _ _ _ _ T (mkF m 0 #[.val (.int p1), .val (.int p2), .val (.int p3), .val (.int p4), .unset, .unset, .unset, .unset, .unset, .unset, .unset, .unset] [])
  refine WGo.st (fun _ q => XS.iconst S.here hx rfl (hb hby at_0) q) ?_
  show WGo _ _ _ _ _ _ _ _ T (mkF m 1 #[.val (.int p1), .val (.int p2), .val (.int p3), .val (.int p4), .unset, .unset, .unset, .unset, .unset, .unset, .unset, .unset] [(.int (1 : Int32))])
  refine WGo.st (fun _ q => XS.iloadN S.here hx rfl (hb hby at_1) rfl q) ?_
  show WGo _ _ _ _ _ _ _ _ T (mkF m 2 #[.val (.int p1), .val (.int p2), .val (.int p3), .val (.int p4), .unset, .unset, .unset, .unset, .unset, .unset, .unset, .unset] [(.int p1), (.int (1 : Int32))])
  refine WGo.st (fun _ q => XS.iconst S.here hx rfl (hb hby at_2) q) ?_
  show WGo _ _ _ _ _ _ _ _ T (mkF m 3 #[.val (.int p1), .val (.int p2), .val (.int p3), .val (.int p4), .unset, .unset, .unset, .unset, .unset, .unset, .unset, .unset] [(.int (3 : Int32)), (.int p1), (.int (1 : Int32))])
  refine WGo.st (fun _ q => XS.iand S.here hx rfl (hb hby at_3) rfl q) ?_
  show WGo _ _ _ _ _ _ _ _ T (mkF m 4 #[.val (.int p1), .val (.int p2), .val (.int p3), .val (.int p4), .unset, .unset, .unset, .unset, .unset, .unset, .unset, .unset] [(.int (p1 &&& (3 : Int32))), (.int (1 : Int32))])
  refine WGo.st (fun _ q => XS.iadd S.here hx rfl (hb hby at_4) rfl q) ?_
  show WGo _ _ _ _ _ _ _ _ T (mkF m 5 #[.val (.int p1), .val (.int p2), .val (.int p3), .val (.int p4), .unset, .unset, .unset, .unset, .unset, .unset, .unset, .unset] [(.int ((1 : Int32) + (p1 &&& (3 : Int32))))])
  refine WGo.st (fun _ q => XS.istore S.here hx rfl (hb hby at_5) rfl (l' := #[.val (.int p1), .val (.int p2), .val (.int p3), .val (.int p4), .val (.int ((1 : Int32) + (p1 &&& (3 : Int32)))), .unset, .unset, .unset, .unset, .unset, .unset, .unset]) rfl q) ?_
  show WGo _ _ _ _ _ _ _ _ T (mkF m 7 #[.val (.int p1), .val (.int p2), .val (.int p3), .val (.int p4), .val (.int ((1 : Int32) + (p1 &&& (3 : Int32)))), .unset, .unset, .unset, .unset, .unset, .unset, .unset] [])
  generalize hv5 : ((1 : Int32) + (p1 &&& (3 : Int32))) = v5
  show WGo _ _ _ _ _ _ _ _ T (mkF m 7 #[.val (.int p1), .val (.int p2), .val (.int p3), .val (.int p4), .val (.int v5), .unset, .unset, .unset, .unset, .unset, .unset, .unset] [])
  have hR : 1 ≤ v5.toInt ∧ v5.toInt ≤ 4 := by have mk := c_mask p1 3 2 (by decide) (by decide); have a := c_iadd 1 (p1 &&& 3); have z : (1 : Int32).toInt = 1 := (by decide); have r := rng32 (1 + (p1 &&& 3)); rw [← hv5]; omega
  have hnz : v5 ≠ 0 := fun q => by rw [q] at hR; exact absurd hR.1 (by decide)
  refine WGo.st (fun _ q => XS.bipush S.here hx rfl (hb hby at_7) q) ?_
  show WGo _ _ _ _ _ _ _ _ T (mkF m 9 #[.val (.int p1), .val (.int p2), .val (.int p3), .val (.int p4), .val (.int v5), .unset, .unset, .unset, .unset, .unset, .unset, .unset] [(.int (6 : Int32))])
  refine w_newarray S (hwi hw 0 rfl) rfl rfl (hb hby at_9) rfl (by decide) (cap := 6) (by decide) (by decide) (by decide) (by decide) (L := [(0 : Int32), (0 : Int32), (0 : Int32), (0 : Int32), (0 : Int32), (0 : Int32)]) rfl ?_
  intro T1 h2 aT S3 K4 e_aT g_aT A_aT
  show WGo _ _ _ _ _ _ _ _ T1 (mkF m 11 #[.val (.int p1), .val (.int p2), .val (.int p3), .val (.int p4), .val (.int v5), .unset, .unset, .unset, .unset, .unset, .unset, .unset] [(.ref aT)])
  refine WGo.st (fun _ q => XS.astore S3.here hx rfl (hb hby at_11) rfl rfl (l' := #[.val (.int p1), .val (.int p2), .val (.int p3), .val (.int p4), .val (.int v5), .val (.ref aT), .unset, .unset, .unset, .unset, .unset, .unset]) rfl q) ?_
  show WGo _ _ _ _ _ _ _ _ T1 (mkF m 13 #[.val (.int p1), .val (.int p2), .val (.int p3), .val (.int p4), .val (.int v5), .val (.ref aT), .unset, .unset, .unset, .unset, .unset, .unset] [])
  refine WGo.st (fun _ q => XS.aload S3.here hx rfl (hb hby at_13) rfl rfl q) ?_
  show WGo _ _ _ _ _ _ _ _ T1 (mkF m 15 #[.val (.int p1), .val (.int p2), .val (.int p3), .val (.int p4), .val (.int v5), .val (.ref aT), .unset, .unset, .unset, .unset, .unset, .unset] [(.ref aT)])
  refine WGo.st (fun _ q => XS.iconst S3.here hx rfl (hb hby at_15) q) ?_
  show WGo _ _ _ _ _ _ _ _ T1 (mkF m 16 #[.val (.int p1), .val (.int p2), .val (.int p3), .val (.int p4), .val (.int v5), .val (.ref aT), .unset, .unset, .unset, .unset, .unset, .unset] [(.int (0 : Int32)), (.ref aT)])
  refine WGo.st (fun _ q => XS.iloadN S3.here hx rfl (hb hby at_16) rfl q) ?_
  show WGo _ _ _ _ _ _ _ _ T1 (mkF m 17 #[.val (.int p1), .val (.int p2), .val (.int p3), .val (.int p4), .val (.int v5), .val (.ref aT), .unset, .unset, .unset, .unset, .unset, .unset] [(.int p2), (.int (0 : Int32)), (.ref aT)])
  refine WGo.st (fun _ q => XS.iconst S3.here hx rfl (hb hby at_17) q) ?_
  show WGo _ _ _ _ _ _ _ _ T1 (mkF m 18 #[.val (.int p1), .val (.int p2), .val (.int p3), .val (.int p4), .val (.int v5), .val (.ref aT), .unset, .unset, .unset, .unset, .unset, .unset] [(.int (3 : Int32)), (.int p2), (.int (0 : Int32)), (.ref aT)])
  refine WGo.st (fun _ q => XS.iand S3.here hx rfl (hb hby at_18) rfl q) ?_
  show WGo _ _ _ _ _ _ _ _ T1 (mkF m 19 #[.val (.int p1), .val (.int p2), .val (.int p3), .val (.int p4), .val (.int v5), .val (.ref aT), .unset, .unset, .unset, .unset, .unset, .unset] [(.int (p2 &&& (3 : Int32))), (.int (0 : Int32)), (.ref aT)])
  refine WGo.st (fun _ q => XS.iload S3.here hx rfl (hb hby at_19) rfl q) ?_
  show WGo _ _ _ _ _ _ _ _ T1 (mkF m 21 #[.val (.int p1), .val (.int p2), .val (.int p3), .val (.int p4), .val (.int v5), .val (.ref aT), .unset, .unset, .unset, .unset, .unset, .unset] [(.int v5), (.int (p2 &&& (3 : Int32))), (.int (0 : Int32)), (.ref aT)])
  refine w_irem S3 rfl (hb hby at_21) rfl hnz ?_
  show WGo _ _ _ _ _ _ _ _ T1 (mkF m 22 #[.val (.int p1), .val (.int p2), .val (.int p3), .val (.int p4), .val (.int v5), .val (.ref aT), .unset, .unset, .unset, .unset, .unset, .unset] [(.int ((p2 &&& (3 : Int32)) % v5)), (.int (0 : Int32)), (.ref aT)])
  obtain ⟨q22, hq22⟩ : ∃ z, z = ((p2 &&& (3 : Int32)) % v5) := ⟨_, rfl⟩
  rw [← hq22]
  have bq22 : 0 ≤ q22.toInt ∧ q22.toInt < v5.toInt := by rw [hq22]; refine rem_in _ _ ?_ (by omega); have mk := c_mask p2 3 2 (by decide) (by decide); omega
  show WGo _ _ _ _ _ _ _ _ T1 (mkF m 22 #[.val (.int p1), .val (.int p2), .val (.int p3), .val (.int p4), .val (.int v5), .val (.ref aT), .unset, .unset, .unset, .unset, .unset, .unset] [(.int q22), (.int (0 : Int32)), (.ref aT)])
  refine w_iastore S3 A_aT g_aT rfl (hb hby at_22) rfl (by decide) (by decide : (0 : Int32).toInt < ((6 : Nat) : Int)) (L' := [q22, (0 : Int32), (0 : Int32), (0 : Int32), (0 : Int32), (0 : Int32)]) rfl ?_
  intro T5 h6 S7 K8 A9
  show WGo _ _ _ _ _ _ _ _ T5 (mkF m 23 #[.val (.int p1), .val (.int p2), .val (.int p3), .val (.int p4), .val (.int v5), .val (.ref aT), .unset, .unset, .unset, .unset, .unset, .unset] [])
  refine WGo.st (fun _ q => XS.aload S7.here hx rfl (hb hby at_23) rfl rfl q) ?_
  show WGo _ _ _ _ _ _ _ _ T5 (mkF m 25 #[.val (.int p1), .val (.int p2), .val (.int p3), .val (.int p4), .val (.int v5), .val (.ref aT), .unset, .unset, .unset, .unset, .unset, .unset] [(.ref aT)])
  refine WGo.st (fun _ q => XS.iconst S7.here hx rfl (hb hby at_25) q) ?_
  show WGo _ _ _ _ _ _ _ _ T5 (mkF m 26 #[.val (.int p1), .val (.int p2), .val (.int p3), .val (.int p4), .val (.int v5), .val (.ref aT), .unset, .unset, .unset, .unset, .unset, .unset] [(.int (1 : Int32)), (.ref aT)])
  refine WGo.st (fun _ q => XS.iloadN S7.here hx rfl (hb hby at_26) rfl q) ?_
  show WGo _ _ _ _ _ _ _ _ T5 (mkF m 27 #[.val (.int p1), .val (.int p2), .val (.int p3), .val (.int p4), .val (.int v5), .val (.ref aT), .unset, .unset, .unset, .unset, .unset, .unset] [(.int p2), (.int (1 : Int32)), (.ref aT)])
  refine WGo.st (fun _ q => XS.iconst S7.here hx rfl (hb hby at_27) q) ?_
  show WGo _ _ _ _ _ _ _ _ T5 (mkF m 28 #[.val (.int p1), .val (.int p2), .val (.int p3), .val (.int p4), .val (.int v5), .val (.ref aT), .unset, .unset, .unset, .unset, .unset, .unset] [(.int (2 : Int32)), (.int p2), (.int (1 : Int32)), (.ref aT)])
  refine WGo.st (fun _ q => XS.iushr S7.here hx rfl (hb hby at_28) rfl q) ?_
  show WGo _ _ _ _ _ _ _ _ T5 (mkF m 29 #[.val (.int p1), .val (.int p2), .val (.int p3), .val (.int p4), .val (.int v5), .val (.ref aT), .unset, .unset, .unset, .unset, .unset, .unset] [(.int ((p2.toUInt32 >>> ((2 : Int32) &&& 31).toUInt32).toInt32)), (.int (1 : Int32)), (.ref aT)])
  refine WGo.st (fun _ q => XS.iconst S7.here hx rfl (hb hby at_29) q) ?_
  show WGo _ _ _ _ _ _ _ _ T5 (mkF m 30 #[.val (.int p1), .val (.int p2), .val (.int p3), .val (.int p4), .val (.int v5), .val (.ref aT), .unset, .unset, .unset, .unset, .unset, .unset] [(.int (3 : Int32)), (.int ((p2.toUInt32 >>> ((2 : Int32) &&& 31).toUInt32).toInt32)), (.int (1 : Int32)), (.ref aT)])
  refine WGo.st (fun _ q => XS.iand S7.here hx rfl (hb hby at_30) rfl q) ?_
  show WGo _ _ _ _ _ _ _ _ T5 (mkF m 31 #[.val (.int p1), .val (.int p2), .val (.int p3), .val (.int p4), .val (.int v5), .val (.ref aT), .unset, .unset, .unset, .unset, .unset, .unset] [(.int (((p2.toUInt32 >>> ((2 : Int32) &&& 31).toUInt32).toInt32) &&& (3 : Int32))), (.int (1 : Int32)), (.ref aT)])
  refine WGo.st (fun _ q => XS.iload S7.here hx rfl (hb hby at_31) rfl q) ?_
  show WGo _ _ _ _ _ _ _ _ T5 (mkF m 33 #[.val (.int p1), .val (.int p2), .val (.int p3), .val (.int p4), .val (.int v5), .val (.ref aT), .unset, .unset, .unset, .unset, .unset, .unset] [(.int v5), (.int (((p2.toUInt32 >>> ((2 : Int32) &&& 31).toUInt32).toInt32) &&& (3 : Int32))), (.int (1 : Int32)), (.ref aT)])
  refine w_irem S7 rfl (hb hby at_33) rfl hnz ?_
  show WGo _ _ _ _ _ _ _ _ T5 (mkF m 34 #[.val (.int p1), .val (.int p2), .val (.int p3), .val (.int p4), .val (.int v5), .val (.ref aT), .unset, .unset, .unset, .unset, .unset, .unset] [(.int ((((p2.toUInt32 >>> ((2 : Int32) &&& 31).toUInt32).toInt32) &&& (3 : Int32)) % v5)), (.int (1 : Int32)), (.ref aT)])
  obtain ⟨q34, hq34⟩ : ∃ z, z = ((((p2.toUInt32 >>> ((2 : Int32) &&& 31).toUInt32).toInt32) &&& (3 : Int32)) % v5) := ⟨_, rfl⟩
  rw [← hq34]
  have bq34 : 0 ≤ q34.toInt ∧ q34.toInt < v5.toInt := by rw [hq34]; refine rem_in _ _ ?_ (by omega); have mk := c_mask ((p2.toUInt32 >>> ((2 : Int32) &&& 31).toUInt32).toInt32) 3 2 (by decide) (by decide); omega
  show WGo _ _ _ _ _ _ _ _ T5 (mkF m 34 #[.val (.int p1), .val (.int p2), .val (.int p3), .val (.int p4), .val (.int v5), .val (.ref aT), .unset, .unset, .unset, .unset, .unset, .unset] [(.int q34), (.int (1 : Int32)), (.ref aT)])
  refine w_iastore S7 A9 g_aT rfl (hb hby at_34) rfl (by decide) (by decide : (1 : Int32).toInt < ((6 : Nat) : Int)) (L' := [q22, q34, (0 : Int32), (0 : Int32), (0 : Int32), (0 : Int32)]) rfl ?_
  intro T10 h11 S12 K13 A14
  show WGo _ _ _ _ _ _ _ _ T10 (mkF m 35 #[.val (.int p1), .val (.int p2), .val (.int p3), .val (.int p4), .val (.int v5), .val (.ref aT), .unset, .unset, .unset, .unset, .unset, .unset] [])
  refine WGo.st (fun _ q => XS.aload S12.here hx rfl (hb hby at_35) rfl rfl q) ?_
  show WGo _ _ _ _ _ _ _ _ T10 (mkF m 37 #[.val (.int p1), .val (.int p2), .val (.int p3), .val (.int p4), .val (.int v5), .val (.ref aT), .unset, .unset, .unset, .unset, .unset, .unset] [(.ref aT)])
  refine WGo.st (fun _ q => XS.iconst S12.here hx rfl (hb hby at_37) q) ?_
  show WGo _ _ _ _ _ _ _ _ T10 (mkF m 38 #[.val (.int p1), .val (.int p2), .val (.int p3), .val (.int p4), .val (.int v5), .val (.ref aT), .unset, .unset, .unset, .unset, .unset, .unset] [(.int (2 : Int32)), (.ref aT)])
  refine WGo.st (fun _ q => XS.iloadN S12.here hx rfl (hb hby at_38) rfl q) ?_
  show WGo _ _ _ _ _ _ _ _ T10 (mkF m 39 #[.val (.int p1), .val (.int p2), .val (.int p3), .val (.int p4), .val (.int v5), .val (.ref aT), .unset, .unset, .unset, .unset, .unset, .unset] [(.int p3), (.int (2 : Int32)), (.ref aT)])
  refine WGo.st (fun _ q => XS.iconst S12.here hx rfl (hb hby at_39) q) ?_
  show WGo _ _ _ _ _ _ _ _ T10 (mkF m 40 #[.val (.int p1), .val (.int p2), .val (.int p3), .val (.int p4), .val (.int v5), .val (.ref aT), .unset, .unset, .unset, .unset, .unset, .unset] [(.int (3 : Int32)), (.int p3), (.int (2 : Int32)), (.ref aT)])
  refine WGo.st (fun _ q => XS.iand S12.here hx rfl (hb hby at_40) rfl q) ?_
  show WGo _ _ _ _ _ _ _ _ T10 (mkF m 41 #[.val (.int p1), .val (.int p2), .val (.int p3), .val (.int p4), .val (.int v5), .val (.ref aT), .unset, .unset, .unset, .unset, .unset, .unset] [(.int (p3 &&& (3 : Int32))), (.int (2 : Int32)), (.ref aT)])
  refine WGo.st (fun _ q => XS.iload S12.here hx rfl (hb hby at_41) rfl q) ?_
  show WGo _ _ _ _ _ _ _ _ T10 (mkF m 43 #[.val (.int p1), .val (.int p2), .val (.int p3), .val (.int p4), .val (.int v5), .val (.ref aT), .unset, .unset, .unset, .unset, .unset, .unset] [(.int v5), (.int (p3 &&& (3 : Int32))), (.int (2 : Int32)), (.ref aT)])
  refine w_irem S12 rfl (hb hby at_43) rfl hnz ?_
  show WGo _ _ _ _ _ _ _ _ T10 (mkF m 44 #[.val (.int p1), .val (.int p2), .val (.int p3), .val (.int p4), .val (.int v5), .val (.ref aT), .unset, .unset, .unset, .unset, .unset, .unset] [(.int ((p3 &&& (3 : Int32)) % v5)), (.int (2 : Int32)), (.ref aT)])
  obtain ⟨q44, hq44⟩ : ∃ z, z = ((p3 &&& (3 : Int32)) % v5) := ⟨_, rfl⟩
  rw [← hq44]
  have bq44 : 0 ≤ q44.toInt ∧ q44.toInt < v5.toInt := by rw [hq44]; refine rem_in _ _ ?_ (by omega); have mk := c_mask p3 3 2 (by decide) (by decide); omega
  show WGo _ _ _ _ _ _ _ _ T10 (mkF m 44 #[.val (.int p1), .val (.int p2), .val (.int p3), .val (.int p4), .val (.int v5), .val (.ref aT), .unset, .unset, .unset, .unset, .unset, .unset] [(.int q44), (.int (2 : Int32)), (.ref aT)])
  refine w_iastore S12 A14 g_aT rfl (hb hby at_44) rfl (by decide) (by decide : (2 : Int32).toInt < ((6 : Nat) : Int)) (L' := [q22, q34, q44, (0 : Int32), (0 : Int32), (0 : Int32)]) rfl ?_
  intro T15 h16 S17 K18 A19
  show WGo _ _ _ _ _ _ _ _ T15 (mkF m 45 #[.val (.int p1), .val (.int p2), .val (.int p3), .val (.int p4), .val (.int v5), .val (.ref aT), .unset, .unset, .unset, .unset, .unset, .unset] [])
  refine WGo.st (fun _ q => XS.aload S17.here hx rfl (hb hby at_45) rfl rfl q) ?_
  show WGo _ _ _ _ _ _ _ _ T15 (mkF m 47 #[.val (.int p1), .val (.int p2), .val (.int p3), .val (.int p4), .val (.int v5), .val (.ref aT), .unset, .unset, .unset, .unset, .unset, .unset] [(.ref aT)])
  refine WGo.st (fun _ q => XS.iconst S17.here hx rfl (hb hby at_47) q) ?_
  show WGo _ _ _ _ _ _ _ _ T15 (mkF m 48 #[.val (.int p1), .val (.int p2), .val (.int p3), .val (.int p4), .val (.int v5), .val (.ref aT), .unset, .unset, .unset, .unset, .unset, .unset] [(.int (3 : Int32)), (.ref aT)])
  refine WGo.st (fun _ q => XS.iloadN S17.here hx rfl (hb hby at_48) rfl q) ?_
  show WGo _ _ _ _ _ _ _ _ T15 (mkF m 49 #[.val (.int p1), .val (.int p2), .val (.int p3), .val (.int p4), .val (.int v5), .val (.ref aT), .unset, .unset, .unset, .unset, .unset, .unset] [(.int p3), (.int (3 : Int32)), (.ref aT)])
  refine WGo.st (fun _ q => XS.iconst S17.here hx rfl (hb hby at_49) q) ?_
  show WGo _ _ _ _ _ _ _ _ T15 (mkF m 50 #[.val (.int p1), .val (.int p2), .val (.int p3), .val (.int p4), .val (.int v5), .val (.ref aT), .unset, .unset, .unset, .unset, .unset, .unset] [(.int (2 : Int32)), (.int p3), (.int (3 : Int32)), (.ref aT)])
  refine WGo.st (fun _ q => XS.iushr S17.here hx rfl (hb hby at_50) rfl q) ?_
  show WGo _ _ _ _ _ _ _ _ T15 (mkF m 51 #[.val (.int p1), .val (.int p2), .val (.int p3), .val (.int p4), .val (.int v5), .val (.ref aT), .unset, .unset, .unset, .unset, .unset, .unset] [(.int ((p3.toUInt32 >>> ((2 : Int32) &&& 31).toUInt32).toInt32)), (.int (3 : Int32)), (.ref aT)])
  refine WGo.st (fun _ q => XS.iconst S17.here hx rfl (hb hby at_51) q) ?_
  show WGo _ _ _ _ _ _ _ _ T15 (mkF m 52 #[.val (.int p1), .val (.int p2), .val (.int p3), .val (.int p4), .val (.int v5), .val (.ref aT), .unset, .unset, .unset, .unset, .unset, .unset] [(.int (3 : Int32)), (.int ((p3.toUInt32 >>> ((2 : Int32) &&& 31).toUInt32).toInt32)), (.int (3 : Int32)), (.ref aT)])
  refine WGo.st (fun _ q => XS.iand S17.here hx rfl (hb hby at_52) rfl q) ?_
  show WGo _ _ _ _ _ _ _ _ T15 (mkF m 53 #[.val (.int p1), .val (.int p2), .val (.int p3), .val (.int p4), .val (.int v5), .val (.ref aT), .unset, .unset, .unset, .unset, .unset, .unset] [(.int (((p3.toUInt32 >>> ((2 : Int32) &&& 31).toUInt32).toInt32) &&& (3 : Int32))), (.int (3 : Int32)), (.ref aT)])
  refine WGo.st (fun _ q => XS.iload S17.here hx rfl (hb hby at_53) rfl q) ?_
  show WGo _ _ _ _ _ _ _ _ T15 (mkF m 55 #[.val (.int p1), .val (.int p2), .val (.int p3), .val (.int p4), .val (.int v5), .val (.ref aT), .unset, .unset, .unset, .unset, .unset, .unset] [(.int v5), (.int (((p3.toUInt32 >>> ((2 : Int32) &&& 31).toUInt32).toInt32) &&& (3 : Int32))), (.int (3 : Int32)), (.ref aT)])
  refine w_irem S17 rfl (hb hby at_55) rfl hnz ?_
  show WGo _ _ _ _ _ _ _ _ T15 (mkF m 56 #[.val (.int p1), .val (.int p2), .val (.int p3), .val (.int p4), .val (.int v5), .val (.ref aT), .unset, .unset, .unset, .unset, .unset, .unset] [(.int ((((p3.toUInt32 >>> ((2 : Int32) &&& 31).toUInt32).toInt32) &&& (3 : Int32)) % v5)), (.int (3 : Int32)), (.ref aT)])
  obtain ⟨q56, hq56⟩ : ∃ z, z = ((((p3.toUInt32 >>> ((2 : Int32) &&& 31).toUInt32).toInt32) &&& (3 : Int32)) % v5) := ⟨_, rfl⟩
  rw [← hq56]
  have bq56 : 0 ≤ q56.toInt ∧ q56.toInt < v5.toInt := by rw [hq56]; refine rem_in _ _ ?_ (by omega); have mk := c_mask ((p3.toUInt32 >>> ((2 : Int32) &&& 31).toUInt32).toInt32) 3 2 (by decide) (by decide); omega
  show WGo _ _ _ _ _ _ _ _ T15 (mkF m 56 #[.val (.int p1), .val (.int p2), .val (.int p3), .val (.int p4), .val (.int v5), .val (.ref aT), .unset, .unset, .unset, .unset, .unset, .unset] [(.int q56), (.int (3 : Int32)), (.ref aT)])
  refine w_iastore S17 A19 g_aT rfl (hb hby at_56) rfl (by decide) (by decide : (3 : Int32).toInt < ((6 : Nat) : Int)) (L' := [q22, q34, q44, q56, (0 : Int32), (0 : Int32)]) rfl ?_
  intro T20 h21 S22 K23 A24
  show WGo _ _ _ _ _ _ _ _ T20 (mkF m 57 #[.val (.int p1), .val (.int p2), .val (.int p3), .val (.int p4), .val (.int v5), .val (.ref aT), .unset, .unset, .unset, .unset, .unset, .unset] [])
  refine WGo.st (fun _ q => XS.aload S22.here hx rfl (hb hby at_57) rfl rfl q) ?_
  show WGo _ _ _ _ _ _ _ _ T20 (mkF m 59 #[.val (.int p1), .val (.int p2), .val (.int p3), .val (.int p4), .val (.int v5), .val (.ref aT), .unset, .unset, .unset, .unset, .unset, .unset] [(.ref aT)])
  refine WGo.st (fun _ q => XS.iconst S22.here hx rfl (hb hby at_59) q) ?_
  show WGo _ _ _ _ _ _ _ _ T20 (mkF m 60 #[.val (.int p1), .val (.int p2), .val (.int p3), .val (.int p4), .val (.int v5), .val (.ref aT), .unset, .unset, .unset, .unset, .unset, .unset] [(.int (4 : Int32)), (.ref aT)])
  refine WGo.st (fun _ q => XS.iloadN S22.here hx rfl (hb hby at_60) rfl q) ?_
  show WGo _ _ _ _ _ _ _ _ T20 (mkF m 61 #[.val (.int p1), .val (.int p2), .val (.int p3), .val (.int p4), .val (.int v5), .val (.ref aT), .unset, .unset, .unset, .unset, .unset, .unset] [(.int p4), (.int (4 : Int32)), (.ref aT)])
  refine WGo.st (fun _ q => XS.iconst S22.here hx rfl (hb hby at_61) q) ?_
  show WGo _ _ _ _ _ _ _ _ T20 (mkF m 62 #[.val (.int p1), .val (.int p2), .val (.int p3), .val (.int p4), .val (.int v5), .val (.ref aT), .unset, .unset, .unset, .unset, .unset, .unset] [(.int (3 : Int32)), (.int p4), (.int (4 : Int32)), (.ref aT)])
  refine WGo.st (fun _ q => XS.iand S22.here hx rfl (hb hby at_62) rfl q) ?_
  show WGo _ _ _ _ _ _ _ _ T20 (mkF m 63 #[.val (.int p1), .val (.int p2), .val (.int p3), .val (.int p4), .val (.int v5), .val (.ref aT), .unset, .unset, .unset, .unset, .unset, .unset] [(.int (p4 &&& (3 : Int32))), (.int (4 : Int32)), (.ref aT)])
  refine WGo.st (fun _ q => XS.iload S22.here hx rfl (hb hby at_63) rfl q) ?_
  show WGo _ _ _ _ _ _ _ _ T20 (mkF m 65 #[.val (.int p1), .val (.int p2), .val (.int p3), .val (.int p4), .val (.int v5), .val (.ref aT), .unset, .unset, .unset, .unset, .unset, .unset] [(.int v5), (.int (p4 &&& (3 : Int32))), (.int (4 : Int32)), (.ref aT)])
  refine w_irem S22 rfl (hb hby at_65) rfl hnz ?_
  show WGo _ _ _ _ _ _ _ _ T20 (mkF m 66 #[.val (.int p1), .val (.int p2), .val (.int p3), .val (.int p4), .val (.int v5), .val (.ref aT), .unset, .unset, .unset, .unset, .unset, .unset] [(.int ((p4 &&& (3 : Int32)) % v5)), (.int (4 : Int32)), (.ref aT)])
  obtain ⟨q66, hq66⟩ : ∃ z, z = ((p4 &&& (3 : Int32)) % v5) := ⟨_, rfl⟩
  rw [← hq66]
  have bq66 : 0 ≤ q66.toInt ∧ q66.toInt < v5.toInt := by rw [hq66]; refine rem_in _ _ ?_ (by omega); have mk := c_mask p4 3 2 (by decide) (by decide); omega
  show WGo _ _ _ _ _ _ _ _ T20 (mkF m 66 #[.val (.int p1), .val (.int p2), .val (.int p3), .val (.int p4), .val (.int v5), .val (.ref aT), .unset, .unset, .unset, .unset, .unset, .unset] [(.int q66), (.int (4 : Int32)), (.ref aT)])
  refine w_iastore S22 A24 g_aT rfl (hb hby at_66) rfl (by decide) (by decide : (4 : Int32).toInt < ((6 : Nat) : Int)) (L' := [q22, q34, q44, q56, q66, (0 : Int32)]) rfl ?_
  intro T25 h26 S27 K28 A29
  show WGo _ _ _ _ _ _ _ _ T25 (mkF m 67 #[.val (.int p1), .val (.int p2), .val (.int p3), .val (.int p4), .val (.int v5), .val (.ref aT), .unset, .unset, .unset, .unset, .unset, .unset] [])
  refine WGo.st (fun _ q => XS.aload S27.here hx rfl (hb hby at_67) rfl rfl q) ?_
  show WGo _ _ _ _ _ _ _ _ T25 (mkF m 69 #[.val (.int p1), .val (.int p2), .val (.int p3), .val (.int p4), .val (.int v5), .val (.ref aT), .unset, .unset, .unset, .unset, .unset, .unset] [(.ref aT)])
  refine WGo.st (fun _ q => XS.iconst S27.here hx rfl (hb hby at_69) q) ?_
  show WGo _ _ _ _ _ _ _ _ T25 (mkF m 70 #[.val (.int p1), .val (.int p2), .val (.int p3), .val (.int p4), .val (.int v5), .val (.ref aT), .unset, .unset, .unset, .unset, .unset, .unset] [(.int (5 : Int32)), (.ref aT)])
  refine WGo.st (fun _ q => XS.iloadN S27.here hx rfl (hb hby at_70) rfl q) ?_
  show WGo _ _ _ _ _ _ _ _ T25 (mkF m 71 #[.val (.int p1), .val (.int p2), .val (.int p3), .val (.int p4), .val (.int v5), .val (.ref aT), .unset, .unset, .unset, .unset, .unset, .unset] [(.int p4), (.int (5 : Int32)), (.ref aT)])
  refine WGo.st (fun _ q => XS.iconst S27.here hx rfl (hb hby at_71) q) ?_
  show WGo _ _ _ _ _ _ _ _ T25 (mkF m 72 #[.val (.int p1), .val (.int p2), .val (.int p3), .val (.int p4), .val (.int v5), .val (.ref aT), .unset, .unset, .unset, .unset, .unset, .unset] [(.int (2 : Int32)), (.int p4), (.int (5 : Int32)), (.ref aT)])
  refine WGo.st (fun _ q => XS.iushr S27.here hx rfl (hb hby at_72) rfl q) ?_
  show WGo _ _ _ _ _ _ _ _ T25 (mkF m 73 #[.val (.int p1), .val (.int p2), .val (.int p3), .val (.int p4), .val (.int v5), .val (.ref aT), .unset, .unset, .unset, .unset, .unset, .unset] [(.int ((p4.toUInt32 >>> ((2 : Int32) &&& 31).toUInt32).toInt32)), (.int (5 : Int32)), (.ref aT)])
  refine WGo.st (fun _ q => XS.iconst S27.here hx rfl (hb hby at_73) q) ?_
  show WGo _ _ _ _ _ _ _ _ T25 (mkF m 74 #[.val (.int p1), .val (.int p2), .val (.int p3), .val (.int p4), .val (.int v5), .val (.ref aT), .unset, .unset, .unset, .unset, .unset, .unset] [(.int (3 : Int32)), (.int ((p4.toUInt32 >>> ((2 : Int32) &&& 31).toUInt32).toInt32)), (.int (5 : Int32)), (.ref aT)])
  refine WGo.st (fun _ q => XS.iand S27.here hx rfl (hb hby at_74) rfl q) ?_
  show WGo _ _ _ _ _ _ _ _ T25 (mkF m 75 #[.val (.int p1), .val (.int p2), .val (.int p3), .val (.int p4), .val (.int v5), .val (.ref aT), .unset, .unset, .unset, .unset, .unset, .unset] [(.int (((p4.toUInt32 >>> ((2 : Int32) &&& 31).toUInt32).toInt32) &&& (3 : Int32))), (.int (5 : Int32)), (.ref aT)])
  refine WGo.st (fun _ q => XS.iload S27.here hx rfl (hb hby at_75) rfl q) ?_
  show WGo _ _ _ _ _ _ _ _ T25 (mkF m 77 #[.val (.int p1), .val (.int p2), .val (.int p3), .val (.int p4), .val (.int v5), .val (.ref aT), .unset, .unset, .unset, .unset, .unset, .unset] [(.int v5), (.int (((p4.toUInt32 >>> ((2 : Int32) &&& 31).toUInt32).toInt32) &&& (3 : Int32))), (.int (5 : Int32)), (.ref aT)])
  refine w_irem S27 rfl (hb hby at_77) rfl hnz ?_
  show WGo _ _ _ _ _ _ _ _ T25 (mkF m 78 #[.val (.int p1), .val (.int p2), .val (.int p3), .val (.int p4), .val (.int v5), .val (.ref aT), .unset, .unset, .unset, .unset, .unset, .unset] [(.int ((((p4.toUInt32 >>> ((2 : Int32) &&& 31).toUInt32).toInt32) &&& (3 : Int32)) % v5)), (.int (5 : Int32)), (.ref aT)])
  obtain ⟨q78, hq78⟩ : ∃ z, z = ((((p4.toUInt32 >>> ((2 : Int32) &&& 31).toUInt32).toInt32) &&& (3 : Int32)) % v5) := ⟨_, rfl⟩
  rw [← hq78]
  have bq78 : 0 ≤ q78.toInt ∧ q78.toInt < v5.toInt := by rw [hq78]; refine rem_in _ _ ?_ (by omega); have mk := c_mask ((p4.toUInt32 >>> ((2 : Int32) &&& 31).toUInt32).toInt32) 3 2 (by decide) (by decide); omega
  show WGo _ _ _ _ _ _ _ _ T25 (mkF m 78 #[.val (.int p1), .val (.int p2), .val (.int p3), .val (.int p4), .val (.int v5), .val (.ref aT), .unset, .unset, .unset, .unset, .unset, .unset] [(.int q78), (.int (5 : Int32)), (.ref aT)])
  refine w_iastore S27 A29 g_aT rfl (hb hby at_78) rfl (by decide) (by decide : (5 : Int32).toInt < ((6 : Nat) : Int)) (L' := [q22, q34, q44, q56, q66, q78]) rfl ?_
  intro T30 h31 S32 K33 A34
  show WGo _ _ _ _ _ _ _ _ T30 (mkF m 79 #[.val (.int p1), .val (.int p2), .val (.int p3), .val (.int p4), .val (.int v5), .val (.ref aT), .unset, .unset, .unset, .unset, .unset, .unset] [])
  obtain ⟨nn, eN, n1, n2⟩ := to_E v5 69 (by omega) (by omega)
  have tn : v5.toInt = (nn : Int) - 64 := by rw [eN, E_toInt (by omega)]
  obtain ⟨x0, ex0, lx0, ux0⟩ := to_E q22 nn bq22.1 (by omega)
  obtain ⟨x1, ex1, lx1, ux1⟩ := to_E q34 nn bq34.1 (by omega)
  obtain ⟨x2, ex2, lx2, ux2⟩ := to_E q44 nn bq44.1 (by omega)
  obtain ⟨x3, ex3, lx3, ux3⟩ := to_E q56 nn bq56.1 (by omega)
  obtain ⟨x4, ex4, lx4, ux4⟩ := to_E q66 nn bq66.1 (by omega)
  obtain ⟨x5, ex5, lx5, ux5⟩ := to_E q78 nn bq78.1 (by omega)
  obtain ⟨At, eAt⟩ : ∃ A, A = pk x0 x1 x2 x3 x4 x5 := ⟨_, rfl⟩
  have AT : AI Z h31 aT .int (DL 70 At) := by rw [eAt, DL_pk (by omega) (by omega) (by omega) (by omega) (by omega) (by omega), ← ex0, ← ex1, ← ex2, ← ex3, ← ex4, ← ex5]; exact A34
  have dT : HS Z a0 n0 h31 [aT] h31 [ia aT 70 At] := ⟨Keep.refl _ _, by simp, fun q hq => by obtain rfl := List.mem_singleton.mp hq; exact ⟨AT, g_aT, Or.inl (List.mem_singleton.mpr rfl)⟩⟩
  obtain ⟨r, er⟩ : ∃ r : Nat, r = 65 := ⟨_, rfl⟩
  have hf : fLw nn At = some r := by rw [er, eAt]; exact brute nn x0 x1 x2 x3 x4 x5 (by omega) (by omega) lx0 ux0 lx1 ux1 lx2 ux2 lx3 ux3 lx4 ux4 lx5 ux5
  rw [fLw] at hf
  rw [eN]
  subst er
  show WGo _ _ _ _ _ _ _ _ T30 (mkF m 79 #[.val (.int p1), .val (.int p2), .val (.int p3), .val (.int p4), .val (.int (E nn)), .val (.ref aT), .unset, .unset, .unset, .unset, .unset, .unset] [])
  refine WGo.st (fun _ q => XS.iconst S32.here hx rfl (hb hby at_79) q) ?_
  refine w_anw S32 dT (hwi hw 0 rfl) rfl rfl (hb hby at_80) rfl (cap := 4) hf (by decide) (by decide) (by decide) ?_
  intro T102 h103 a101 S104 d105 hf
  show WGo _ _ _ _ _ _ _ _ T102 (mkF m 82 #[.val (.int p1), .val (.int p2), .val (.int p3), .val (.int p4), .val (.int (E nn)), .val (.ref aT), .unset, .unset, .unset, .unset, .unset, .unset] [(.ref a101)])
  refine WGo.st (fun _ q => XS.astore S104.here hx rfl (hb hby at_82) rfl rfl (l' := #[.val (.int p1), .val (.int p2), .val (.int p3), .val (.int p4), .val (.int (E nn)), .val (.ref aT), .val (.ref a101), .unset, .unset, .unset, .unset, .unset]) rfl q) ?_
  show WGo _ _ _ _ _ _ _ _ T102 (mkF m 84 #[.val (.int p1), .val (.int p2), .val (.int p3), .val (.int p4), .val (.int (E nn)), .val (.ref aT), .val (.ref a101), .unset, .unset, .unset, .unset, .unset] [])
  refine WGo.st (fun _ q => XS.aload S104.here hx rfl (hb hby at_84) rfl rfl q) ?_
  refine WGo.st (fun _ q => XS.iconst S104.here hx rfl (hb hby at_86) q) ?_
  refine WGo.st (fun _ q => XS.iconst S104.here hx rfl (hb hby at_87) q) ?_
  refine w_ast S104 d105 (i := 1) rfl rfl (hb hby at_88) rfl hf ?_
  intro T107 h108 A106 S109 d110 hf
  show WGo _ _ _ _ _ _ _ _ T107 (mkF m 89 #[.val (.int p1), .val (.int p2), .val (.int p3), .val (.int p4), .val (.int (E nn)), .val (.ref aT), .val (.ref a101), .unset, .unset, .unset, .unset, .unset] [])
  refine WGo.st (fun _ q => XS.aload S109.here hx rfl (hb hby at_89) rfl rfl q) ?_
  refine WGo.st (fun _ q => XS.iconst S109.here hx rfl (hb hby at_91) q) ?_
  refine WGo.st (fun _ q => XS.iconst S109.here hx rfl (hb hby at_92) q) ?_
  refine w_ast S109 d110 (i := 1) rfl rfl (hb hby at_93) rfl hf ?_
  intro T112 h113 A111 S114 d115 hf
  show WGo _ _ _ _ _ _ _ _ T112 (mkF m 94 #[.val (.int p1), .val (.int p2), .val (.int p3), .val (.int p4), .val (.int (E nn)), .val (.ref aT), .val (.ref a101), .unset, .unset, .unset, .unset, .unset] [])
  refine WGo.st (fun _ q => XS.aload S114.here hx rfl (hb hby at_94) rfl rfl q) ?_
  refine WGo.st (fun _ q => XS.iconst S114.here hx rfl (hb hby at_96) q) ?_
  refine WGo.st (fun _ q => XS.iconst S114.here hx rfl (hb hby at_97) q) ?_
  refine w_ast S114 d115 (i := 1) rfl rfl (hb hby at_98) rfl hf ?_
  intro T117 h118 A116 S119 d120 hf
  show WGo _ _ _ _ _ _ _ _ T117 (mkF m 99 #[.val (.int p1), .val (.int p2), .val (.int p3), .val (.int p4), .val (.int (E nn)), .val (.ref aT), .val (.ref a101), .unset, .unset, .unset, .unset, .unset] [])
  refine WGo.st (fun _ q => XS.aload S119.here hx rfl (hb hby at_99) rfl rfl q) ?_
  refine WGo.st (fun _ q => XS.iconst S119.here hx rfl (hb hby at_101) q) ?_
  refine WGo.st (fun _ q => XS.iconst S119.here hx rfl (hb hby at_102) q) ?_
  refine w_ast S119 d120 (i := 1) rfl rfl (hb hby at_103) rfl hf ?_
  intro T122 h123 A121 S124 d125 hf
  show WGo _ _ _ _ _ _ _ _ T122 (mkF m 104 #[.val (.int p1), .val (.int p2), .val (.int p3), .val (.int p4), .val (.int (E nn)), .val (.ref aT), .val (.ref a101), .unset, .unset, .unset, .unset, .unset] [])
  refine WGo.st (fun _ q => XS.aload S124.here hx rfl (hb hby at_104) rfl rfl q) ?_
  refine WGo.st (fun _ q => XS.aload S124.here hx rfl (hb hby at_106) rfl rfl q) ?_
  refine WGo.st (fun _ q => XS.iconst S124.here hx rfl (hb hby at_108) q) ?_
  refine w_ald S124 d125 (i := 0) rfl rfl (hb hby at_109) rfl hf ?_
  intro x126 hf
  show WGo _ _ _ _ _ _ _ _ T122 (mkF m 110 #[.val (.int p1), .val (.int p2), .val (.int p3), .val (.int p4), .val (.int (E nn)), .val (.ref aT), .val (.ref a101), .unset, .unset, .unset, .unset, .unset] [(.int (E x126)), (.ref a101)])
  refine WGo.st (fun _ q => XS.aload S124.here hx rfl (hb hby at_110) rfl rfl q) ?_
  refine WGo.st (fun _ q => XS.iconst S124.here hx rfl (hb hby at_112) q) ?_
  refine w_ald S124 d125 (i := 0) rfl rfl (hb hby at_113) rfl hf ?_
  intro x127 hf
  show WGo _ _ _ _ _ _ _ _ T122 (mkF m 114 #[.val (.int p1), .val (.int p2), .val (.int p3), .val (.int p4), .val (.int (E nn)), .val (.ref aT), .val (.ref a101), .unset, .unset, .unset, .unset, .unset] [(.int (E x127)), (.int (E x126)), (.ref a101)])
  refine w_static S124 (y := (⟨"com/example/ookayama/ookayama/EdgeAdditionSearchRootsPinLaw", "relax", "([III)V"⟩ : MethodName)) hown (hwi hw 1 rfl) (hwi hw 2 rfl) (hwi hw 3 rfl) (hwi hw 4 rfl) (by decide) (rm_Rx l Z a0 hw n0 h123 a101 A121 x126 x127 S124.ge  (HS.pw d125 [1] (by decide) rfl rfl) _ _ hf) (W := 0) (by decide) (by decide) (by decide) (by decide) rfl (by rw [hml]; rfl) (argsL := [(.ref a101), (.int (E x126)), (.int (E x127))]) (rest := []) (ps := [(.array .int), .int, .int]) (rt := none) (by decide) rfl rfl rfl (by show 2 * 0 + _ ≤ _; exact Nat.le_of_eq rfl) (hb hby at_114) ?_
  intro T128 h130 w131 S129 q132
  obtain ⟨y135, rfl, d133, hf⟩ := q132
  have d134 : HS Z a0 n0 h31 [aT] h130 [ia aT 70 At, ia a101 68 y135] := HS.call d125 [1] [ia a101 68 A121] [ia a101 68 y135] [] (by decide) rfl rfl d133
  show WGo _ _ _ _ _ _ _ _ T128 (mkF m 117 #[.val (.int p1), .val (.int p2), .val (.int p3), .val (.int p4), .val (.int (E nn)), .val (.ref aT), .val (.ref a101), .unset, .unset, .unset, .unset, .unset] [])
  refine WGo.st (fun _ q => XS.aload S129.here hx rfl (hb hby at_117) rfl rfl q) ?_
  refine WGo.st (fun _ q => XS.aload S129.here hx rfl (hb hby at_119) rfl rfl q) ?_
  refine WGo.st (fun _ q => XS.iconst S129.here hx rfl (hb hby at_121) q) ?_
  refine w_ald S129 d134 (i := 0) rfl rfl (hb hby at_122) rfl hf ?_
  intro x136 hf
  show WGo _ _ _ _ _ _ _ _ T128 (mkF m 123 #[.val (.int p1), .val (.int p2), .val (.int p3), .val (.int p4), .val (.int (E nn)), .val (.ref aT), .val (.ref a101), .unset, .unset, .unset, .unset, .unset] [(.int (E x136)), (.ref a101)])
  refine WGo.st (fun _ q => XS.aload S129.here hx rfl (hb hby at_123) rfl rfl q) ?_
  refine WGo.st (fun _ q => XS.iconst S129.here hx rfl (hb hby at_125) q) ?_
  refine w_ald S129 d134 (i := 0) rfl rfl (hb hby at_126) rfl hf ?_
  intro x137 hf
  show WGo _ _ _ _ _ _ _ _ T128 (mkF m 127 #[.val (.int p1), .val (.int p2), .val (.int p3), .val (.int p4), .val (.int (E nn)), .val (.ref aT), .val (.ref a101), .unset, .unset, .unset, .unset, .unset] [(.int (E x137)), (.int (E x136)), (.ref a101)])
  refine w_static S129 (y := (⟨"com/example/ookayama/ookayama/EdgeAdditionSearchRootsPinLaw", "relax", "([III)V"⟩ : MethodName)) hown (hwi hw 1 rfl) (hwi hw 2 rfl) (hwi hw 3 rfl) (hwi hw 4 rfl) (by decide) (rm_Rx l Z a0 hw n0 h130 a101 y135 x136 x137 S129.ge  (HS.pw d134 [1] (by decide) rfl rfl) _ _ hf) (W := 0) (by decide) (by decide) (by decide) (by decide) rfl (by rw [hml]; rfl) (argsL := [(.ref a101), (.int (E x136)), (.int (E x137))]) (rest := []) (ps := [(.array .int), .int, .int]) (rt := none) (by decide) rfl rfl rfl (by show 2 * 0 + _ ≤ _; exact Nat.le_of_eq rfl) (hb hby at_127) ?_
  intro T138 h140 w141 S139 q142
  obtain ⟨y145, rfl, d143, hf⟩ := q142
  have d144 : HS Z a0 n0 h31 [aT] h140 [ia aT 70 At, ia a101 68 y145] := HS.call d134 [1] [ia a101 68 y135] [ia a101 68 y145] [] (by decide) rfl rfl d143
  show WGo _ _ _ _ _ _ _ _ T138 (mkF m 130 #[.val (.int p1), .val (.int p2), .val (.int p3), .val (.int p4), .val (.int (E nn)), .val (.ref aT), .val (.ref a101), .unset, .unset, .unset, .unset, .unset] [])
  refine WGo.st (fun _ q => XS.aload S139.here hx rfl (hb hby at_130) rfl rfl q) ?_
  refine WGo.st (fun _ q => XS.aload S139.here hx rfl (hb hby at_132) rfl rfl q) ?_
  refine WGo.st (fun _ q => XS.iconst S139.here hx rfl (hb hby at_134) q) ?_
  refine w_ald S139 d144 (i := 0) rfl rfl (hb hby at_135) rfl hf ?_
  intro x146 hf
  show WGo _ _ _ _ _ _ _ _ T138 (mkF m 136 #[.val (.int p1), .val (.int p2), .val (.int p3), .val (.int p4), .val (.int (E nn)), .val (.ref aT), .val (.ref a101), .unset, .unset, .unset, .unset, .unset] [(.int (E x146)), (.ref a101)])
  refine WGo.st (fun _ q => XS.aload S139.here hx rfl (hb hby at_136) rfl rfl q) ?_
  refine WGo.st (fun _ q => XS.iconst S139.here hx rfl (hb hby at_138) q) ?_
  refine w_ald S139 d144 (i := 0) rfl rfl (hb hby at_139) rfl hf ?_
  intro x147 hf
  show WGo _ _ _ _ _ _ _ _ T138 (mkF m 140 #[.val (.int p1), .val (.int p2), .val (.int p3), .val (.int p4), .val (.int (E nn)), .val (.ref aT), .val (.ref a101), .unset, .unset, .unset, .unset, .unset] [(.int (E x147)), (.int (E x146)), (.ref a101)])
  refine w_static S139 (y := (⟨"com/example/ookayama/ookayama/EdgeAdditionSearchRootsPinLaw", "relax", "([III)V"⟩ : MethodName)) hown (hwi hw 1 rfl) (hwi hw 2 rfl) (hwi hw 3 rfl) (hwi hw 4 rfl) (by decide) (rm_Rx l Z a0 hw n0 h140 a101 y145 x146 x147 S139.ge  (HS.pw d144 [1] (by decide) rfl rfl) _ _ hf) (W := 0) (by decide) (by decide) (by decide) (by decide) rfl (by rw [hml]; rfl) (argsL := [(.ref a101), (.int (E x146)), (.int (E x147))]) (rest := []) (ps := [(.array .int), .int, .int]) (rt := none) (by decide) rfl rfl rfl (by show 2 * 0 + _ ≤ _; exact Nat.le_of_eq rfl) (hb hby at_140) ?_
  intro T148 h150 w151 S149 q152
  obtain ⟨y155, rfl, d153, hf⟩ := q152
  have d154 : HS Z a0 n0 h31 [aT] h150 [ia aT 70 At, ia a101 68 y155] := HS.call d144 [1] [ia a101 68 y145] [ia a101 68 y155] [] (by decide) rfl rfl d153
  show WGo _ _ _ _ _ _ _ _ T148 (mkF m 143 #[.val (.int p1), .val (.int p2), .val (.int p3), .val (.int p4), .val (.int (E nn)), .val (.ref aT), .val (.ref a101), .unset, .unset, .unset, .unset, .unset] [])
  refine WGo.st (fun _ q => XS.aload S149.here hx rfl (hb hby at_143) rfl rfl q) ?_
  refine WGo.st (fun _ q => XS.aload S149.here hx rfl (hb hby at_145) rfl rfl q) ?_
  refine WGo.st (fun _ q => XS.iconst S149.here hx rfl (hb hby at_147) q) ?_
  refine w_ald S149 d154 (i := 0) rfl rfl (hb hby at_148) rfl hf ?_
  intro x156 hf
  show WGo _ _ _ _ _ _ _ _ T148 (mkF m 149 #[.val (.int p1), .val (.int p2), .val (.int p3), .val (.int p4), .val (.int (E nn)), .val (.ref aT), .val (.ref a101), .unset, .unset, .unset, .unset, .unset] [(.int (E x156)), (.ref a101)])
  refine WGo.st (fun _ q => XS.aload S149.here hx rfl (hb hby at_149) rfl rfl q) ?_
  refine WGo.st (fun _ q => XS.iconst S149.here hx rfl (hb hby at_151) q) ?_
  refine w_ald S149 d154 (i := 0) rfl rfl (hb hby at_152) rfl hf ?_
  intro x157 hf
  show WGo _ _ _ _ _ _ _ _ T148 (mkF m 153 #[.val (.int p1), .val (.int p2), .val (.int p3), .val (.int p4), .val (.int (E nn)), .val (.ref aT), .val (.ref a101), .unset, .unset, .unset, .unset, .unset] [(.int (E x157)), (.int (E x156)), (.ref a101)])
  refine w_static S149 (y := (⟨"com/example/ookayama/ookayama/EdgeAdditionSearchRootsPinLaw", "relax", "([III)V"⟩ : MethodName)) hown (hwi hw 1 rfl) (hwi hw 2 rfl) (hwi hw 3 rfl) (hwi hw 4 rfl) (by decide) (rm_Rx l Z a0 hw n0 h150 a101 y155 x156 x157 S149.ge  (HS.pw d154 [1] (by decide) rfl rfl) _ _ hf) (W := 0) (by decide) (by decide) (by decide) (by decide) rfl (by rw [hml]; rfl) (argsL := [(.ref a101), (.int (E x156)), (.int (E x157))]) (rest := []) (ps := [(.array .int), .int, .int]) (rt := none) (by decide) rfl rfl rfl (by show 2 * 0 + _ ≤ _; exact Nat.le_of_eq rfl) (hb hby at_153) ?_
  intro T158 h160 w161 S159 q162
  obtain ⟨y165, rfl, d163, hf⟩ := q162
  have d164 : HS Z a0 n0 h31 [aT] h160 [ia aT 70 At, ia a101 68 y165] := HS.call d154 [1] [ia a101 68 y155] [ia a101 68 y165] [] (by decide) rfl rfl d163
  show WGo _ _ _ _ _ _ _ _ T158 (mkF m 156 #[.val (.int p1), .val (.int p2), .val (.int p3), .val (.int p4), .val (.int (E nn)), .val (.ref aT), .val (.ref a101), .unset, .unset, .unset, .unset, .unset] [])
  refine WGo.st (fun _ q => XS.aload S159.here hx rfl (hb hby at_156) rfl rfl q) ?_
  refine WGo.st (fun _ q => XS.aload S159.here hx rfl (hb hby at_158) rfl rfl q) ?_
  refine WGo.st (fun _ q => XS.iconst S159.here hx rfl (hb hby at_160) q) ?_
  refine w_ald S159 d164 (i := 0) rfl rfl (hb hby at_161) rfl hf ?_
  intro x166 hf
  show WGo _ _ _ _ _ _ _ _ T158 (mkF m 162 #[.val (.int p1), .val (.int p2), .val (.int p3), .val (.int p4), .val (.int (E nn)), .val (.ref aT), .val (.ref a101), .unset, .unset, .unset, .unset, .unset] [(.int (E x166)), (.ref a101)])
  refine WGo.st (fun _ q => XS.aload S159.here hx rfl (hb hby at_162) rfl rfl q) ?_
  refine WGo.st (fun _ q => XS.iconst S159.here hx rfl (hb hby at_164) q) ?_
  refine w_ald S159 d164 (i := 0) rfl rfl (hb hby at_165) rfl hf ?_
  intro x167 hf
  show WGo _ _ _ _ _ _ _ _ T158 (mkF m 166 #[.val (.int p1), .val (.int p2), .val (.int p3), .val (.int p4), .val (.int (E nn)), .val (.ref aT), .val (.ref a101), .unset, .unset, .unset, .unset, .unset] [(.int (E x167)), (.int (E x166)), (.ref a101)])
  refine w_static S159 (y := (⟨"com/example/ookayama/ookayama/EdgeAdditionSearchRootsPinLaw", "relax", "([III)V"⟩ : MethodName)) hown (hwi hw 1 rfl) (hwi hw 2 rfl) (hwi hw 3 rfl) (hwi hw 4 rfl) (by decide) (rm_Rx l Z a0 hw n0 h160 a101 y165 x166 x167 S159.ge  (HS.pw d164 [1] (by decide) rfl rfl) _ _ hf) (W := 0) (by decide) (by decide) (by decide) (by decide) rfl (by rw [hml]; rfl) (argsL := [(.ref a101), (.int (E x166)), (.int (E x167))]) (rest := []) (ps := [(.array .int), .int, .int]) (rt := none) (by decide) rfl rfl rfl (by show 2 * 0 + _ ≤ _; exact Nat.le_of_eq rfl) (hb hby at_166) ?_
  intro T168 h170 w171 S169 q172
  obtain ⟨y175, rfl, d173, hf⟩ := q172
  have d174 : HS Z a0 n0 h31 [aT] h170 [ia aT 70 At, ia a101 68 y175] := HS.call d164 [1] [ia a101 68 y165] [ia a101 68 y175] [] (by decide) rfl rfl d173
  show WGo _ _ _ _ _ _ _ _ T168 (mkF m 169 #[.val (.int p1), .val (.int p2), .val (.int p3), .val (.int p4), .val (.int (E nn)), .val (.ref aT), .val (.ref a101), .unset, .unset, .unset, .unset, .unset] [])
  refine WGo.st (fun _ q => XS.aload S169.here hx rfl (hb hby at_169) rfl rfl q) ?_
  refine WGo.st (fun _ q => XS.aload S169.here hx rfl (hb hby at_171) rfl rfl q) ?_
  refine WGo.st (fun _ q => XS.iconst S169.here hx rfl (hb hby at_173) q) ?_
  refine w_ald S169 d174 (i := 0) rfl rfl (hb hby at_174) rfl hf ?_
  intro x176 hf
  show WGo _ _ _ _ _ _ _ _ T168 (mkF m 175 #[.val (.int p1), .val (.int p2), .val (.int p3), .val (.int p4), .val (.int (E nn)), .val (.ref aT), .val (.ref a101), .unset, .unset, .unset, .unset, .unset] [(.int (E x176)), (.ref a101)])
  refine WGo.st (fun _ q => XS.aload S169.here hx rfl (hb hby at_175) rfl rfl q) ?_
  refine WGo.st (fun _ q => XS.iconst S169.here hx rfl (hb hby at_177) q) ?_
  refine w_ald S169 d174 (i := 0) rfl rfl (hb hby at_178) rfl hf ?_
  intro x177 hf
  show WGo _ _ _ _ _ _ _ _ T168 (mkF m 179 #[.val (.int p1), .val (.int p2), .val (.int p3), .val (.int p4), .val (.int (E nn)), .val (.ref aT), .val (.ref a101), .unset, .unset, .unset, .unset, .unset] [(.int (E x177)), (.int (E x176)), (.ref a101)])
  refine w_static S169 (y := (⟨"com/example/ookayama/ookayama/EdgeAdditionSearchRootsPinLaw", "relax", "([III)V"⟩ : MethodName)) hown (hwi hw 1 rfl) (hwi hw 2 rfl) (hwi hw 3 rfl) (hwi hw 4 rfl) (by decide) (rm_Rx l Z a0 hw n0 h170 a101 y175 x176 x177 S169.ge  (HS.pw d174 [1] (by decide) rfl rfl) _ _ hf) (W := 0) (by decide) (by decide) (by decide) (by decide) rfl (by rw [hml]; rfl) (argsL := [(.ref a101), (.int (E x176)), (.int (E x177))]) (rest := []) (ps := [(.array .int), .int, .int]) (rt := none) (by decide) rfl rfl rfl (by show 2 * 0 + _ ≤ _; exact Nat.le_of_eq rfl) (hb hby at_179) ?_
  intro T178 h180 w181 S179 q182
  obtain ⟨y185, rfl, d183, hf⟩ := q182
  have d184 : HS Z a0 n0 h31 [aT] h180 [ia aT 70 At, ia a101 68 y185] := HS.call d174 [1] [ia a101 68 y175] [ia a101 68 y185] [] (by decide) rfl rfl d183
  show WGo _ _ _ _ _ _ _ _ T178 (mkF m 182 #[.val (.int p1), .val (.int p2), .val (.int p3), .val (.int p4), .val (.int (E nn)), .val (.ref aT), .val (.ref a101), .unset, .unset, .unset, .unset, .unset] [])
  refine WGo.st (fun _ q => XS.aload S179.here hx rfl (hb hby at_182) rfl rfl q) ?_
  refine WGo.st (fun _ q => XS.aload S179.here hx rfl (hb hby at_184) rfl rfl q) ?_
  refine WGo.st (fun _ q => XS.iconst S179.here hx rfl (hb hby at_186) q) ?_
  refine w_ald S179 d184 (i := 0) rfl rfl (hb hby at_187) rfl hf ?_
  intro x186 hf
  show WGo _ _ _ _ _ _ _ _ T178 (mkF m 188 #[.val (.int p1), .val (.int p2), .val (.int p3), .val (.int p4), .val (.int (E nn)), .val (.ref aT), .val (.ref a101), .unset, .unset, .unset, .unset, .unset] [(.int (E x186)), (.ref a101)])
  refine WGo.st (fun _ q => XS.aload S179.here hx rfl (hb hby at_188) rfl rfl q) ?_
  refine WGo.st (fun _ q => XS.iconst S179.here hx rfl (hb hby at_190) q) ?_
  refine w_ald S179 d184 (i := 0) rfl rfl (hb hby at_191) rfl hf ?_
  intro x187 hf
  show WGo _ _ _ _ _ _ _ _ T178 (mkF m 192 #[.val (.int p1), .val (.int p2), .val (.int p3), .val (.int p4), .val (.int (E nn)), .val (.ref aT), .val (.ref a101), .unset, .unset, .unset, .unset, .unset] [(.int (E x187)), (.int (E x186)), (.ref a101)])
  refine w_static S179 (y := (⟨"com/example/ookayama/ookayama/EdgeAdditionSearchRootsPinLaw", "relax", "([III)V"⟩ : MethodName)) hown (hwi hw 1 rfl) (hwi hw 2 rfl) (hwi hw 3 rfl) (hwi hw 4 rfl) (by decide) (rm_Rx l Z a0 hw n0 h180 a101 y185 x186 x187 S179.ge  (HS.pw d184 [1] (by decide) rfl rfl) _ _ hf) (W := 0) (by decide) (by decide) (by decide) (by decide) rfl (by rw [hml]; rfl) (argsL := [(.ref a101), (.int (E x186)), (.int (E x187))]) (rest := []) (ps := [(.array .int), .int, .int]) (rt := none) (by decide) rfl rfl rfl (by show 2 * 0 + _ ≤ _; exact Nat.le_of_eq rfl) (hb hby at_192) ?_
  intro T188 h190 w191 S189 q192
  obtain ⟨y195, rfl, d193, hf⟩ := q192
  have d194 : HS Z a0 n0 h31 [aT] h190 [ia aT 70 At, ia a101 68 y195] := HS.call d184 [1] [ia a101 68 y185] [ia a101 68 y195] [] (by decide) rfl rfl d193
  show WGo _ _ _ _ _ _ _ _ T188 (mkF m 195 #[.val (.int p1), .val (.int p2), .val (.int p3), .val (.int p4), .val (.int (E nn)), .val (.ref aT), .val (.ref a101), .unset, .unset, .unset, .unset, .unset] [])
  refine WGo.st (fun _ q => XS.aload S189.here hx rfl (hb hby at_195) rfl rfl q) ?_
  refine WGo.st (fun _ q => XS.aload S189.here hx rfl (hb hby at_197) rfl rfl q) ?_
  refine WGo.st (fun _ q => XS.iconst S189.here hx rfl (hb hby at_199) q) ?_
  refine w_ald S189 d194 (i := 0) rfl rfl (hb hby at_200) rfl hf ?_
  intro x196 hf
  show WGo _ _ _ _ _ _ _ _ T188 (mkF m 201 #[.val (.int p1), .val (.int p2), .val (.int p3), .val (.int p4), .val (.int (E nn)), .val (.ref aT), .val (.ref a101), .unset, .unset, .unset, .unset, .unset] [(.int (E x196)), (.ref a101)])
  refine WGo.st (fun _ q => XS.aload S189.here hx rfl (hb hby at_201) rfl rfl q) ?_
  refine WGo.st (fun _ q => XS.iconst S189.here hx rfl (hb hby at_203) q) ?_
  refine w_ald S189 d194 (i := 0) rfl rfl (hb hby at_204) rfl hf ?_
  intro x197 hf
  show WGo _ _ _ _ _ _ _ _ T188 (mkF m 205 #[.val (.int p1), .val (.int p2), .val (.int p3), .val (.int p4), .val (.int (E nn)), .val (.ref aT), .val (.ref a101), .unset, .unset, .unset, .unset, .unset] [(.int (E x197)), (.int (E x196)), (.ref a101)])
  refine w_static S189 (y := (⟨"com/example/ookayama/ookayama/EdgeAdditionSearchRootsPinLaw", "relax", "([III)V"⟩ : MethodName)) hown (hwi hw 1 rfl) (hwi hw 2 rfl) (hwi hw 3 rfl) (hwi hw 4 rfl) (by decide) (rm_Rx l Z a0 hw n0 h190 a101 y195 x196 x197 S189.ge  (HS.pw d194 [1] (by decide) rfl rfl) _ _ hf) (W := 0) (by decide) (by decide) (by decide) (by decide) rfl (by rw [hml]; rfl) (argsL := [(.ref a101), (.int (E x196)), (.int (E x197))]) (rest := []) (ps := [(.array .int), .int, .int]) (rt := none) (by decide) rfl rfl rfl (by show 2 * 0 + _ ≤ _; exact Nat.le_of_eq rfl) (hb hby at_205) ?_
  intro T198 h200 w201 S199 q202
  obtain ⟨y205, rfl, d203, hf⟩ := q202
  have d204 : HS Z a0 n0 h31 [aT] h200 [ia aT 70 At, ia a101 68 y205] := HS.call d194 [1] [ia a101 68 y195] [ia a101 68 y205] [] (by decide) rfl rfl d203
  show WGo _ _ _ _ _ _ _ _ T198 (mkF m 208 #[.val (.int p1), .val (.int p2), .val (.int p3), .val (.int p4), .val (.int (E nn)), .val (.ref aT), .val (.ref a101), .unset, .unset, .unset, .unset, .unset] [])
  refine WGo.st (fun _ q => XS.aload S199.here hx rfl (hb hby at_208) rfl rfl q) ?_
  refine WGo.st (fun _ q => XS.aload S199.here hx rfl (hb hby at_210) rfl rfl q) ?_
  refine WGo.st (fun _ q => XS.iconst S199.here hx rfl (hb hby at_212) q) ?_
  refine w_ald S199 d204 (i := 0) rfl rfl (hb hby at_213) rfl hf ?_
  intro x206 hf
  show WGo _ _ _ _ _ _ _ _ T198 (mkF m 214 #[.val (.int p1), .val (.int p2), .val (.int p3), .val (.int p4), .val (.int (E nn)), .val (.ref aT), .val (.ref a101), .unset, .unset, .unset, .unset, .unset] [(.int (E x206)), (.ref a101)])
  refine WGo.st (fun _ q => XS.aload S199.here hx rfl (hb hby at_214) rfl rfl q) ?_
  refine WGo.st (fun _ q => XS.iconst S199.here hx rfl (hb hby at_216) q) ?_
  refine w_ald S199 d204 (i := 0) rfl rfl (hb hby at_217) rfl hf ?_
  intro x207 hf
  show WGo _ _ _ _ _ _ _ _ T198 (mkF m 218 #[.val (.int p1), .val (.int p2), .val (.int p3), .val (.int p4), .val (.int (E nn)), .val (.ref aT), .val (.ref a101), .unset, .unset, .unset, .unset, .unset] [(.int (E x207)), (.int (E x206)), (.ref a101)])
  refine w_static S199 (y := (⟨"com/example/ookayama/ookayama/EdgeAdditionSearchRootsPinLaw", "relax", "([III)V"⟩ : MethodName)) hown (hwi hw 1 rfl) (hwi hw 2 rfl) (hwi hw 3 rfl) (hwi hw 4 rfl) (by decide) (rm_Rx l Z a0 hw n0 h200 a101 y205 x206 x207 S199.ge  (HS.pw d204 [1] (by decide) rfl rfl) _ _ hf) (W := 0) (by decide) (by decide) (by decide) (by decide) rfl (by rw [hml]; rfl) (argsL := [(.ref a101), (.int (E x206)), (.int (E x207))]) (rest := []) (ps := [(.array .int), .int, .int]) (rt := none) (by decide) rfl rfl rfl (by show 2 * 0 + _ ≤ _; exact Nat.le_of_eq rfl) (hb hby at_218) ?_
  intro T208 h210 w211 S209 q212
  obtain ⟨y215, rfl, d213, hf⟩ := q212
  have d214 : HS Z a0 n0 h31 [aT] h210 [ia aT 70 At, ia a101 68 y215] := HS.call d204 [1] [ia a101 68 y205] [ia a101 68 y215] [] (by decide) rfl rfl d213
  show WGo _ _ _ _ _ _ _ _ T208 (mkF m 221 #[.val (.int p1), .val (.int p2), .val (.int p3), .val (.int p4), .val (.int (E nn)), .val (.ref aT), .val (.ref a101), .unset, .unset, .unset, .unset, .unset] [])
  refine WGo.st (fun _ q => XS.iconst S209.here hx rfl (hb hby at_221) q) ?_
  refine w_anw S209 d214 (hwi hw 0 rfl) rfl rfl (hb hby at_222) rfl (cap := 4) hf (by decide) (by decide) (by decide) ?_
  intro T217 h218 a216 S219 d220 hf
  show WGo _ _ _ _ _ _ _ _ T217 (mkF m 224 #[.val (.int p1), .val (.int p2), .val (.int p3), .val (.int p4), .val (.int (E nn)), .val (.ref aT), .val (.ref a101), .unset, .unset, .unset, .unset, .unset] [(.ref a216)])
  refine WGo.st (fun _ q => XS.astore S219.here hx rfl (hb hby at_224) rfl rfl (l' := #[.val (.int p1), .val (.int p2), .val (.int p3), .val (.int p4), .val (.int (E nn)), .val (.ref aT), .val (.ref a101), .val (.ref a216), .unset, .unset, .unset, .unset]) rfl q) ?_
  show WGo _ _ _ _ _ _ _ _ T217 (mkF m 226 #[.val (.int p1), .val (.int p2), .val (.int p3), .val (.int p4), .val (.int (E nn)), .val (.ref aT), .val (.ref a101), .val (.ref a216), .unset, .unset, .unset, .unset] [])
  refine WGo.st (fun _ q => XS.iconst S219.here hx rfl (hb hby at_226) q) ?_
  refine WGo.st (fun _ q => XS.istore S219.here hx rfl (hb hby at_227) rfl (l' := #[.val (.int p1), .val (.int p2), .val (.int p3), .val (.int p4), .val (.int (E nn)), .val (.ref aT), .val (.ref a101), .val (.ref a216), .val (.int (E 64)), .unset, .unset, .unset]) rfl q) ?_
  show WGo _ _ _ _ _ _ _ _ T217 (mkF m 229 #[.val (.int p1), .val (.int p2), .val (.int p3), .val (.int p4), .val (.int (E nn)), .val (.ref aT), .val (.ref a101), .val (.ref a216), .val (.int (E 64)), .unset, .unset, .unset] [])
  refine WGo.st (fun _ q => XS.aload S219.here hx rfl (hb hby at_229) rfl rfl q) ?_
  refine WGo.st (fun _ q => XS.iconst S219.here hx rfl (hb hby at_231) q) ?_
  refine w_ald S219 d220 (i := 1) rfl rfl (hb hby at_232) rfl hf ?_
  intro x221 hf
  show WGo _ _ _ _ _ _ _ _ T217 (mkF m 233 #[.val (.int p1), .val (.int p2), .val (.int p3), .val (.int p4), .val (.int (E nn)), .val (.ref aT), .val (.ref a101), .val (.ref a216), .val (.int (E 64)), .unset, .unset, .unset] [(.int (E x221))])
  obtain ⟨Kj245, eKj245, hf⟩ := jn_some hf
  have hJ245 : ∀ (T222 : State) (h223 : Heap) (i226 : Nat) (A227 : Nat), WSt p l e room_1 s m #[(.int p1), (.int p2), (.int p3), (.int p4)] below meth c Z n0 T222 h223 (3) (14) → HS Z a0 n0 h31 [aT] h223 [ia aT 70 At, ia a101 68 y215, ia a216 68 A227] → Kj245 i226 A227 = some 65 → WGo p e below s n0 (Q0 Z n0 h0 p1 p2 p3 p4) room_1.cells room_1.slots T222 (mkF m 245 #[.val (.int p1), .val (.int p2), .val (.int p3), .val (.int p4), .val (.int (E nn)), .val (.ref aT), .val (.ref a101), .val (.ref a216), .val (.int (E i226)), .unset, .unset, .unset] []) := by
    intro T222 h223 i226 A227 S224 d225 hf
    rw [eKj245] at hf
    show WGo _ _ _ _ _ _ _ _ T222 (mkF m 245 #[.val (.int p1), .val (.int p2), .val (.int p3), .val (.int p4), .val (.int (E nn)), .val (.ref aT), .val (.ref a101), .val (.ref a216), .val (.int (E i226)), .unset, .unset, .unset] [])
    refine WGo.st (fun _ q => XS.iload S224.here hx rfl (hb hby at_245) rfl q) ?_
    refine WGo.st (fun _ q => XS.iconst S224.here hx rfl (hb hby at_247) q) ?_
    obtain ⟨Kj268, eKj268, hf⟩ := jn_some hf
    have hJ268 : ∀ (T228 : State) (h229 : Heap) (i232 : Nat) (A233 : Nat), WSt p l e room_1 s m #[(.int p1), (.int p2), (.int p3), (.int p4)] below meth c Z n0 T228 h229 (3) (14) → HS Z a0 n0 h31 [aT] h229 [ia aT 70 At, ia a101 68 y215, ia a216 68 A233] → Kj268 i232 A233 = some 65 → WGo p e below s n0 (Q0 Z n0 h0 p1 p2 p3 p4) room_1.cells room_1.slots T228 (mkF m 268 #[.val (.int p1), .val (.int p2), .val (.int p3), .val (.int p4), .val (.int (E nn)), .val (.ref aT), .val (.ref a101), .val (.ref a216), .val (.int (E i232)), .unset, .unset, .unset] []) := by
      intro T228 h229 i232 A233 S230 d231 hf
      rw [eKj268] at hf
      show WGo _ _ _ _ _ _ _ _ T228 (mkF m 268 #[.val (.int p1), .val (.int p2), .val (.int p3), .val (.int p4), .val (.int (E nn)), .val (.ref aT), .val (.ref a101), .val (.ref a216), .val (.int (E i232)), .unset, .unset, .unset] [])
      refine WGo.st (fun _ q => XS.iload S230.here hx rfl (hb hby at_268) rfl q) ?_
      refine WGo.st (fun _ q => XS.iconst S230.here hx rfl (hb hby at_270) q) ?_
      obtain ⟨Kj291, eKj291, hf⟩ := jn_some hf
      have hJ291 : ∀ (T234 : State) (h235 : Heap) (i238 : Nat) (A239 : Nat), WSt p l e room_1 s m #[(.int p1), (.int p2), (.int p3), (.int p4)] below meth c Z n0 T234 h235 (3) (14) → HS Z a0 n0 h31 [aT] h235 [ia aT 70 At, ia a101 68 y215, ia a216 68 A239] → Kj291 i238 A239 = some 65 → WGo p e below s n0 (Q0 Z n0 h0 p1 p2 p3 p4) room_1.cells room_1.slots T234 (mkF m 291 #[.val (.int p1), .val (.int p2), .val (.int p3), .val (.int p4), .val (.int (E nn)), .val (.ref aT), .val (.ref a101), .val (.ref a216), .val (.int (E i238)), .unset, .unset, .unset] []) := by
        intro T234 h235 i238 A239 S236 d237 hf
        rw [eKj291] at hf
        show WGo _ _ _ _ _ _ _ _ T234 (mkF m 291 #[.val (.int p1), .val (.int p2), .val (.int p3), .val (.int p4), .val (.int (E nn)), .val (.ref aT), .val (.ref a101), .val (.ref a216), .val (.int (E i238)), .unset, .unset, .unset] [])
        refine WGo.st (fun _ q => XS.iload S236.here hx rfl (hb hby at_291) rfl q) ?_
        refine WGo.st (fun _ q => XS.iconst S236.here hx rfl (hb hby at_293) q) ?_
        obtain ⟨Kj314, eKj314, hf⟩ := jn_some hf
        have hJ314 : ∀ (T240 : State) (h241 : Heap) (i244 : Nat) (A245 : Nat), WSt p l e room_1 s m #[(.int p1), (.int p2), (.int p3), (.int p4)] below meth c Z n0 T240 h241 (3) (14) → HS Z a0 n0 h31 [aT] h241 [ia aT 70 At, ia a101 68 y215, ia a216 68 A245] → Kj314 i244 A245 = some 65 → WGo p e below s n0 (Q0 Z n0 h0 p1 p2 p3 p4) room_1.cells room_1.slots T240 (mkF m 314 #[.val (.int p1), .val (.int p2), .val (.int p3), .val (.int p4), .val (.int (E nn)), .val (.ref aT), .val (.ref a101), .val (.ref a216), .val (.int (E i244)), .unset, .unset, .unset] []) := by
          intro T240 h241 i244 A245 S242 d243 hf
          rw [eKj314] at hf
          show WGo _ _ _ _ _ _ _ _ T240 (mkF m 314 #[.val (.int p1), .val (.int p2), .val (.int p3), .val (.int p4), .val (.int (E nn)), .val (.ref aT), .val (.ref a101), .val (.ref a216), .val (.int (E i244)), .unset, .unset, .unset] [])
          refine w_ano S242 d243 hown (hwi hw 9 rfl) (hwi hw 10 rfl) (hwi hw 11 rfl) (F := [("mergeStack", "[I", (.null)), ("failedAt", "I", (.int (E 64))), ("failedDescendant", "I", (.int (E 64))), ("ends", "Lcom/example/ookayama/ookayama/EdgeEnds;", (.null)), ("n", "I", (.int (E 64))), ("representative", "[I", (.null)), ("hasCopies", "Z", (.int (E 64))), ("dfi", "[I", (.null)), ("vertexAt", "[I", (.null)), ("parent", "[I", (.null)), ("treeEnd", "[I", (.null)), ("leastAncestor", "[I", (.null)), ("leastAncestorEdge", "[I", (.null)), ("lowpoint", "[I", (.null)), ("lowChild", "[I", (.null)), ("blockedBelow", "[I", (.null)), ("separatedHead", "[I", (.null)), ("separatedNext", "[I", (.null)), ("separatedPrev", "[I", (.null)), ("firstArc", "[I", (.null)), ("lastArc", "[I", (.null)), ("arcNext", "[I", (.null)), ("arcPrev", "[I", (.null)), ("arcNode", "[I", (.null)), ("extFace", "[I", (.null)), ("flipped", "[Z", (.null)), ("backFlag", "[I", (.null)), ("pendingEnd", "[I", (.null)), ("visited", "[I", (.null)), ("pertinentHead", "[I", (.null)), ("pertinentTail", "[I", (.null)), ("pertinentNext", "[I", (.null)), ("pertinentPrev", "[I", (.null)), ("backStart", "[I", (.null)), ("backEnd", "[I", (.null)), ("backLower", "[I", (.null))]) (by decide) (by simp only [List.forall_mem_cons]; exact ⟨⟨Or.inl (hwi hw 34 rfl), (.array .int), by decide, rfl⟩, ⟨Or.inl (hwi hw 36 rfl), .int, by decide, rfl⟩, ⟨Or.inl (hwi hw 38 rfl), .int, by decide, rfl⟩, ⟨Or.inr (hwi hw 40 rfl), (.object "com/example/ookayama/ookayama/EdgeEnds"), by decide, rfl⟩, ⟨Or.inr (hwi hw 47 rfl), .int, by decide, rfl⟩, ⟨Or.inr (hwi hw 77 rfl), (.array .int), by decide, rfl⟩, ⟨Or.inr (hwi hw 82 rfl), .boolean, by decide, rfl⟩, ⟨Or.inr (hwi hw 84 rfl), (.array .int), by decide, rfl⟩, ⟨Or.inr (hwi hw 86 rfl), (.array .int), by decide, rfl⟩, ⟨Or.inr (hwi hw 88 rfl), (.array .int), by decide, rfl⟩, ⟨Or.inr (hwi hw 90 rfl), (.array .int), by decide, rfl⟩, ⟨Or.inr (hwi hw 92 rfl), (.array .int), by decide, rfl⟩, ⟨Or.inr (hwi hw 94 rfl), (.array .int), by decide, rfl⟩, ⟨Or.inr (hwi hw 96 rfl), (.array .int), by decide, rfl⟩, ⟨Or.inr (hwi hw 98 rfl), (.array .int), by decide, rfl⟩, ⟨Or.inr (hwi hw 100 rfl), (.array .int), by decide, rfl⟩, ⟨Or.inr (hwi hw 102 rfl), (.array .int), by decide, rfl⟩, ⟨Or.inr (hwi hw 104 rfl), (.array .int), by decide, rfl⟩, ⟨Or.inr (hwi hw 106 rfl), (.array .int), by decide, rfl⟩, ⟨Or.inr (hwi hw 108 rfl), (.array .int), by decide, rfl⟩, ⟨Or.inr (hwi hw 110 rfl), (.array .int), by decide, rfl⟩, ⟨Or.inr (hwi hw 112 rfl), (.array .int), by decide, rfl⟩, ⟨Or.inr (hwi hw 114 rfl), (.array .int), by decide, rfl⟩, ⟨Or.inr (hwi hw 116 rfl), (.array .int), by decide, rfl⟩, ⟨Or.inr (hwi hw 118 rfl), (.array .int), by decide, rfl⟩, ⟨Or.inr (hwi hw 121 rfl), (.array .boolean), by decide, rfl⟩, ⟨Or.inr (hwi hw 123 rfl), (.array .int), by decide, rfl⟩, ⟨Or.inr (hwi hw 125 rfl), (.array .int), by decide, rfl⟩, ⟨Or.inr (hwi hw 127 rfl), (.array .int), by decide, rfl⟩, ⟨Or.inr (hwi hw 129 rfl), (.array .int), by decide, rfl⟩, ⟨Or.inr (hwi hw 131 rfl), (.array .int), by decide, rfl⟩, ⟨Or.inr (hwi hw 133 rfl), (.array .int), by decide, rfl⟩, ⟨Or.inr (hwi hw 135 rfl), (.array .int), by decide, rfl⟩, ⟨Or.inl (hwi hw 156 rfl), (.array .int), by decide, rfl⟩, ⟨Or.inl (hwi hw 158 rfl), (.array .int), by decide, rfl⟩, ⟨Or.inl (hwi hw 160 rfl), (.array .int), by decide, rfl⟩, fun _ q => nomatch q⟩) rfl (hb hby at_314) (by decide) (by decide) ?_
          intro T247 h248 a246 S249 d250
          show WGo _ _ _ _ _ _ _ _ T247 (mkF m 317 #[.val (.int p1), .val (.int p2), .val (.int p3), .val (.int p4), .val (.int (E nn)), .val (.ref aT), .val (.ref a101), .val (.ref a216), .val (.int (E i244)), .unset, .unset, .unset] [(.ref a246)])
          refine WGo.st (fun _ q => XS.dup S249.here hx rfl (hb hby at_317) rfl rfl q) ?_
          refine w_ano S249 d250 hown (hwi hw 12 rfl) (hwi hw 13 rfl) (hwi hw 14 rfl) (F := [("vertexAt", "[I", (.null)), ("first", "[I", (.null)), ("endsAt", "[I", (.null)), ("neighbourAt", "[I", (.null))]) (by decide) (by simp only [List.forall_mem_cons]; exact ⟨⟨Or.inr (hwi hw 22 rfl), (.array .int), by decide, rfl⟩, ⟨Or.inr (hwi hw 24 rfl), (.array .int), by decide, rfl⟩, ⟨Or.inr (hwi hw 26 rfl), (.array .int), by decide, rfl⟩, ⟨Or.inr (hwi hw 28 rfl), (.array .int), by decide, rfl⟩, fun _ q => nomatch q⟩) rfl (hb hby at_318) (by decide) (by decide) ?_
          intro T252 h253 a251 S254 d255
          show WGo _ _ _ _ _ _ _ _ T252 (mkF m 321 #[.val (.int p1), .val (.int p2), .val (.int p3), .val (.int p4), .val (.int (E nn)), .val (.ref aT), .val (.ref a101), .val (.ref a216), .val (.int (E i244)), .unset, .unset, .unset] [(.ref a251), (.ref a246), (.ref a246)])
          refine WGo.st (fun _ q => XS.dup S254.here hx rfl (hb hby at_321) rfl rfl q) ?_
          refine WGo.st (fun _ q => XS.iload S254.here hx rfl (hb hby at_322) rfl q) ?_
          refine WGo.st (fun _ q => XS.aload S254.here hx rfl (hb hby at_324) rfl rfl q) ?_
          refine w_special S254 (y := (⟨"com/example/ookayama/ookayama/EdgeEnds", "<init>", "(I[I)V"⟩ : MethodName)) rfl hown (hwi hw 15 rfl) (hwi hw 16 rfl) (hwi hw 14 rfl) (hwi hw 17 rfl) (by decide) (rm_Ei l Z a0 hw n0 h253 a251 aT nn At S254.ge  (HS.pw d255 [4, 0] (by decide) rfl rfl) _ _ hf) (W := 3) (by decide) (by decide) (by decide) (by decide) rfl (by rw [hml]; rfl) (argsL := [(.int (E nn)), (.ref aT)]) (rest := [(.ref a251), (.ref a246), (.ref a246)]) (ps := [.int, (.array .int)]) (rt := none) (by decide) rfl rfl rfl (by show 2 * 0 + _ ≤ _; exact Nat.le_of_eq rfl) (hb hby at_326) ?_
          intro T256 h258 w259 S257 q260
          obtain ⟨a267, a268, a269, y263, y264, y265, y266, rfl, d261, hf⟩ := q260
          have d262 : HS Z a0 n0 h31 [aT] h258 [ia aT 70 At, ia a101 68 y215, ia a216 68 A245, ob a246 cA [("mergeStack", "[I", (.null)), ("failedAt", "I", (.int (E 64))), ("failedDescendant", "I", (.int (E 64))), ("ends", "Lcom/example/ookayama/ookayama/EdgeEnds;", (.null)), ("n", "I", (.int (E 64))), ("representative", "[I", (.null)), ("hasCopies", "Z", (.int (E 64))), ("dfi", "[I", (.null)), ("vertexAt", "[I", (.null)), ("parent", "[I", (.null)), ("treeEnd", "[I", (.null)), ("leastAncestor", "[I", (.null)), ("leastAncestorEdge", "[I", (.null)), ("lowpoint", "[I", (.null)), ("lowChild", "[I", (.null)), ("blockedBelow", "[I", (.null)), ("separatedHead", "[I", (.null)), ("separatedNext", "[I", (.null)), ("separatedPrev", "[I", (.null)), ("firstArc", "[I", (.null)), ("lastArc", "[I", (.null)), ("arcNext", "[I", (.null)), ("arcPrev", "[I", (.null)), ("arcNode", "[I", (.null)), ("extFace", "[I", (.null)), ("flipped", "[Z", (.null)), ("backFlag", "[I", (.null)), ("pendingEnd", "[I", (.null)), ("visited", "[I", (.null)), ("pertinentHead", "[I", (.null)), ("pertinentTail", "[I", (.null)), ("pertinentNext", "[I", (.null)), ("pertinentPrev", "[I", (.null)), ("backStart", "[I", (.null)), ("backEnd", "[I", (.null)), ("backLower", "[I", (.null))], ob a251 cE [("vertexAt", "[I", (.ref aT)), ("first", "[I", (.ref a267)), ("endsAt", "[I", (.ref a268)), ("neighbourAt", "[I", (.ref a269))], ia a267 y266 y263, ia a268 70 y264, ia a269 70 y265] := HS.call d255 [4, 0] [ob a251 cE [("vertexAt", "[I", (.null)), ("first", "[I", (.null)), ("endsAt", "[I", (.null)), ("neighbourAt", "[I", (.null))], ia aT 70 At] [ob a251 cE [("vertexAt", "[I", (.ref aT)), ("first", "[I", (.ref a267)), ("endsAt", "[I", (.ref a268)), ("neighbourAt", "[I", (.ref a269))], ia aT 70 At] [ia a267 y266 y263, ia a268 70 y264, ia a269 70 y265] (by decide) rfl rfl d261
          show WGo _ _ _ _ _ _ _ _ T256 (mkF m 329 #[.val (.int p1), .val (.int p2), .val (.int p3), .val (.int p4), .val (.int (E nn)), .val (.ref aT), .val (.ref a101), .val (.ref a216), .val (.int (E i244)), .unset, .unset, .unset] [(.ref a251), (.ref a246), (.ref a246)])
          refine w_special S257 (y := (⟨"com/example/ookayama/ookayama/EdgeAddition", "<init>", "(Lcom/example/ookayama/ookayama/EdgeEnds;)V"⟩ : MethodName)) rfl hown (hwi hw 29 rfl) (hwi hw 30 rfl) (hwi hw 11 rfl) (hwi hw 31 rfl) (by decide) (rm_Ai l Z a0 hw n0 h258 a246 a251 aT a267 a268 a269 [("mergeStack", "[I", (.null)), ("failedAt", "I", (.int (E 64))), ("failedDescendant", "I", (.int (E 64))), ("ends", "Lcom/example/ookayama/ookayama/EdgeEnds;", (.null)), ("n", "I", (.int (E 64))), ("representative", "[I", (.null)), ("hasCopies", "Z", (.int (E 64))), ("dfi", "[I", (.null)), ("vertexAt", "[I", (.null)), ("parent", "[I", (.null)), ("treeEnd", "[I", (.null)), ("leastAncestor", "[I", (.null)), ("leastAncestorEdge", "[I", (.null)), ("lowpoint", "[I", (.null)), ("lowChild", "[I", (.null)), ("blockedBelow", "[I", (.null)), ("separatedHead", "[I", (.null)), ("separatedNext", "[I", (.null)), ("separatedPrev", "[I", (.null)), ("firstArc", "[I", (.null)), ("lastArc", "[I", (.null)), ("arcNext", "[I", (.null)), ("arcPrev", "[I", (.null)), ("arcNode", "[I", (.null)), ("extFace", "[I", (.null)), ("flipped", "[Z", (.null)), ("backFlag", "[I", (.null)), ("pendingEnd", "[I", (.null)), ("visited", "[I", (.null)), ("pertinentHead", "[I", (.null)), ("pertinentTail", "[I", (.null)), ("pertinentNext", "[I", (.null)), ("pertinentPrev", "[I", (.null)), ("backStart", "[I", (.null)), ("backEnd", "[I", (.null)), ("backLower", "[I", (.null))] [("vertexAt", "[I", (.ref aT)), ("first", "[I", (.ref a267)), ("endsAt", "[I", (.ref a268)), ("neighbourAt", "[I", (.ref a269))] y266 At y263 y264 y265 S257.ge rfl rfl rfl rfl rfl rfl rfl rfl rfl rfl rfl rfl rfl rfl rfl rfl rfl rfl rfl rfl rfl rfl rfl rfl rfl rfl rfl rfl rfl rfl rfl rfl rfl rfl rfl rfl rfl rfl rfl rfl (HS.pw d262 [3, 4, 0, 5, 6, 7] (by decide) rfl rfl) _ _ hf) (W := 1) (by decide) (by decide) (by decide) (by decide) rfl (by rw [hml]; rfl) (argsL := [(.ref a251)]) (rest := [(.ref a246)]) (ps := [(.object "com/example/ookayama/ookayama/EdgeEnds")]) (rt := none) (by decide) rfl rfl rfl (by show 2 * 0 + _ ≤ _; exact Nat.le_of_eq rfl) (hb hby at_329) ?_
          intro T270 h272 w273 S271 q274
          obtain ⟨a280, a281, y277, y278, y279, rfl, d275, hf⟩ := q274
          have d276 : HS Z a0 n0 h31 [aT] h272 [ia aT 70 At, ia a101 68 y215, ia a216 68 A245, ob a246 cA [("n", "I", (.int (E y277))), ("parent", "[I", (.ref a281)), ("vertexAt", "[I", (.ref a280))], ob a251 cE [("vertexAt", "[I", (.ref aT)), ("first", "[I", (.ref a267)), ("endsAt", "[I", (.ref a268)), ("neighbourAt", "[I", (.ref a269))], ia a267 y266 y263, ia a268 70 y264, ia a269 70 y265, ia a280 y277 y278, ia a281 y277 y279] := HS.call d262 [3, 4, 0, 5, 6, 7] [ob a246 cA [("mergeStack", "[I", (.null)), ("failedAt", "I", (.int (E 64))), ("failedDescendant", "I", (.int (E 64))), ("ends", "Lcom/example/ookayama/ookayama/EdgeEnds;", (.null)), ("n", "I", (.int (E 64))), ("representative", "[I", (.null)), ("hasCopies", "Z", (.int (E 64))), ("dfi", "[I", (.null)), ("vertexAt", "[I", (.null)), ("parent", "[I", (.null)), ("treeEnd", "[I", (.null)), ("leastAncestor", "[I", (.null)), ("leastAncestorEdge", "[I", (.null)), ("lowpoint", "[I", (.null)), ("lowChild", "[I", (.null)), ("blockedBelow", "[I", (.null)), ("separatedHead", "[I", (.null)), ("separatedNext", "[I", (.null)), ("separatedPrev", "[I", (.null)), ("firstArc", "[I", (.null)), ("lastArc", "[I", (.null)), ("arcNext", "[I", (.null)), ("arcPrev", "[I", (.null)), ("arcNode", "[I", (.null)), ("extFace", "[I", (.null)), ("flipped", "[Z", (.null)), ("backFlag", "[I", (.null)), ("pendingEnd", "[I", (.null)), ("visited", "[I", (.null)), ("pertinentHead", "[I", (.null)), ("pertinentTail", "[I", (.null)), ("pertinentNext", "[I", (.null)), ("pertinentPrev", "[I", (.null)), ("backStart", "[I", (.null)), ("backEnd", "[I", (.null)), ("backLower", "[I", (.null))], ob a251 cE [("vertexAt", "[I", (.ref aT)), ("first", "[I", (.ref a267)), ("endsAt", "[I", (.ref a268)), ("neighbourAt", "[I", (.ref a269))], ia aT 70 At, ia a267 y266 y263, ia a268 70 y264, ia a269 70 y265] [ob a246 cA [("n", "I", (.int (E y277))), ("parent", "[I", (.ref a281)), ("vertexAt", "[I", (.ref a280))], ob a251 cE [("vertexAt", "[I", (.ref aT)), ("first", "[I", (.ref a267)), ("endsAt", "[I", (.ref a268)), ("neighbourAt", "[I", (.ref a269))], ia aT 70 At, ia a267 y266 y263, ia a268 70 y264, ia a269 70 y265] [ia a280 y277 y278, ia a281 y277 y279] (by decide) rfl rfl d275
          show WGo _ _ _ _ _ _ _ _ T270 (mkF m 332 #[.val (.int p1), .val (.int p2), .val (.int p3), .val (.int p4), .val (.int (E nn)), .val (.ref aT), .val (.ref a101), .val (.ref a216), .val (.int (E i244)), .unset, .unset, .unset] [(.ref a246)])
          refine WGo.st (fun _ q => XS.astore S271.here hx rfl (hb hby at_332) rfl rfl (l' := #[.val (.int p1), .val (.int p2), .val (.int p3), .val (.int p4), .val (.int (E nn)), .val (.ref aT), .val (.ref a101), .val (.ref a216), .val (.int (E i244)), .val (.ref a246), .unset, .unset]) rfl q) ?_
          show WGo _ _ _ _ _ _ _ _ T270 (mkF m 334 #[.val (.int p1), .val (.int p2), .val (.int p3), .val (.int p4), .val (.int (E nn)), .val (.ref aT), .val (.ref a101), .val (.ref a216), .val (.int (E i244)), .val (.ref a246), .unset, .unset] [])
          refine WGo.st (fun _ q => XS.aload S271.here hx rfl (hb hby at_334) rfl rfl q) ?_
          refine w_virtual S271 (y := (⟨"com/example/ookayama/ookayama/EdgeAddition", "searchRoots", "()[I"⟩ : MethodName)) hown (hwi hw 173 rfl) (hwi hw 174 rfl) (hwi hw 176 rfl) (hwi hw 175 rfl) (hwi hw 11 rfl) (hwi hw 177 rfl) (by decide) (HS.obj d276 (i := 3) rfl) (rm_Sr l Z a0 hw n0 h272 a246 a280 a281 y277 y278 y279 S271.ge  (HS.pw d276 [3, 8, 9] (by decide) rfl rfl) _ _ hf) (W := 0) (by decide) (by decide) (by decide) (by decide) rfl (by rw [hml]; rfl) (argsL := []) (rest := []) (ps := []) (rt := (some (.array .int))) (by decide) rfl rfl rfl (by show 2 * 0 + _ ≤ _; exact Nat.le_of_eq rfl) (hb hby at_336) ?_
          intro T282 h284 w285 S283 q286
          obtain ⟨a291, y289, y290, rfl, d287, hf⟩ := q286
          have d288 : HS Z a0 n0 h31 [aT] h284 [ia aT 70 At, ia a101 68 y215, ia a216 68 A245, ob a246 cA [("n", "I", (.int (E y277))), ("parent", "[I", (.ref a281)), ("vertexAt", "[I", (.ref a280))], ob a251 cE [("vertexAt", "[I", (.ref aT)), ("first", "[I", (.ref a267)), ("endsAt", "[I", (.ref a268)), ("neighbourAt", "[I", (.ref a269))], ia a267 y266 y263, ia a268 70 y264, ia a269 70 y265, ia a280 y277 y278, ia a281 y277 y279, ia a291 y290 y289] := HS.call d276 [3, 8, 9] [ob a246 cA [("n", "I", (.int (E y277))), ("parent", "[I", (.ref a281)), ("vertexAt", "[I", (.ref a280))], ia a280 y277 y278, ia a281 y277 y279] [ob a246 cA [("n", "I", (.int (E y277))), ("parent", "[I", (.ref a281)), ("vertexAt", "[I", (.ref a280))], ia a280 y277 y278, ia a281 y277 y279] [ia a291 y290 y289] (by decide) rfl rfl d287
          show WGo _ _ _ _ _ _ _ _ T282 (mkF m 339 #[.val (.int p1), .val (.int p2), .val (.int p3), .val (.int p4), .val (.int (E nn)), .val (.ref aT), .val (.ref a101), .val (.ref a216), .val (.int (E i244)), .val (.ref a246), .unset, .unset] [(.ref a291)])
          refine WGo.st (fun _ q => XS.astore S283.here hx rfl (hb hby at_339) rfl rfl (l' := #[.val (.int p1), .val (.int p2), .val (.int p3), .val (.int p4), .val (.int (E nn)), .val (.ref aT), .val (.ref a101), .val (.ref a216), .val (.int (E i244)), .val (.ref a246), .val (.ref a291), .unset]) rfl q) ?_
          show WGo _ _ _ _ _ _ _ _ T282 (mkF m 341 #[.val (.int p1), .val (.int p2), .val (.int p3), .val (.int p4), .val (.int (E nn)), .val (.ref aT), .val (.ref a101), .val (.ref a216), .val (.int (E i244)), .val (.ref a246), .val (.ref a291), .unset] [])
          refine WGo.st (fun _ q => XS.aload S283.here hx rfl (hb hby at_341) rfl rfl q) ?_
          refine w_aln S283 d288 (i := 10) rfl rfl (hb hby at_343) rfl hf ?_
          intro hf
          show WGo _ _ _ _ _ _ _ _ T282 (mkF m 344 #[.val (.int p1), .val (.int p2), .val (.int p3), .val (.int p4), .val (.int (E nn)), .val (.ref aT), .val (.ref a101), .val (.ref a216), .val (.int (E i244)), .val (.ref a246), .val (.ref a291), .unset] [(.int (E y290))])
          refine WGo.st (fun _ q => XS.iload S283.here hx rfl (hb hby at_344) rfl q) ?_
          rcases eqN_some hf with ⟨c346, hf⟩ | ⟨c346, hf⟩
          · refine WGo.st (fun _ q => XS.icmpYes S283.here hx rfl (pc0 := 346) (pc' := 351) rfl (hb hby at_346) rfl (teq c346).1 (by decide) (by decide) q) ?_
            show WGo _ _ _ _ _ _ _ _ T282 (mkF m 351 #[.val (.int p1), .val (.int p2), .val (.int p3), .val (.int p4), .val (.int (E nn)), .val (.ref aT), .val (.ref a101), .val (.ref a216), .val (.int (E i244)), .val (.ref a246), .val (.ref a291), .unset] [])
            refine WGo.st (fun _ q => XS.iconst S283.here hx rfl (hb hby at_351) q) ?_
            refine WGo.st (fun _ q => XS.istore S283.here hx rfl (hb hby at_352) rfl (l' := #[.val (.int p1), .val (.int p2), .val (.int p3), .val (.int p4), .val (.int (E nn)), .val (.ref aT), .val (.ref a101), .val (.ref a216), .val (.int (E i244)), .val (.ref a246), .val (.ref a291), .val (.int (E 65))]) rfl q) ?_
            show WGo _ _ _ _ _ _ _ _ T282 (mkF m 354 #[.val (.int p1), .val (.int p2), .val (.int p3), .val (.int p4), .val (.int (E nn)), .val (.ref aT), .val (.ref a101), .val (.ref a216), .val (.int (E i244)), .val (.ref a246), .val (.ref a291), .val (.int (E 65))] [])
            refine WGo.st (fun _ q => XS.iload S283.here hx rfl (hb hby at_354) rfl q) ?_
            obtain ⟨Kj382, eKj382, hf⟩ := jn_some hf
            have hJ382 : ∀ (T292 : State) (h293 : Heap) (i296 : Nat), WSt p l e room_1 s m #[(.int p1), (.int p2), (.int p3), (.int p4)] below meth c Z n0 T292 h293 (58) (380) → HS Z a0 n0 h31 [aT] h293 [ia aT 70 At, ia a101 68 y215, ia a216 68 A245, ob a246 cA [("n", "I", (.int (E y277))), ("parent", "[I", (.ref a281)), ("vertexAt", "[I", (.ref a280))], ob a251 cE [("vertexAt", "[I", (.ref aT)), ("first", "[I", (.ref a267)), ("endsAt", "[I", (.ref a268)), ("neighbourAt", "[I", (.ref a269))], ia a267 y266 y263, ia a268 70 y264, ia a269 70 y265, ia a280 y277 y278, ia a281 y277 y279, ia a291 y290 y289] → Kj382 i296 = some 65 → WGo p e below s n0 (Q0 Z n0 h0 p1 p2 p3 p4) room_1.cells room_1.slots T292 (mkF m 382 #[.val (.int p1), .val (.int p2), .val (.int p3), .val (.int p4), .val (.int (E nn)), .val (.ref aT), .val (.ref a101), .val (.ref a216), .val (.int (E i244)), .val (.ref a246), .val (.ref a291), .val (.int (E i296))] []) := by
              intro T292 h293 i296 S294 d295 hf
              rw [eKj382] at hf
              show WGo _ _ _ _ _ _ _ _ T292 (mkF m 382 #[.val (.int p1), .val (.int p2), .val (.int p3), .val (.int p4), .val (.int (E nn)), .val (.ref aT), .val (.ref a101), .val (.ref a216), .val (.int (E i244)), .val (.ref a246), .val (.ref a291), .val (.int (E i296))] [])
              refine WGo.st (fun _ q => XS.iload S294.here hx rfl (hb hby at_382) rfl q) ?_
              refine WGo.st (fun _ q => XS.iconst S294.here hx rfl (hb hby at_384) q) ?_
              obtain ⟨Kj411, eKj411, hf⟩ := jn_some hf
              have hJ411 : ∀ (T297 : State) (h298 : Heap) (i301 : Nat), WSt p l e room_1 s m #[(.int p1), (.int p2), (.int p3), (.int p4)] below meth c Z n0 T297 h298 (58) (380) → HS Z a0 n0 h31 [aT] h298 [ia aT 70 At, ia a101 68 y215, ia a216 68 A245, ob a246 cA [("n", "I", (.int (E y277))), ("parent", "[I", (.ref a281)), ("vertexAt", "[I", (.ref a280))], ob a251 cE [("vertexAt", "[I", (.ref aT)), ("first", "[I", (.ref a267)), ("endsAt", "[I", (.ref a268)), ("neighbourAt", "[I", (.ref a269))], ia a267 y266 y263, ia a268 70 y264, ia a269 70 y265, ia a280 y277 y278, ia a281 y277 y279, ia a291 y290 y289] → Kj411 i301 = some 65 → WGo p e below s n0 (Q0 Z n0 h0 p1 p2 p3 p4) room_1.cells room_1.slots T297 (mkF m 411 #[.val (.int p1), .val (.int p2), .val (.int p3), .val (.int p4), .val (.int (E nn)), .val (.ref aT), .val (.ref a101), .val (.ref a216), .val (.int (E i244)), .val (.ref a246), .val (.ref a291), .val (.int (E i301))] []) := by
                intro T297 h298 i301 S299 d300 hf
                rw [eKj411] at hf
                show WGo _ _ _ _ _ _ _ _ T297 (mkF m 411 #[.val (.int p1), .val (.int p2), .val (.int p3), .val (.int p4), .val (.int (E nn)), .val (.ref aT), .val (.ref a101), .val (.ref a216), .val (.int (E i244)), .val (.ref a246), .val (.ref a291), .val (.int (E i301))] [])
                refine WGo.st (fun _ q => XS.iload S299.here hx rfl (hb hby at_411) rfl q) ?_
                refine WGo.st (fun _ q => XS.iconst S299.here hx rfl (hb hby at_413) q) ?_
                obtain ⟨Kj440, eKj440, hf⟩ := jn_some hf
                have hJ440 : ∀ (T302 : State) (h303 : Heap) (i306 : Nat), WSt p l e room_1 s m #[(.int p1), (.int p2), (.int p3), (.int p4)] below meth c Z n0 T302 h303 (58) (380) → HS Z a0 n0 h31 [aT] h303 [ia aT 70 At, ia a101 68 y215, ia a216 68 A245, ob a246 cA [("n", "I", (.int (E y277))), ("parent", "[I", (.ref a281)), ("vertexAt", "[I", (.ref a280))], ob a251 cE [("vertexAt", "[I", (.ref aT)), ("first", "[I", (.ref a267)), ("endsAt", "[I", (.ref a268)), ("neighbourAt", "[I", (.ref a269))], ia a267 y266 y263, ia a268 70 y264, ia a269 70 y265, ia a280 y277 y278, ia a281 y277 y279, ia a291 y290 y289] → Kj440 i306 = some 65 → WGo p e below s n0 (Q0 Z n0 h0 p1 p2 p3 p4) room_1.cells room_1.slots T302 (mkF m 440 #[.val (.int p1), .val (.int p2), .val (.int p3), .val (.int p4), .val (.int (E nn)), .val (.ref aT), .val (.ref a101), .val (.ref a216), .val (.int (E i244)), .val (.ref a246), .val (.ref a291), .val (.int (E i306))] []) := by
                  intro T302 h303 i306 S304 d305 hf
                  rw [eKj440] at hf
                  show WGo _ _ _ _ _ _ _ _ T302 (mkF m 440 #[.val (.int p1), .val (.int p2), .val (.int p3), .val (.int p4), .val (.int (E nn)), .val (.ref aT), .val (.ref a101), .val (.ref a216), .val (.int (E i244)), .val (.ref a246), .val (.ref a291), .val (.int (E i306))] [])
                  refine WGo.st (fun _ q => XS.iload S304.here hx rfl (hb hby at_440) rfl q) ?_
                  refine WGo.st (fun _ q => XS.iconst S304.here hx rfl (hb hby at_442) q) ?_
                  obtain ⟨Kj469, eKj469, hf⟩ := jn_some hf
                  have hJ469 : ∀ (T307 : State) (h308 : Heap) (i311 : Nat), WSt p l e room_1 s m #[(.int p1), (.int p2), (.int p3), (.int p4)] below meth c Z n0 T307 h308 (58) (380) → HS Z a0 n0 h31 [aT] h308 [ia aT 70 At, ia a101 68 y215, ia a216 68 A245, ob a246 cA [("n", "I", (.int (E y277))), ("parent", "[I", (.ref a281)), ("vertexAt", "[I", (.ref a280))], ob a251 cE [("vertexAt", "[I", (.ref aT)), ("first", "[I", (.ref a267)), ("endsAt", "[I", (.ref a268)), ("neighbourAt", "[I", (.ref a269))], ia a267 y266 y263, ia a268 70 y264, ia a269 70 y265, ia a280 y277 y278, ia a281 y277 y279, ia a291 y290 y289] → Kj469 i311 = some 65 → WGo p e below s n0 (Q0 Z n0 h0 p1 p2 p3 p4) room_1.cells room_1.slots T307 (mkF m 469 #[.val (.int p1), .val (.int p2), .val (.int p3), .val (.int p4), .val (.int (E nn)), .val (.ref aT), .val (.ref a101), .val (.ref a216), .val (.int (E i244)), .val (.ref a246), .val (.ref a291), .val (.int (E i311))] []) := by
                    intro T307 h308 i311 S309 d310 hf
                    rw [eKj469] at hf
                    show WGo _ _ _ _ _ _ _ _ T307 (mkF m 469 #[.val (.int p1), .val (.int p2), .val (.int p3), .val (.int p4), .val (.int (E nn)), .val (.ref aT), .val (.ref a101), .val (.ref a216), .val (.int (E i244)), .val (.ref a246), .val (.ref a291), .val (.int (E i311))] [])
                    refine WGo.st (fun _ q => XS.iload S309.here hx rfl (hb hby at_469) rfl q) ?_
                    refine w_retZ S309 hret (hb hby at_471) (by first | decide | (obtain rfl := Option.some.inj hf; decide)) (by decide) (by decide) ?_
                    obtain rfl := Option.some.inj hf; rfl
                  rcases ltN_some hf with ⟨c443, hf⟩ | ⟨c443, hf⟩
                  · refine WGo.st (fun _ q => XS.icmpNo S304.here hx rfl (hb hby at_443) rfl (tlt c443).2.2.2 q) ?_
                    show WGo _ _ _ _ _ _ _ _ T302 (mkF m 446 #[.val (.int p1), .val (.int p2), .val (.int p3), .val (.int p4), .val (.int (E nn)), .val (.ref aT), .val (.ref a101), .val (.ref a216), .val (.int (E i244)), .val (.ref a246), .val (.ref a291), .val (.int (E i306))] [])
                    refine WGo.st (fun _ q => XS.iload S304.here hx rfl (hb hby at_446) rfl q) ?_
                    rcases eqN_some hf with ⟨c448, hf⟩ | ⟨c448, hf⟩
                    · refine WGo.st (fun _ q => XS.ifYes S304.here hx rfl (pc0 := 448) (pc' := 466) rfl (hb hby at_448) rfl ((if0E _ _).trans (teq c448).1) (by decide) (by decide) q) ?_
                      show WGo _ _ _ _ _ _ _ _ T302 (mkF m 466 #[.val (.int p1), .val (.int p2), .val (.int p3), .val (.int p4), .val (.int (E nn)), .val (.ref aT), .val (.ref a101), .val (.ref a216), .val (.int (E i244)), .val (.ref a246), .val (.ref a291), .val (.int (E i306))] [])
                      refine WGo.st (fun _ q => XS.iconst S304.here hx rfl (hb hby at_466) q) ?_
                      refine WGo.st (fun _ q => XS.istore S304.here hx rfl (hb hby at_467) rfl (l' := #[.val (.int p1), .val (.int p2), .val (.int p3), .val (.int p4), .val (.int (E nn)), .val (.ref aT), .val (.ref a101), .val (.ref a216), .val (.int (E i244)), .val (.ref a246), .val (.ref a291), .val (.int (E 64))]) rfl q) ?_
                      show WGo _ _ _ _ _ _ _ _ T302 (mkF m 469 #[.val (.int p1), .val (.int p2), .val (.int p3), .val (.int p4), .val (.int (E nn)), .val (.ref aT), .val (.ref a101), .val (.ref a216), .val (.int (E i244)), .val (.ref a246), .val (.ref a291), .val (.int (E 64))] [])
                      exact hJ469 T302 h303 64 S304 d305 hf
                    · refine WGo.st (fun _ q => XS.ifNo S304.here hx rfl (hb hby at_448) rfl ((if0E _ _).trans (feq c448).1) q) ?_
                      show WGo _ _ _ _ _ _ _ _ T302 (mkF m 451 #[.val (.int p1), .val (.int p2), .val (.int p3), .val (.int p4), .val (.int (E nn)), .val (.ref aT), .val (.ref a101), .val (.ref a216), .val (.int (E i244)), .val (.ref a246), .val (.ref a291), .val (.int (E i306))] [])
                      refine WGo.st (fun _ q => XS.aload S304.here hx rfl (hb hby at_451) rfl rfl q) ?_
                      refine WGo.st (fun _ q => XS.iconst S304.here hx rfl (hb hby at_453) q) ?_
                      refine w_ald S304 d305 (i := 10) rfl rfl (hb hby at_454) rfl hf ?_
                      intro x312 hf
                      show WGo _ _ _ _ _ _ _ _ T302 (mkF m 455 #[.val (.int p1), .val (.int p2), .val (.int p3), .val (.int p4), .val (.int (E nn)), .val (.ref aT), .val (.ref a101), .val (.ref a216), .val (.int (E i244)), .val (.ref a246), .val (.ref a291), .val (.int (E i306))] [(.int (E x312))])
                      refine WGo.st (fun _ q => XS.aload S304.here hx rfl (hb hby at_455) rfl rfl q) ?_
                      refine WGo.st (fun _ q => XS.iconst S304.here hx rfl (hb hby at_457) q) ?_
                      refine w_ald S304 d305 (i := 2) rfl rfl (hb hby at_458) rfl hf ?_
                      intro x313 hf
                      show WGo _ _ _ _ _ _ _ _ T302 (mkF m 459 #[.val (.int p1), .val (.int p2), .val (.int p3), .val (.int p4), .val (.int (E nn)), .val (.ref aT), .val (.ref a101), .val (.ref a216), .val (.int (E i244)), .val (.ref a246), .val (.ref a291), .val (.int (E i306))] [(.int (E x313)), (.int (E x312))])
                      rcases eqN_some hf with ⟨c459, hf⟩ | ⟨c459, hf⟩
                      · refine WGo.st (fun _ q => XS.icmpNo S304.here hx rfl (hb hby at_459) rfl (teq c459).2 q) ?_
                        show WGo _ _ _ _ _ _ _ _ T302 (mkF m 462 #[.val (.int p1), .val (.int p2), .val (.int p3), .val (.int p4), .val (.int (E nn)), .val (.ref aT), .val (.ref a101), .val (.ref a216), .val (.int (E i244)), .val (.ref a246), .val (.ref a291), .val (.int (E i306))] [])
                        refine WGo.st (fun _ q => XS.iconst S304.here hx rfl (hb hby at_462) q) ?_
                        refine WGo.st (fun _ q => XS.goto S304.here hx rfl (pc0 := 463) (pc' := 467) rfl (hb hby at_463) (by decide) (by decide) q) ?_
                        show WGo _ _ _ _ _ _ _ _ T302 (mkF m 467 #[.val (.int p1), .val (.int p2), .val (.int p3), .val (.int p4), .val (.int (E nn)), .val (.ref aT), .val (.ref a101), .val (.ref a216), .val (.int (E i244)), .val (.ref a246), .val (.ref a291), .val (.int (E i306))] [(.int (E 65))])
                        refine WGo.st (fun _ q => XS.istore S304.here hx rfl (hb hby at_467) rfl (l' := #[.val (.int p1), .val (.int p2), .val (.int p3), .val (.int p4), .val (.int (E nn)), .val (.ref aT), .val (.ref a101), .val (.ref a216), .val (.int (E i244)), .val (.ref a246), .val (.ref a291), .val (.int (E 65))]) rfl q) ?_
                        show WGo _ _ _ _ _ _ _ _ T302 (mkF m 469 #[.val (.int p1), .val (.int p2), .val (.int p3), .val (.int p4), .val (.int (E nn)), .val (.ref aT), .val (.ref a101), .val (.ref a216), .val (.int (E i244)), .val (.ref a246), .val (.ref a291), .val (.int (E 65))] [])
                        exact hJ469 T302 h303 65 S304 d305 hf
                      · refine WGo.st (fun _ q => XS.icmpYes S304.here hx rfl (pc0 := 459) (pc' := 466) rfl (hb hby at_459) rfl (feq c459).2 (by decide) (by decide) q) ?_
                        show WGo _ _ _ _ _ _ _ _ T302 (mkF m 466 #[.val (.int p1), .val (.int p2), .val (.int p3), .val (.int p4), .val (.int (E nn)), .val (.ref aT), .val (.ref a101), .val (.ref a216), .val (.int (E i244)), .val (.ref a246), .val (.ref a291), .val (.int (E i306))] [])
                        refine WGo.st (fun _ q => XS.iconst S304.here hx rfl (hb hby at_466) q) ?_
                        refine WGo.st (fun _ q => XS.istore S304.here hx rfl (hb hby at_467) rfl (l' := #[.val (.int p1), .val (.int p2), .val (.int p3), .val (.int p4), .val (.int (E nn)), .val (.ref aT), .val (.ref a101), .val (.ref a216), .val (.int (E i244)), .val (.ref a246), .val (.ref a291), .val (.int (E 64))]) rfl q) ?_
                        show WGo _ _ _ _ _ _ _ _ T302 (mkF m 469 #[.val (.int p1), .val (.int p2), .val (.int p3), .val (.int p4), .val (.int (E nn)), .val (.ref aT), .val (.ref a101), .val (.ref a216), .val (.int (E i244)), .val (.ref a246), .val (.ref a291), .val (.int (E 64))] [])
                        exact hJ469 T302 h303 64 S304 d305 hf
                  · refine WGo.st (fun _ q => XS.icmpYes S304.here hx rfl (pc0 := 443) (pc' := 469) rfl (hb hby at_443) rfl (flt c443).2.2.2 (by decide) (by decide) q) ?_
                    show WGo _ _ _ _ _ _ _ _ T302 (mkF m 469 #[.val (.int p1), .val (.int p2), .val (.int p3), .val (.int p4), .val (.int (E nn)), .val (.ref aT), .val (.ref a101), .val (.ref a216), .val (.int (E i244)), .val (.ref a246), .val (.ref a291), .val (.int (E i306))] [])
                    exact hJ469 T302 h303 i306 S304 d305 hf
                rcases ltN_some hf with ⟨c414, hf⟩ | ⟨c414, hf⟩
                · refine WGo.st (fun _ q => XS.icmpNo S299.here hx rfl (hb hby at_414) rfl (tlt c414).2.2.2 q) ?_
                  show WGo _ _ _ _ _ _ _ _ T297 (mkF m 417 #[.val (.int p1), .val (.int p2), .val (.int p3), .val (.int p4), .val (.int (E nn)), .val (.ref aT), .val (.ref a101), .val (.ref a216), .val (.int (E i244)), .val (.ref a246), .val (.ref a291), .val (.int (E i301))] [])
                  refine WGo.st (fun _ q => XS.iload S299.here hx rfl (hb hby at_417) rfl q) ?_
                  rcases eqN_some hf with ⟨c419, hf⟩ | ⟨c419, hf⟩
                  · refine WGo.st (fun _ q => XS.ifYes S299.here hx rfl (pc0 := 419) (pc' := 437) rfl (hb hby at_419) rfl ((if0E _ _).trans (teq c419).1) (by decide) (by decide) q) ?_
                    show WGo _ _ _ _ _ _ _ _ T297 (mkF m 437 #[.val (.int p1), .val (.int p2), .val (.int p3), .val (.int p4), .val (.int (E nn)), .val (.ref aT), .val (.ref a101), .val (.ref a216), .val (.int (E i244)), .val (.ref a246), .val (.ref a291), .val (.int (E i301))] [])
                    refine WGo.st (fun _ q => XS.iconst S299.here hx rfl (hb hby at_437) q) ?_
                    refine WGo.st (fun _ q => XS.istore S299.here hx rfl (hb hby at_438) rfl (l' := #[.val (.int p1), .val (.int p2), .val (.int p3), .val (.int p4), .val (.int (E nn)), .val (.ref aT), .val (.ref a101), .val (.ref a216), .val (.int (E i244)), .val (.ref a246), .val (.ref a291), .val (.int (E 64))]) rfl q) ?_
                    show WGo _ _ _ _ _ _ _ _ T297 (mkF m 440 #[.val (.int p1), .val (.int p2), .val (.int p3), .val (.int p4), .val (.int (E nn)), .val (.ref aT), .val (.ref a101), .val (.ref a216), .val (.int (E i244)), .val (.ref a246), .val (.ref a291), .val (.int (E 64))] [])
                    exact hJ440 T297 h298 64 S299 d300 hf
                  · refine WGo.st (fun _ q => XS.ifNo S299.here hx rfl (hb hby at_419) rfl ((if0E _ _).trans (feq c419).1) q) ?_
                    show WGo _ _ _ _ _ _ _ _ T297 (mkF m 422 #[.val (.int p1), .val (.int p2), .val (.int p3), .val (.int p4), .val (.int (E nn)), .val (.ref aT), .val (.ref a101), .val (.ref a216), .val (.int (E i244)), .val (.ref a246), .val (.ref a291), .val (.int (E i301))] [])
                    refine WGo.st (fun _ q => XS.aload S299.here hx rfl (hb hby at_422) rfl rfl q) ?_
                    refine WGo.st (fun _ q => XS.iconst S299.here hx rfl (hb hby at_424) q) ?_
                    refine w_ald S299 d300 (i := 10) rfl rfl (hb hby at_425) rfl hf ?_
                    intro x314 hf
                    show WGo _ _ _ _ _ _ _ _ T297 (mkF m 426 #[.val (.int p1), .val (.int p2), .val (.int p3), .val (.int p4), .val (.int (E nn)), .val (.ref aT), .val (.ref a101), .val (.ref a216), .val (.int (E i244)), .val (.ref a246), .val (.ref a291), .val (.int (E i301))] [(.int (E x314))])
                    refine WGo.st (fun _ q => XS.aload S299.here hx rfl (hb hby at_426) rfl rfl q) ?_
                    refine WGo.st (fun _ q => XS.iconst S299.here hx rfl (hb hby at_428) q) ?_
                    refine w_ald S299 d300 (i := 2) rfl rfl (hb hby at_429) rfl hf ?_
                    intro x315 hf
                    show WGo _ _ _ _ _ _ _ _ T297 (mkF m 430 #[.val (.int p1), .val (.int p2), .val (.int p3), .val (.int p4), .val (.int (E nn)), .val (.ref aT), .val (.ref a101), .val (.ref a216), .val (.int (E i244)), .val (.ref a246), .val (.ref a291), .val (.int (E i301))] [(.int (E x315)), (.int (E x314))])
                    rcases eqN_some hf with ⟨c430, hf⟩ | ⟨c430, hf⟩
                    · refine WGo.st (fun _ q => XS.icmpNo S299.here hx rfl (hb hby at_430) rfl (teq c430).2 q) ?_
                      show WGo _ _ _ _ _ _ _ _ T297 (mkF m 433 #[.val (.int p1), .val (.int p2), .val (.int p3), .val (.int p4), .val (.int (E nn)), .val (.ref aT), .val (.ref a101), .val (.ref a216), .val (.int (E i244)), .val (.ref a246), .val (.ref a291), .val (.int (E i301))] [])
                      refine WGo.st (fun _ q => XS.iconst S299.here hx rfl (hb hby at_433) q) ?_
                      refine WGo.st (fun _ q => XS.goto S299.here hx rfl (pc0 := 434) (pc' := 438) rfl (hb hby at_434) (by decide) (by decide) q) ?_
                      show WGo _ _ _ _ _ _ _ _ T297 (mkF m 438 #[.val (.int p1), .val (.int p2), .val (.int p3), .val (.int p4), .val (.int (E nn)), .val (.ref aT), .val (.ref a101), .val (.ref a216), .val (.int (E i244)), .val (.ref a246), .val (.ref a291), .val (.int (E i301))] [(.int (E 65))])
                      refine WGo.st (fun _ q => XS.istore S299.here hx rfl (hb hby at_438) rfl (l' := #[.val (.int p1), .val (.int p2), .val (.int p3), .val (.int p4), .val (.int (E nn)), .val (.ref aT), .val (.ref a101), .val (.ref a216), .val (.int (E i244)), .val (.ref a246), .val (.ref a291), .val (.int (E 65))]) rfl q) ?_
                      show WGo _ _ _ _ _ _ _ _ T297 (mkF m 440 #[.val (.int p1), .val (.int p2), .val (.int p3), .val (.int p4), .val (.int (E nn)), .val (.ref aT), .val (.ref a101), .val (.ref a216), .val (.int (E i244)), .val (.ref a246), .val (.ref a291), .val (.int (E 65))] [])
                      exact hJ440 T297 h298 65 S299 d300 hf
                    · refine WGo.st (fun _ q => XS.icmpYes S299.here hx rfl (pc0 := 430) (pc' := 437) rfl (hb hby at_430) rfl (feq c430).2 (by decide) (by decide) q) ?_
                      show WGo _ _ _ _ _ _ _ _ T297 (mkF m 437 #[.val (.int p1), .val (.int p2), .val (.int p3), .val (.int p4), .val (.int (E nn)), .val (.ref aT), .val (.ref a101), .val (.ref a216), .val (.int (E i244)), .val (.ref a246), .val (.ref a291), .val (.int (E i301))] [])
                      refine WGo.st (fun _ q => XS.iconst S299.here hx rfl (hb hby at_437) q) ?_
                      refine WGo.st (fun _ q => XS.istore S299.here hx rfl (hb hby at_438) rfl (l' := #[.val (.int p1), .val (.int p2), .val (.int p3), .val (.int p4), .val (.int (E nn)), .val (.ref aT), .val (.ref a101), .val (.ref a216), .val (.int (E i244)), .val (.ref a246), .val (.ref a291), .val (.int (E 64))]) rfl q) ?_
                      show WGo _ _ _ _ _ _ _ _ T297 (mkF m 440 #[.val (.int p1), .val (.int p2), .val (.int p3), .val (.int p4), .val (.int (E nn)), .val (.ref aT), .val (.ref a101), .val (.ref a216), .val (.int (E i244)), .val (.ref a246), .val (.ref a291), .val (.int (E 64))] [])
                      exact hJ440 T297 h298 64 S299 d300 hf
                · refine WGo.st (fun _ q => XS.icmpYes S299.here hx rfl (pc0 := 414) (pc' := 440) rfl (hb hby at_414) rfl (flt c414).2.2.2 (by decide) (by decide) q) ?_
                  show WGo _ _ _ _ _ _ _ _ T297 (mkF m 440 #[.val (.int p1), .val (.int p2), .val (.int p3), .val (.int p4), .val (.int (E nn)), .val (.ref aT), .val (.ref a101), .val (.ref a216), .val (.int (E i244)), .val (.ref a246), .val (.ref a291), .val (.int (E i301))] [])
                  exact hJ440 T297 h298 i301 S299 d300 hf
              rcases ltN_some hf with ⟨c385, hf⟩ | ⟨c385, hf⟩
              · refine WGo.st (fun _ q => XS.icmpNo S294.here hx rfl (hb hby at_385) rfl (tlt c385).2.2.2 q) ?_
                show WGo _ _ _ _ _ _ _ _ T292 (mkF m 388 #[.val (.int p1), .val (.int p2), .val (.int p3), .val (.int p4), .val (.int (E nn)), .val (.ref aT), .val (.ref a101), .val (.ref a216), .val (.int (E i244)), .val (.ref a246), .val (.ref a291), .val (.int (E i296))] [])
                refine WGo.st (fun _ q => XS.iload S294.here hx rfl (hb hby at_388) rfl q) ?_
                rcases eqN_some hf with ⟨c390, hf⟩ | ⟨c390, hf⟩
                · refine WGo.st (fun _ q => XS.ifYes S294.here hx rfl (pc0 := 390) (pc' := 408) rfl (hb hby at_390) rfl ((if0E _ _).trans (teq c390).1) (by decide) (by decide) q) ?_
                  show WGo _ _ _ _ _ _ _ _ T292 (mkF m 408 #[.val (.int p1), .val (.int p2), .val (.int p3), .val (.int p4), .val (.int (E nn)), .val (.ref aT), .val (.ref a101), .val (.ref a216), .val (.int (E i244)), .val (.ref a246), .val (.ref a291), .val (.int (E i296))] [])
                  refine WGo.st (fun _ q => XS.iconst S294.here hx rfl (hb hby at_408) q) ?_
                  refine WGo.st (fun _ q => XS.istore S294.here hx rfl (hb hby at_409) rfl (l' := #[.val (.int p1), .val (.int p2), .val (.int p3), .val (.int p4), .val (.int (E nn)), .val (.ref aT), .val (.ref a101), .val (.ref a216), .val (.int (E i244)), .val (.ref a246), .val (.ref a291), .val (.int (E 64))]) rfl q) ?_
                  show WGo _ _ _ _ _ _ _ _ T292 (mkF m 411 #[.val (.int p1), .val (.int p2), .val (.int p3), .val (.int p4), .val (.int (E nn)), .val (.ref aT), .val (.ref a101), .val (.ref a216), .val (.int (E i244)), .val (.ref a246), .val (.ref a291), .val (.int (E 64))] [])
                  exact hJ411 T292 h293 64 S294 d295 hf
                · refine WGo.st (fun _ q => XS.ifNo S294.here hx rfl (hb hby at_390) rfl ((if0E _ _).trans (feq c390).1) q) ?_
                  show WGo _ _ _ _ _ _ _ _ T292 (mkF m 393 #[.val (.int p1), .val (.int p2), .val (.int p3), .val (.int p4), .val (.int (E nn)), .val (.ref aT), .val (.ref a101), .val (.ref a216), .val (.int (E i244)), .val (.ref a246), .val (.ref a291), .val (.int (E i296))] [])
                  refine WGo.st (fun _ q => XS.aload S294.here hx rfl (hb hby at_393) rfl rfl q) ?_
                  refine WGo.st (fun _ q => XS.iconst S294.here hx rfl (hb hby at_395) q) ?_
                  refine w_ald S294 d295 (i := 10) rfl rfl (hb hby at_396) rfl hf ?_
                  intro x316 hf
                  show WGo _ _ _ _ _ _ _ _ T292 (mkF m 397 #[.val (.int p1), .val (.int p2), .val (.int p3), .val (.int p4), .val (.int (E nn)), .val (.ref aT), .val (.ref a101), .val (.ref a216), .val (.int (E i244)), .val (.ref a246), .val (.ref a291), .val (.int (E i296))] [(.int (E x316))])
                  refine WGo.st (fun _ q => XS.aload S294.here hx rfl (hb hby at_397) rfl rfl q) ?_
                  refine WGo.st (fun _ q => XS.iconst S294.here hx rfl (hb hby at_399) q) ?_
                  refine w_ald S294 d295 (i := 2) rfl rfl (hb hby at_400) rfl hf ?_
                  intro x317 hf
                  show WGo _ _ _ _ _ _ _ _ T292 (mkF m 401 #[.val (.int p1), .val (.int p2), .val (.int p3), .val (.int p4), .val (.int (E nn)), .val (.ref aT), .val (.ref a101), .val (.ref a216), .val (.int (E i244)), .val (.ref a246), .val (.ref a291), .val (.int (E i296))] [(.int (E x317)), (.int (E x316))])
                  rcases eqN_some hf with ⟨c401, hf⟩ | ⟨c401, hf⟩
                  · refine WGo.st (fun _ q => XS.icmpNo S294.here hx rfl (hb hby at_401) rfl (teq c401).2 q) ?_
                    show WGo _ _ _ _ _ _ _ _ T292 (mkF m 404 #[.val (.int p1), .val (.int p2), .val (.int p3), .val (.int p4), .val (.int (E nn)), .val (.ref aT), .val (.ref a101), .val (.ref a216), .val (.int (E i244)), .val (.ref a246), .val (.ref a291), .val (.int (E i296))] [])
                    refine WGo.st (fun _ q => XS.iconst S294.here hx rfl (hb hby at_404) q) ?_
                    refine WGo.st (fun _ q => XS.goto S294.here hx rfl (pc0 := 405) (pc' := 409) rfl (hb hby at_405) (by decide) (by decide) q) ?_
                    show WGo _ _ _ _ _ _ _ _ T292 (mkF m 409 #[.val (.int p1), .val (.int p2), .val (.int p3), .val (.int p4), .val (.int (E nn)), .val (.ref aT), .val (.ref a101), .val (.ref a216), .val (.int (E i244)), .val (.ref a246), .val (.ref a291), .val (.int (E i296))] [(.int (E 65))])
                    refine WGo.st (fun _ q => XS.istore S294.here hx rfl (hb hby at_409) rfl (l' := #[.val (.int p1), .val (.int p2), .val (.int p3), .val (.int p4), .val (.int (E nn)), .val (.ref aT), .val (.ref a101), .val (.ref a216), .val (.int (E i244)), .val (.ref a246), .val (.ref a291), .val (.int (E 65))]) rfl q) ?_
                    show WGo _ _ _ _ _ _ _ _ T292 (mkF m 411 #[.val (.int p1), .val (.int p2), .val (.int p3), .val (.int p4), .val (.int (E nn)), .val (.ref aT), .val (.ref a101), .val (.ref a216), .val (.int (E i244)), .val (.ref a246), .val (.ref a291), .val (.int (E 65))] [])
                    exact hJ411 T292 h293 65 S294 d295 hf
                  · refine WGo.st (fun _ q => XS.icmpYes S294.here hx rfl (pc0 := 401) (pc' := 408) rfl (hb hby at_401) rfl (feq c401).2 (by decide) (by decide) q) ?_
                    show WGo _ _ _ _ _ _ _ _ T292 (mkF m 408 #[.val (.int p1), .val (.int p2), .val (.int p3), .val (.int p4), .val (.int (E nn)), .val (.ref aT), .val (.ref a101), .val (.ref a216), .val (.int (E i244)), .val (.ref a246), .val (.ref a291), .val (.int (E i296))] [])
                    refine WGo.st (fun _ q => XS.iconst S294.here hx rfl (hb hby at_408) q) ?_
                    refine WGo.st (fun _ q => XS.istore S294.here hx rfl (hb hby at_409) rfl (l' := #[.val (.int p1), .val (.int p2), .val (.int p3), .val (.int p4), .val (.int (E nn)), .val (.ref aT), .val (.ref a101), .val (.ref a216), .val (.int (E i244)), .val (.ref a246), .val (.ref a291), .val (.int (E 64))]) rfl q) ?_
                    show WGo _ _ _ _ _ _ _ _ T292 (mkF m 411 #[.val (.int p1), .val (.int p2), .val (.int p3), .val (.int p4), .val (.int (E nn)), .val (.ref aT), .val (.ref a101), .val (.ref a216), .val (.int (E i244)), .val (.ref a246), .val (.ref a291), .val (.int (E 64))] [])
                    exact hJ411 T292 h293 64 S294 d295 hf
              · refine WGo.st (fun _ q => XS.icmpYes S294.here hx rfl (pc0 := 385) (pc' := 411) rfl (hb hby at_385) rfl (flt c385).2.2.2 (by decide) (by decide) q) ?_
                show WGo _ _ _ _ _ _ _ _ T292 (mkF m 411 #[.val (.int p1), .val (.int p2), .val (.int p3), .val (.int p4), .val (.int (E nn)), .val (.ref aT), .val (.ref a101), .val (.ref a216), .val (.int (E i244)), .val (.ref a246), .val (.ref a291), .val (.int (E i296))] [])
                exact hJ411 T292 h293 i296 S294 d295 hf
            rcases ltN_some hf with ⟨c356, hf⟩ | ⟨c356, hf⟩
            · refine WGo.st (fun _ q => XS.ifNo S283.here hx rfl (hb hby at_356) rfl ((if0E _ _).trans (tlt c356).2.2.2) q) ?_
              show WGo _ _ _ _ _ _ _ _ T282 (mkF m 359 #[.val (.int p1), .val (.int p2), .val (.int p3), .val (.int p4), .val (.int (E nn)), .val (.ref aT), .val (.ref a101), .val (.ref a216), .val (.int (E i244)), .val (.ref a246), .val (.ref a291), .val (.int (E 65))] [])
              refine WGo.st (fun _ q => XS.iload S283.here hx rfl (hb hby at_359) rfl q) ?_
              refine WGo.st (fun _ q => XS.ifNo S283.here hx rfl (hb hby at_361) rfl ((if0E _ _).trans (feq (by decide : ¬ (E 65 = E 64))).1) q) ?_
              show WGo _ _ _ _ _ _ _ _ T282 (mkF m 364 #[.val (.int p1), .val (.int p2), .val (.int p3), .val (.int p4), .val (.int (E nn)), .val (.ref aT), .val (.ref a101), .val (.ref a216), .val (.int (E i244)), .val (.ref a246), .val (.ref a291), .val (.int (E 65))] [])
              refine WGo.st (fun _ q => XS.aload S283.here hx rfl (hb hby at_364) rfl rfl q) ?_
              refine WGo.st (fun _ q => XS.iconst S283.here hx rfl (hb hby at_366) q) ?_
              refine w_ald S283 d288 (i := 10) rfl rfl (hb hby at_367) rfl hf ?_
              intro x318 hf
              show WGo _ _ _ _ _ _ _ _ T282 (mkF m 368 #[.val (.int p1), .val (.int p2), .val (.int p3), .val (.int p4), .val (.int (E nn)), .val (.ref aT), .val (.ref a101), .val (.ref a216), .val (.int (E i244)), .val (.ref a246), .val (.ref a291), .val (.int (E 65))] [(.int (E x318))])
              refine WGo.st (fun _ q => XS.aload S283.here hx rfl (hb hby at_368) rfl rfl q) ?_
              refine WGo.st (fun _ q => XS.iconst S283.here hx rfl (hb hby at_370) q) ?_
              refine w_ald S283 d288 (i := 2) rfl rfl (hb hby at_371) rfl hf ?_
              intro x319 hf
              show WGo _ _ _ _ _ _ _ _ T282 (mkF m 372 #[.val (.int p1), .val (.int p2), .val (.int p3), .val (.int p4), .val (.int (E nn)), .val (.ref aT), .val (.ref a101), .val (.ref a216), .val (.int (E i244)), .val (.ref a246), .val (.ref a291), .val (.int (E 65))] [(.int (E x319)), (.int (E x318))])
              rcases eqN_some hf with ⟨c372, hf⟩ | ⟨c372, hf⟩
              · refine WGo.st (fun _ q => XS.icmpNo S283.here hx rfl (hb hby at_372) rfl (teq c372).2 q) ?_
                show WGo _ _ _ _ _ _ _ _ T282 (mkF m 375 #[.val (.int p1), .val (.int p2), .val (.int p3), .val (.int p4), .val (.int (E nn)), .val (.ref aT), .val (.ref a101), .val (.ref a216), .val (.int (E i244)), .val (.ref a246), .val (.ref a291), .val (.int (E 65))] [])
                refine WGo.st (fun _ q => XS.iconst S283.here hx rfl (hb hby at_375) q) ?_
                refine WGo.st (fun _ q => XS.goto S283.here hx rfl (pc0 := 376) (pc' := 380) rfl (hb hby at_376) (by decide) (by decide) q) ?_
                show WGo _ _ _ _ _ _ _ _ T282 (mkF m 380 #[.val (.int p1), .val (.int p2), .val (.int p3), .val (.int p4), .val (.int (E nn)), .val (.ref aT), .val (.ref a101), .val (.ref a216), .val (.int (E i244)), .val (.ref a246), .val (.ref a291), .val (.int (E 65))] [(.int (E 65))])
                refine WGo.st (fun _ q => XS.istore S283.here hx rfl (hb hby at_380) rfl (l' := #[.val (.int p1), .val (.int p2), .val (.int p3), .val (.int p4), .val (.int (E nn)), .val (.ref aT), .val (.ref a101), .val (.ref a216), .val (.int (E i244)), .val (.ref a246), .val (.ref a291), .val (.int (E 65))]) rfl q) ?_
                show WGo _ _ _ _ _ _ _ _ T282 (mkF m 382 #[.val (.int p1), .val (.int p2), .val (.int p3), .val (.int p4), .val (.int (E nn)), .val (.ref aT), .val (.ref a101), .val (.ref a216), .val (.int (E i244)), .val (.ref a246), .val (.ref a291), .val (.int (E 65))] [])
                exact hJ382 T282 h284 65 S283 d288 hf
              · refine WGo.st (fun _ q => XS.icmpYes S283.here hx rfl (pc0 := 372) (pc' := 379) rfl (hb hby at_372) rfl (feq c372).2 (by decide) (by decide) q) ?_
                show WGo _ _ _ _ _ _ _ _ T282 (mkF m 379 #[.val (.int p1), .val (.int p2), .val (.int p3), .val (.int p4), .val (.int (E nn)), .val (.ref aT), .val (.ref a101), .val (.ref a216), .val (.int (E i244)), .val (.ref a246), .val (.ref a291), .val (.int (E 65))] [])
                refine WGo.st (fun _ q => XS.iconst S283.here hx rfl (hb hby at_379) q) ?_
                refine WGo.st (fun _ q => XS.istore S283.here hx rfl (hb hby at_380) rfl (l' := #[.val (.int p1), .val (.int p2), .val (.int p3), .val (.int p4), .val (.int (E nn)), .val (.ref aT), .val (.ref a101), .val (.ref a216), .val (.int (E i244)), .val (.ref a246), .val (.ref a291), .val (.int (E 64))]) rfl q) ?_
                show WGo _ _ _ _ _ _ _ _ T282 (mkF m 382 #[.val (.int p1), .val (.int p2), .val (.int p3), .val (.int p4), .val (.int (E nn)), .val (.ref aT), .val (.ref a101), .val (.ref a216), .val (.int (E i244)), .val (.ref a246), .val (.ref a291), .val (.int (E 64))] [])
                exact hJ382 T282 h284 64 S283 d288 hf
            · refine WGo.st (fun _ q => XS.ifYes S283.here hx rfl (pc0 := 356) (pc' := 382) rfl (hb hby at_356) rfl ((if0E _ _).trans (flt c356).2.2.2) (by decide) (by decide) q) ?_
              show WGo _ _ _ _ _ _ _ _ T282 (mkF m 382 #[.val (.int p1), .val (.int p2), .val (.int p3), .val (.int p4), .val (.int (E nn)), .val (.ref aT), .val (.ref a101), .val (.ref a216), .val (.int (E i244)), .val (.ref a246), .val (.ref a291), .val (.int (E 65))] [])
              exact hJ382 T282 h284 65 S283 d288 hf
          · refine WGo.st (fun _ q => XS.icmpNo S283.here hx rfl (hb hby at_346) rfl (feq c346).1 q) ?_
            show WGo _ _ _ _ _ _ _ _ T282 (mkF m 349 #[.val (.int p1), .val (.int p2), .val (.int p3), .val (.int p4), .val (.int (E nn)), .val (.ref aT), .val (.ref a101), .val (.ref a216), .val (.int (E i244)), .val (.ref a246), .val (.ref a291), .unset] [])
            refine WGo.st (fun _ q => XS.iconst S283.here hx rfl (hb hby at_349) q) ?_
            refine w_retZ S283 hret (hb hby at_350) (by first | decide | (obtain rfl := Option.some.inj hf; decide)) (by decide) (by decide) ?_
            exact absurd (Option.some.inj hf) (by decide)
        rcases ltN_some hf with ⟨c294, hf⟩ | ⟨c294, hf⟩
        · refine WGo.st (fun _ q => XS.icmpNo S236.here hx rfl (hb hby at_294) rfl (tlt c294).2.2.2 q) ?_
          show WGo _ _ _ _ _ _ _ _ T234 (mkF m 297 #[.val (.int p1), .val (.int p2), .val (.int p3), .val (.int p4), .val (.int (E nn)), .val (.ref aT), .val (.ref a101), .val (.ref a216), .val (.int (E i238)), .unset, .unset, .unset] [])
          refine WGo.st (fun _ q => XS.aload S236.here hx rfl (hb hby at_297) rfl rfl q) ?_
          refine WGo.st (fun _ q => XS.iconst S236.here hx rfl (hb hby at_299) q) ?_
          refine w_ald S236 d237 (i := 1) rfl rfl (hb hby at_300) rfl hf ?_
          intro x320 hf
          show WGo _ _ _ _ _ _ _ _ T234 (mkF m 301 #[.val (.int p1), .val (.int p2), .val (.int p3), .val (.int p4), .val (.int (E nn)), .val (.ref aT), .val (.ref a101), .val (.ref a216), .val (.int (E i238)), .unset, .unset, .unset] [(.int (E x320))])
          refine WGo.st (fun _ q => XS.iconst S236.here hx rfl (hb hby at_301) q) ?_
          rcases eqN_some hf with ⟨c302, hf⟩ | ⟨c302, hf⟩
          · refine WGo.st (fun _ q => XS.icmpNo S236.here hx rfl (hb hby at_302) rfl (teq c302).2 q) ?_
            show WGo _ _ _ _ _ _ _ _ T234 (mkF m 305 #[.val (.int p1), .val (.int p2), .val (.int p3), .val (.int p4), .val (.int (E nn)), .val (.ref aT), .val (.ref a101), .val (.ref a216), .val (.int (E i238)), .unset, .unset, .unset] [])
            refine WGo.st (fun _ q => XS.aload S236.here hx rfl (hb hby at_305) rfl rfl q) ?_
            refine WGo.st (fun _ q => XS.iload S236.here hx rfl (hb hby at_307) rfl q) ?_
            refine WGo.st (fun _ q => XS.iconst S236.here hx rfl (hb hby at_309) q) ?_
            refine w_ast S236 d237 (i := 2) rfl rfl (hb hby at_310) rfl hf ?_
            intro T322 h323 A321 S324 d325 hf
            show WGo _ _ _ _ _ _ _ _ T322 (mkF m 311 #[.val (.int p1), .val (.int p2), .val (.int p3), .val (.int p4), .val (.int (E nn)), .val (.ref aT), .val (.ref a101), .val (.ref a216), .val (.int (E i238)), .unset, .unset, .unset] [])
            refine w_incN S324 rfl (hb hby at_311) (y := 65) (by decide) rfl (l1 := fun z0 => #[.val (.int p1), .val (.int p2), .val (.int p3), .val (.int p4), .val (.int (E nn)), .val (.ref aT), .val (.ref a101), .val (.ref a216), .val (.int (E z0)), .unset, .unset, .unset]) (fun _ => rfl) (fun _ => rfl) hf ?_
            intro z326 hf
            show WGo _ _ _ _ _ _ _ _ T322 (mkF m 314 #[.val (.int p1), .val (.int p2), .val (.int p3), .val (.int p4), .val (.int (E nn)), .val (.ref aT), .val (.ref a101), .val (.ref a216), .val (.int (E z326)), .unset, .unset, .unset] [])
            exact hJ314 T322 h323 z326 A321 S324 d325 hf
          · refine WGo.st (fun _ q => XS.icmpYes S236.here hx rfl (pc0 := 302) (pc' := 314) rfl (hb hby at_302) rfl (feq c302).2 (by decide) (by decide) q) ?_
            show WGo _ _ _ _ _ _ _ _ T234 (mkF m 314 #[.val (.int p1), .val (.int p2), .val (.int p3), .val (.int p4), .val (.int (E nn)), .val (.ref aT), .val (.ref a101), .val (.ref a216), .val (.int (E i238)), .unset, .unset, .unset] [])
            exact hJ314 T234 h235 i238 A239 S236 d237 hf
        · refine WGo.st (fun _ q => XS.icmpYes S236.here hx rfl (pc0 := 294) (pc' := 314) rfl (hb hby at_294) rfl (flt c294).2.2.2 (by decide) (by decide) q) ?_
          show WGo _ _ _ _ _ _ _ _ T234 (mkF m 314 #[.val (.int p1), .val (.int p2), .val (.int p3), .val (.int p4), .val (.int (E nn)), .val (.ref aT), .val (.ref a101), .val (.ref a216), .val (.int (E i238)), .unset, .unset, .unset] [])
          exact hJ314 T234 h235 i238 A239 S236 d237 hf
      rcases ltN_some hf with ⟨c271, hf⟩ | ⟨c271, hf⟩
      · refine WGo.st (fun _ q => XS.icmpNo S230.here hx rfl (hb hby at_271) rfl (tlt c271).2.2.2 q) ?_
        show WGo _ _ _ _ _ _ _ _ T228 (mkF m 274 #[.val (.int p1), .val (.int p2), .val (.int p3), .val (.int p4), .val (.int (E nn)), .val (.ref aT), .val (.ref a101), .val (.ref a216), .val (.int (E i232)), .unset, .unset, .unset] [])
        refine WGo.st (fun _ q => XS.aload S230.here hx rfl (hb hby at_274) rfl rfl q) ?_
        refine WGo.st (fun _ q => XS.iconst S230.here hx rfl (hb hby at_276) q) ?_
        refine w_ald S230 d231 (i := 1) rfl rfl (hb hby at_277) rfl hf ?_
        intro x327 hf
        show WGo _ _ _ _ _ _ _ _ T228 (mkF m 278 #[.val (.int p1), .val (.int p2), .val (.int p3), .val (.int p4), .val (.int (E nn)), .val (.ref aT), .val (.ref a101), .val (.ref a216), .val (.int (E i232)), .unset, .unset, .unset] [(.int (E x327))])
        refine WGo.st (fun _ q => XS.iconst S230.here hx rfl (hb hby at_278) q) ?_
        rcases eqN_some hf with ⟨c279, hf⟩ | ⟨c279, hf⟩
        · refine WGo.st (fun _ q => XS.icmpNo S230.here hx rfl (hb hby at_279) rfl (teq c279).2 q) ?_
          show WGo _ _ _ _ _ _ _ _ T228 (mkF m 282 #[.val (.int p1), .val (.int p2), .val (.int p3), .val (.int p4), .val (.int (E nn)), .val (.ref aT), .val (.ref a101), .val (.ref a216), .val (.int (E i232)), .unset, .unset, .unset] [])
          refine WGo.st (fun _ q => XS.aload S230.here hx rfl (hb hby at_282) rfl rfl q) ?_
          refine WGo.st (fun _ q => XS.iload S230.here hx rfl (hb hby at_284) rfl q) ?_
          refine WGo.st (fun _ q => XS.iconst S230.here hx rfl (hb hby at_286) q) ?_
          refine w_ast S230 d231 (i := 2) rfl rfl (hb hby at_287) rfl hf ?_
          intro T329 h330 A328 S331 d332 hf
          show WGo _ _ _ _ _ _ _ _ T329 (mkF m 288 #[.val (.int p1), .val (.int p2), .val (.int p3), .val (.int p4), .val (.int (E nn)), .val (.ref aT), .val (.ref a101), .val (.ref a216), .val (.int (E i232)), .unset, .unset, .unset] [])
          refine w_incN S331 rfl (hb hby at_288) (y := 65) (by decide) rfl (l1 := fun z0 => #[.val (.int p1), .val (.int p2), .val (.int p3), .val (.int p4), .val (.int (E nn)), .val (.ref aT), .val (.ref a101), .val (.ref a216), .val (.int (E z0)), .unset, .unset, .unset]) (fun _ => rfl) (fun _ => rfl) hf ?_
          intro z333 hf
          show WGo _ _ _ _ _ _ _ _ T329 (mkF m 291 #[.val (.int p1), .val (.int p2), .val (.int p3), .val (.int p4), .val (.int (E nn)), .val (.ref aT), .val (.ref a101), .val (.ref a216), .val (.int (E z333)), .unset, .unset, .unset] [])
          exact hJ291 T329 h330 z333 A328 S331 d332 hf
        · refine WGo.st (fun _ q => XS.icmpYes S230.here hx rfl (pc0 := 279) (pc' := 291) rfl (hb hby at_279) rfl (feq c279).2 (by decide) (by decide) q) ?_
          show WGo _ _ _ _ _ _ _ _ T228 (mkF m 291 #[.val (.int p1), .val (.int p2), .val (.int p3), .val (.int p4), .val (.int (E nn)), .val (.ref aT), .val (.ref a101), .val (.ref a216), .val (.int (E i232)), .unset, .unset, .unset] [])
          exact hJ291 T228 h229 i232 A233 S230 d231 hf
      · refine WGo.st (fun _ q => XS.icmpYes S230.here hx rfl (pc0 := 271) (pc' := 291) rfl (hb hby at_271) rfl (flt c271).2.2.2 (by decide) (by decide) q) ?_
        show WGo _ _ _ _ _ _ _ _ T228 (mkF m 291 #[.val (.int p1), .val (.int p2), .val (.int p3), .val (.int p4), .val (.int (E nn)), .val (.ref aT), .val (.ref a101), .val (.ref a216), .val (.int (E i232)), .unset, .unset, .unset] [])
        exact hJ291 T228 h229 i232 A233 S230 d231 hf
    rcases ltN_some hf with ⟨c248, hf⟩ | ⟨c248, hf⟩
    · refine WGo.st (fun _ q => XS.icmpNo S224.here hx rfl (hb hby at_248) rfl (tlt c248).2.2.2 q) ?_
      show WGo _ _ _ _ _ _ _ _ T222 (mkF m 251 #[.val (.int p1), .val (.int p2), .val (.int p3), .val (.int p4), .val (.int (E nn)), .val (.ref aT), .val (.ref a101), .val (.ref a216), .val (.int (E i226)), .unset, .unset, .unset] [])
      refine WGo.st (fun _ q => XS.aload S224.here hx rfl (hb hby at_251) rfl rfl q) ?_
      refine WGo.st (fun _ q => XS.iconst S224.here hx rfl (hb hby at_253) q) ?_
      refine w_ald S224 d225 (i := 1) rfl rfl (hb hby at_254) rfl hf ?_
      intro x334 hf
      show WGo _ _ _ _ _ _ _ _ T222 (mkF m 255 #[.val (.int p1), .val (.int p2), .val (.int p3), .val (.int p4), .val (.int (E nn)), .val (.ref aT), .val (.ref a101), .val (.ref a216), .val (.int (E i226)), .unset, .unset, .unset] [(.int (E x334))])
      refine WGo.st (fun _ q => XS.iconst S224.here hx rfl (hb hby at_255) q) ?_
      rcases eqN_some hf with ⟨c256, hf⟩ | ⟨c256, hf⟩
      · refine WGo.st (fun _ q => XS.icmpNo S224.here hx rfl (hb hby at_256) rfl (teq c256).2 q) ?_
        show WGo _ _ _ _ _ _ _ _ T222 (mkF m 259 #[.val (.int p1), .val (.int p2), .val (.int p3), .val (.int p4), .val (.int (E nn)), .val (.ref aT), .val (.ref a101), .val (.ref a216), .val (.int (E i226)), .unset, .unset, .unset] [])
        refine WGo.st (fun _ q => XS.aload S224.here hx rfl (hb hby at_259) rfl rfl q) ?_
        refine WGo.st (fun _ q => XS.iload S224.here hx rfl (hb hby at_261) rfl q) ?_
        refine WGo.st (fun _ q => XS.iconst S224.here hx rfl (hb hby at_263) q) ?_
        refine w_ast S224 d225 (i := 2) rfl rfl (hb hby at_264) rfl hf ?_
        intro T336 h337 A335 S338 d339 hf
        show WGo _ _ _ _ _ _ _ _ T336 (mkF m 265 #[.val (.int p1), .val (.int p2), .val (.int p3), .val (.int p4), .val (.int (E nn)), .val (.ref aT), .val (.ref a101), .val (.ref a216), .val (.int (E i226)), .unset, .unset, .unset] [])
        refine w_incN S338 rfl (hb hby at_265) (y := 65) (by decide) rfl (l1 := fun z0 => #[.val (.int p1), .val (.int p2), .val (.int p3), .val (.int p4), .val (.int (E nn)), .val (.ref aT), .val (.ref a101), .val (.ref a216), .val (.int (E z0)), .unset, .unset, .unset]) (fun _ => rfl) (fun _ => rfl) hf ?_
        intro z340 hf
        show WGo _ _ _ _ _ _ _ _ T336 (mkF m 268 #[.val (.int p1), .val (.int p2), .val (.int p3), .val (.int p4), .val (.int (E nn)), .val (.ref aT), .val (.ref a101), .val (.ref a216), .val (.int (E z340)), .unset, .unset, .unset] [])
        exact hJ268 T336 h337 z340 A335 S338 d339 hf
      · refine WGo.st (fun _ q => XS.icmpYes S224.here hx rfl (pc0 := 256) (pc' := 268) rfl (hb hby at_256) rfl (feq c256).2 (by decide) (by decide) q) ?_
        show WGo _ _ _ _ _ _ _ _ T222 (mkF m 268 #[.val (.int p1), .val (.int p2), .val (.int p3), .val (.int p4), .val (.int (E nn)), .val (.ref aT), .val (.ref a101), .val (.ref a216), .val (.int (E i226)), .unset, .unset, .unset] [])
        exact hJ268 T222 h223 i226 A227 S224 d225 hf
    · refine WGo.st (fun _ q => XS.icmpYes S224.here hx rfl (pc0 := 248) (pc' := 268) rfl (hb hby at_248) rfl (flt c248).2.2.2 (by decide) (by decide) q) ?_
      show WGo _ _ _ _ _ _ _ _ T222 (mkF m 268 #[.val (.int p1), .val (.int p2), .val (.int p3), .val (.int p4), .val (.int (E nn)), .val (.ref aT), .val (.ref a101), .val (.ref a216), .val (.int (E i226)), .unset, .unset, .unset] [])
      exact hJ268 T222 h223 i226 A227 S224 d225 hf
  rcases eqN_some hf with ⟨c233, hf⟩ | ⟨c233, hf⟩
  · refine WGo.st (fun _ q => XS.ifNo S219.here hx rfl (hb hby at_233) rfl ((if0E _ _).trans (teq c233).2) q) ?_
    show WGo _ _ _ _ _ _ _ _ T217 (mkF m 236 #[.val (.int p1), .val (.int p2), .val (.int p3), .val (.int p4), .val (.int (E nn)), .val (.ref aT), .val (.ref a101), .val (.ref a216), .val (.int (E 64)), .unset, .unset, .unset] [])
    refine WGo.st (fun _ q => XS.aload S219.here hx rfl (hb hby at_236) rfl rfl q) ?_
    refine WGo.st (fun _ q => XS.iload S219.here hx rfl (hb hby at_238) rfl q) ?_
    refine WGo.st (fun _ q => XS.iconst S219.here hx rfl (hb hby at_240) q) ?_
    refine w_ast S219 d220 (i := 2) rfl rfl (hb hby at_241) rfl hf ?_
    intro T342 h343 A341 S344 d345 hf
    show WGo _ _ _ _ _ _ _ _ T342 (mkF m 242 #[.val (.int p1), .val (.int p2), .val (.int p3), .val (.int p4), .val (.int (E nn)), .val (.ref aT), .val (.ref a101), .val (.ref a216), .val (.int (E 64)), .unset, .unset, .unset] [])
    refine w_incN S344 rfl (hb hby at_242) (y := 65) (by decide) rfl (l1 := fun z0 => #[.val (.int p1), .val (.int p2), .val (.int p3), .val (.int p4), .val (.int (E nn)), .val (.ref aT), .val (.ref a101), .val (.ref a216), .val (.int (E z0)), .unset, .unset, .unset]) (fun _ => rfl) (fun _ => rfl) hf ?_
    intro z346 hf
    show WGo _ _ _ _ _ _ _ _ T342 (mkF m 245 #[.val (.int p1), .val (.int p2), .val (.int p3), .val (.int p4), .val (.int (E nn)), .val (.ref aT), .val (.ref a101), .val (.ref a216), .val (.int (E z346)), .unset, .unset, .unset] [])
    exact hJ245 T342 h343 z346 A341 S344 d345 hf
  · refine WGo.st (fun _ q => XS.ifYes S219.here hx rfl (pc0 := 233) (pc' := 245) rfl (hb hby at_233) rfl ((if0E _ _).trans (feq c233).2) (by decide) (by decide) q) ?_
    show WGo _ _ _ _ _ _ _ _ T217 (mkF m 245 #[.val (.int p1), .val (.int p2), .val (.int p3), .val (.int p4), .val (.int (E nn)), .val (.ref aT), .val (.ref a101), .val (.ref a216), .val (.int (E 64)), .unset, .unset, .unset] [])
    exact hJ245 T217 h218 64 AZ S219 d220 hf
set_option maxRecDepth 65536 in
set_option maxHeartbeats 40000000 in
theorem comes_1 {Post : Tables → Env → Array Value → State → Outcome → State → Prop} (hpost : ∀ tb e args s v u, (limb_1_1.after args s (.returned v) u = true ∧ limb_1_2.after args s (.returned v) u = true ∧ True) → FrameEnd s (.returned v) u (Jvm.fieldLocs frame_1_writes args s ++ Jvm.arrayLocs frame_1_arrays args s ++ Jvm.staticLocs frame_1_statics s) 120 768 → Post tb e args s (.returned v) u) :
    ArmFor flags0 classFile x code maxLocals ret World_1 tables_1 room_1 Calls_1 rest_1 Pre_1 Post := by
  intro l hfl _ _ p e ha hc hk s m args below hf hA hF happ hP
  obtain ⟨hcalls, hrest, hpre⟩ := hP
  obtain ⟨-, -, -, hnamed, -, -, -, hat⟩ := (Spec.applies_iff hf).mp happ
  obtain ⟨hg, hn⟩ := and_e (Cond.before_iff.mp (show (Jvm.Cond.and given_1 narrow_1).before args s = true from hpre))
  obtain ⟨hcount, hg0⟩ := and_e hg
  obtain ⟨ha0, hg1⟩ := and_e hg0
  obtain ⟨ha1, hg2⟩ := and_e hg1
  obtain ⟨ha2, hg3⟩ := and_e hg2
  obtain ⟨w0, w1, w2, w3, rfl⟩ : ∃ (w0 : Value) (w1 : Value) (w2 : Value) (w3 : Value), args = #[w0, w1, w2, w3] := by
    have hs : args.size = 4 := by simpa [Cond.value, given_1] using hcount
    obtain ⟨L⟩ := args
    match L, hs with
    | [w0, w1, w2, w3], _ => exact ⟨w0, w1, w2, w3, rfl⟩
  have hw := fun d (hd : d ∈ tables_1) => atoms_spec (ws := Jvm.Cond.code x code maxLocals ret :: tables_1) hat d (List.mem_cons_of_mem _ hd)
  obtain ⟨i0, e0⟩ := is_v ha0
  obtain rfl : w0 = (.int i0) := Option.some.inj e0
  obtain ⟨i1, e1⟩ := is_v ha1
  obtain rfl : w1 = (.int i1) := Option.some.inj e1
  obtain ⟨i2, e2⟩ := is_v ha2
  obtain rfl : w2 = (.int i2) := Option.some.inj e2
  obtain ⟨i3, e3⟩ := is_v hg3
  obtain rfl : w3 = (.int i3) := Option.some.inj e3
  obtain ⟨n, o, h1, h2, h3, _, L, rfl, ⟨hQ, N⟩, hq⟩ := rm_0 l s _ hw s.heap.size s.heap i0 i1 i2 i3  (Nat.le_refl _)  p e ha hc hk s m _ below hf ((Spec.applies_iff_loose hf).mp happ).1 ⟨rfl, State.Warmed39.refl s, rfl⟩ trivial
  obtain rfl := hQ
  refine ⟨n, _, h1, h2, h3, hpost _ _ _ _ _ _ ⟨Cond.after_iff.mpr rfl, Cond.after_iff.mpr (eq_i res_at (Term.int_eval (1)) rfl), trivial⟩ ⟨hq.1, hq.2.1, (hq.2.2.sift fun y hy => Or.inr (N y hy)).mono (by decide) (by decide)⟩⟩
theorem main_1_1 : Claimed_1_1 := comes_1 fun _ _ _ _ _ _ h hF => ⟨h.1, hF⟩
theorem main_1_2 : Claimed_1_2 := comes_1 fun _ _ _ _ _ _ h hF => ⟨h.2.1, hF⟩
end Jvm.Pilot.@@N@@
namespace Jvm.Pilot.@@N@@
open Jvm Jvm.ClassFile Sem Op Lib Jvm.Free Jvm.Stand Jvm.Pilot.@@N@@.Jvm.D
/-! MADE BY PROGRAM (witnessworld.py) out of the Statement's table words and the real class files: 15 classes; the members and pool entries that the words name. The judged class is class 1, her method 2. -/
namespace start1
open Jvm.ClassFile
def u (s : String) : CpInfo := .utf8 (stringToUtf16 s)
/-- a pool by its gaps: so many unusable entries, then the entry; so many at the end -/
def gap : Nat → List CpInfo → List CpInfo
  | 0, r => r
  | n + 1, r => .unusable :: gap n r
def poolList (es : List (Nat × CpInfo)) (last : Nat) : List CpInfo := es.foldr (fun e r => gap e.1 (e.2 :: r)) (gap last [])
def pool (es : List (Nat × CpInfo)) (last : Nat) : Array CpInfo := ⟨poolList es last⟩
def fileOf (pool : Array CpInfo) (this : Nat) (attrs : Array Attribute := #[]) (ms : Array MethodInfo := #[]) (fl : Nat := 33) (sup : Nat := 0) (ifs : Array Nat := #[]) (fds : Array FieldInfo := #[]) : ClassFile where
  minorVersion := 0
  majorVersion := 65
  constantPool := pool
  accessFlags := fl
  thisClass := this
  superClass := sup
  interfaces := ifs
  fields := fds
  methods := ms
  attributes := attrs
def plain (name : String) (sup : Option ClassId) : Class where
  name := name
  kind := .ordinary
  loader := none
  accessFlags := 33
  super := sup
  interfaces := #[]
  cf := none
  fields := #[]
  methods := #[]
  instanceTypes := #[]
  staticTypes := #[]
  resolved := #[]
  callSites := []
  init := .initialized
  statics := none
  mirror := none

def pool0 : Array CpInfo := pool [(5, u "<init>"), (0, u "()V"), (1, .class_ 10), (1, u "java/lang/Object")] 113

def k0c0 : Code := { maxStack := 0, maxLocals := 1, code := object_method_1_code, exceptionTable := #[], attributes := #[] }
def k0m0 : Method := { name := "<init>", desc := "()V", sig := { parameters := [], returnType := none }, accessFlags := 1, code := some k0c0 }
/-- java/lang/Object -/
def k0 : Class := { plain "java/lang/Object" none with
  accessFlags := 33
  interfaces := #[]
  cf := some (fileOf pool0 8 #[] #[{ accessFlags := 1, nameIndex := 5, descriptorIndex := 6, attributes := #[] }] 33 0 #[] #[])
  fields := #[]
  methods := #[k0m0]
  instanceTypes := #[]
  staticTypes := #[]
  resolved := Array.replicate 124 none
  statics := none }

def pool1 : Array CpInfo := pool [(2, .class_ 4), (1, u "java/lang/Object"), (0, u "<init>"), (0, u "()V"), (0, .methodref 8 9), (0, .class_ 10), (0, .nameAndType 11 12), (0, u "java/lang/Math"), (0, u "min"), (0, u "(II)I"), (0, .methodref 14 15), (0, .class_ 16), (0, .nameAndType 17 18), (0, u "com/example/ookayama/ookayama/EdgeAdditionSearchRootsPinLaw"), (0, u "relax"), (0, u "([III)V"), (0, .class_ 20), (0, u "com/example/ookayama/ookayama/EdgeAddition"), (0, .class_ 22), (0, u "com/example/ookayama/ookayama/EdgeEnds"), (0, .methodref 21 24), (0, .nameAndType 5 25), (0, u "(I[I)V"), (0, .methodref 19 27), (0, .nameAndType 5 28), (0, u "(Lcom/example/ookayama/ookayama/EdgeEnds;)V"), (0, .methodref 19 30), (0, .nameAndType 31 32), (0, u "searchRoots"), (0, u "()[I"), (2, u "law"), (0, u "(IIII)Z")] 5

def k1m0 : Method := { name := "<init>", desc := "()V", sig := { parameters := [], returnType := none }, accessFlags := 2, code := none }
def k1c1 : Code := { maxStack := 3, maxLocals := 4, code := method_2_code, exceptionTable := #[], attributes := #[] }
def k1m1 : Method := { name := "relax", desc := "([III)V", sig := { parameters := [(.array .int), .int, .int], returnType := none }, accessFlags := 10, code := some k1c1 }
def k1c2 : Code := { maxStack := 6, maxLocals := 12, code := code, exceptionTable := #[], attributes := #[] }
def k1m2 : Method := { name := "law", desc := "(IIII)Z", sig := { parameters := [.int, .int, .int, .int], returnType := some .boolean }, accessFlags := 9, code := some k1c2 }
/-- com/example/ookayama/ookayama/EdgeAdditionSearchRootsPinLaw -/
def k1 : Class := { plain "com/example/ookayama/ookayama/EdgeAdditionSearchRootsPinLaw" (some 0) with
  accessFlags := 49
  interfaces := #[]
  cf := some (fileOf pool1 14 #[] #[{ accessFlags := 2, nameIndex := 5, descriptorIndex := 6, attributes := #[] }, { accessFlags := 10, nameIndex := 17, descriptorIndex := 18, attributes := #[] }, { accessFlags := 9, nameIndex := 35, descriptorIndex := 36, attributes := #[] }] 49 2 #[] #[])
  fields := #[]
  methods := #[k1m0, k1m1, k1m2]
  instanceTypes := #[]
  staticTypes := #[]
  resolved := Array.replicate 42 none
  statics := none }

def pool2 : Array CpInfo := pool [(1, .class_ 2), (0, u "java/lang/Math"), (1, .class_ 6), (1, u "java/lang/Object"), (0, u "<init>"), (0, u "()V"), (89, .class_ 100), (1, u "java/lang/Math$RandomNumberGeneratorHolder"), (71, u "negativeZeroFloatBits"), (0, u "J"), (2, u "negativeZeroDoubleBits"), (21, u "max"), (2, u "min"), (43, u "$assertionsDisabled"), (0, u "Z"), (88, u "(II)I"), (2, u "twoToTheDoubleScaleDown"), (0, u "D"), (4, u "twoToTheDoubleScaleUp"), (9, u "E"), (3, u "PI"), (2, u "TAU"), (2, u "DEGREES_TO_RADIANS"), (0, u "RADIANS_TO_DEGREES")] 94

def k2m0 : Method := { name := "<init>", desc := "()V", sig := { parameters := [], returnType := none }, accessFlags := 2, code := none }
def k2c1 : Code := { maxStack := 2, maxLocals := 2, code := jdk_29_method_65_code, exceptionTable := #[], attributes := #[] }
def k2m1 : Method := { name := "max", desc := "(II)I", sig := { parameters := [.int, .int], returnType := some .int }, accessFlags := 9, code := some k2c1 }
def k2c2 : Code := { maxStack := 2, maxLocals := 2, code := jdk_29_method_69_code, exceptionTable := #[], attributes := #[] }
def k2m2 : Method := { name := "min", desc := "(II)I", sig := { parameters := [.int, .int], returnType := some .int }, accessFlags := 9, code := some k2c2 }
/-- java/lang/Math -/
def k2 : Class := { plain "java/lang/Math" (some 0) with
  accessFlags := 49
  interfaces := #[]
  cf := some (fileOf pool2 1 #[.nestMembers #[98]] #[{ accessFlags := 2, nameIndex := 7, descriptorIndex := 8, attributes := #[] }, { accessFlags := 9, nameIndex := 198, descriptorIndex := 335, attributes := #[] }, { accessFlags := 9, nameIndex := 201, descriptorIndex := 335, attributes := #[] }] 49 4 #[] #[{ accessFlags := 25, nameIndex := 354, descriptorIndex := 339, attributes := #[] }, { accessFlags := 25, nameIndex := 358, descriptorIndex := 339, attributes := #[] }, { accessFlags := 25, nameIndex := 361, descriptorIndex := 339, attributes := #[] }, { accessFlags := 26, nameIndex := 364, descriptorIndex := 339, attributes := #[] }, { accessFlags := 26, nameIndex := 365, descriptorIndex := 339, attributes := #[] }, { accessFlags := 26, nameIndex := 172, descriptorIndex := 173, attributes := #[] }, { accessFlags := 26, nameIndex := 176, descriptorIndex := 173, attributes := #[] }, { accessFlags := 8, nameIndex := 344, descriptorIndex := 339, attributes := #[] }, { accessFlags := 8, nameIndex := 338, descriptorIndex := 339, attributes := #[] }, { accessFlags := 4120, nameIndex := 245, descriptorIndex := 246, attributes := #[] }])
  fields := #[{ name := "E", type := .double, accessFlags := 25, slot := 0, constantValue := 0 }, { name := "PI", type := .double, accessFlags := 25, slot := 1, constantValue := 0 }, { name := "TAU", type := .double, accessFlags := 25, slot := 2, constantValue := 0 }, { name := "DEGREES_TO_RADIANS", type := .double, accessFlags := 26, slot := 3, constantValue := 0 }, { name := "RADIANS_TO_DEGREES", type := .double, accessFlags := 26, slot := 4, constantValue := 0 }, { name := "negativeZeroFloatBits", type := .long, accessFlags := 26, slot := 5, constantValue := 0 }, { name := "negativeZeroDoubleBits", type := .long, accessFlags := 26, slot := 6, constantValue := 0 }, { name := "twoToTheDoubleScaleUp", type := .double, accessFlags := 8, slot := 7, constantValue := 0 }, { name := "twoToTheDoubleScaleDown", type := .double, accessFlags := 8, slot := 8, constantValue := 0 }, { name := "$assertionsDisabled", type := .boolean, accessFlags := 4120, slot := 9, constantValue := 0 }]
  methods := #[k2m0, k2m1, k2m2]
  instanceTypes := #[]
  staticTypes := #[.double, .double, .double, .double, .double, .long, .long, .double, .double, .boolean]
  resolved := Array.replicate 460 none
  statics := none }

def pool3 : Array CpInfo := pool [(1, .methodref 2 3), (0, .class_ 4), (0, .nameAndType 5 6), (0, u "java/lang/Object"), (0, u "<init>"), (0, u "()V"), (0, .fieldref 8 9), (0, .class_ 10), (0, .nameAndType 11 12), (0, u "com/example/ookayama/ookayama/EdgeAddition"), (0, u "mergeStack"), (0, u "[I"), (0, .fieldref 8 14), (0, .nameAndType 15 16), (0, u "failedAt"), (0, u "I"), (0, .fieldref 8 18), (0, .nameAndType 19 16), (0, u "failedDescendant"), (0, .fieldref 8 21), (0, .nameAndType 22 23), (0, u "ends"), (0, u "Lcom/example/ookayama/ookayama/EdgeEnds;"), (0, .methodref 25 26), (0, .class_ 27), (0, .nameAndType 28 29), (0, u "com/example/ookayama/ookayama/EdgeEnds"), (0, u "vertexCount"), (0, u "()I"), (0, .fieldref 8 31), (0, .nameAndType 32 16), (0, u "n"), (0, .methodref 25 34), (0, .nameAndType 35 29), (0, u "edgeCount"), (0, .methodref 8 37), (0, .nameAndType 38 39), (0, u "representatives"), (0, u "(Lcom/example/ookayama/ookayama/EdgeEnds;)[I"), (0, .fieldref 8 41), (0, .nameAndType 42 12), (0, u "representative"), (0, .methodref 8 44), (0, .nameAndType 45 46), (0, u "hasCopies"), (0, u "([I)Z"), (0, .fieldref 8 48), (0, .nameAndType 45 49), (0, u "Z"), (0, .fieldref 8 51), (0, .nameAndType 52 12), (0, u "dfi"), (0, .fieldref 8 54), (0, .nameAndType 55 12), (0, u "vertexAt"), (0, .fieldref 8 57), (0, .nameAndType 58 12), (0, u "parent"), (0, .fieldref 8 60), (0, .nameAndType 61 12), (0, u "treeEnd"), (0, .fieldref 8 63), (0, .nameAndType 64 12), (0, u "leastAncestor"), (0, .fieldref 8 66), (0, .nameAndType 67 12), (0, u "leastAncestorEdge"), (0, .fieldref 8 69), (0, .nameAndType 70 12), (0, u "lowpoint"), (0, .fieldref 8 72), (0, .nameAndType 73 12), (0, u "lowChild"), (0, .fieldref 8 75), (0, .nameAndType 76 12), (0, u "blockedBelow"), (0, .fieldref 8 78), (0, .nameAndType 79 12), (0, u "separatedHead"), (0, .fieldref 8 81), (0, .nameAndType 82 12), (0, u "separatedNext"), (0, .fieldref 8 84), (0, .nameAndType 85 12), (0, u "separatedPrev"), (0, .fieldref 8 87), (0, .nameAndType 88 12), (0, u "firstArc"), (0, .fieldref 8 90), (0, .nameAndType 91 12), (0, u "lastArc"), (0, .fieldref 8 93), (0, .nameAndType 94 12), (0, u "arcNext"), (0, .fieldref 8 96), (0, .nameAndType 97 12), (0, u "arcPrev"), (0, .fieldref 8 99), (0, .nameAndType 100 12), (0, u "arcNode"), (0, .fieldref 8 102), (0, .nameAndType 103 12), (0, u "extFace"), (0, .fieldref 8 105), (0, .nameAndType 106 107), (0, u "flipped"), (0, u "[Z"), (0, .fieldref 8 109), (0, .nameAndType 110 12), (0, u "backFlag"), (0, .fieldref 8 112), (0, .nameAndType 113 12), (0, u "pendingEnd"), (0, .fieldref 8 115), (0, .nameAndType 116 12), (0, u "visited"), (0, .fieldref 8 118), (0, .nameAndType 119 12), (0, u "pertinentHead"), (0, .fieldref 8 121), (0, .nameAndType 122 12), (0, u "pertinentTail"), (0, .fieldref 8 124), (0, .nameAndType 125 12), (0, u "pertinentNext"), (0, .fieldref 8 127), (0, .nameAndType 128 12), (0, u "pertinentPrev"), (0, .methodref 130 131), (0, .class_ 132), (0, .nameAndType 133 134), (0, u "java/util/Arrays"), (0, u "fill"), (0, u "([II)V"), (0, .methodref 8 136), (0, .nameAndType 137 6), (0, u "search"), (0, .methodref 8 139), (0, .nameAndType 140 6), (0, u "sortSeparatedChildren"), (0, .methodref 8 142), (0, .nameAndType 143 144), (0, u "embedTreeEdge"), (0, u "(I)V"), (0, .methodref 25 146), (0, .nameAndType 147 148), (0, u "degree"), (0, u "(I)I"), (0, .methodref 25 150), (0, .nameAndType 151 152), (0, u "endAt"), (0, u "(II)I"), (0, .methodref 25 154), (0, .nameAndType 155 152), (0, u "neighbour"), (0, .methodref 157 158), (0, .class_ 159), (0, .nameAndType 160 152), (0, u "java/lang/Math"), (0, u "max"), (0, .methodref 8 162), (0, .nameAndType 163 164), (0, u "reach"), (0, u "(IIII)V"), (0, .methodref 8 166), (0, .nameAndType 167 168), (0, u "isRepresentative"), (0, u "(I)Z"), (0, .methodref 130 170), (0, .nameAndType 171 172), (0, u "copyOf"), (0, u "([II)[I"), (0, .methodref 8 174), (0, .nameAndType 175 176), (0, u "listBackEdges"), (0, u "([I[I[II)V"), (0, .fieldref 8 178), (0, .nameAndType 179 12), (0, u "backStart"), (0, .fieldref 8 181), (0, .nameAndType 182 12), (0, u "backEnd"), (0, .fieldref 8 184), (0, .nameAndType 185 12), (0, u "backLower"), (0, .methodref 8 187), (0, .nameAndType 188 189), (0, u "addArc"), (0, u "(III)V"), (0, .methodref 8 191), (0, .nameAndType 192 164), (0, u "link"), (28, u "mergeTop"), (43, u "(Lcom/example/ookayama/ookayama/EdgeEnds;)V"), (4, u "searchRoots"), (0, u "()[I")] 8

def k3c0 : Code := { maxStack := 3, maxLocals := 4, code := prog_27_method_1_code, exceptionTable := #[], attributes := #[] }
def k3m0 : Method := { name := "<init>", desc := "(Lcom/example/ookayama/ookayama/EdgeEnds;)V", sig := { parameters := [(.object "com/example/ookayama/ookayama/EdgeEnds")], returnType := none }, accessFlags := 0, code := some k3c0 }
def k3c1 : Code := { maxStack := 4, maxLocals := 9, code := prog_27_method_2_code, exceptionTable := #[], attributes := #[] }
def k3m1 : Method := { name := "representatives", desc := "(Lcom/example/ookayama/ookayama/EdgeEnds;)[I", sig := { parameters := [(.object "com/example/ookayama/ookayama/EdgeEnds")], returnType := some (.array .int) }, accessFlags := 10, code := some k3c1 }
def k3c2 : Code := { maxStack := 2, maxLocals := 2, code := prog_27_method_3_code, exceptionTable := #[], attributes := #[] }
def k3m2 : Method := { name := "hasCopies", desc := "([I)Z", sig := { parameters := [(.array .int)], returnType := some .boolean }, accessFlags := 10, code := some k3c2 }
def k3c3 : Code := { maxStack := 2, maxLocals := 2, code := prog_27_method_4_code, exceptionTable := #[], attributes := #[] }
def k3m3 : Method := { name := "isRepresentative", desc := "(I)Z", sig := { parameters := [.int], returnType := some .boolean }, accessFlags := 2, code := some k3c3 }
def k3c4 : Code := { maxStack := 5, maxLocals := 17, code := prog_27_method_5_code, exceptionTable := #[], attributes := #[] }
def k3m4 : Method := { name := "search", desc := "()V", sig := { parameters := [], returnType := none }, accessFlags := 2, code := some k3c4 }
def k3c5 : Code := { maxStack := 3, maxLocals := 5, code := prog_27_method_6_code, exceptionTable := #[], attributes := #[] }
def k3m5 : Method := { name := "reach", desc := "(IIII)V", sig := { parameters := [.int, .int, .int, .int], returnType := none }, accessFlags := 2, code := some k3c5 }
def k3c6 : Code := { maxStack := 5, maxLocals := 8, code := prog_27_method_7_code, exceptionTable := #[], attributes := #[] }
def k3m6 : Method := { name := "listBackEdges", desc := "([I[I[II)V", sig := { parameters := [(.array .int), (.array .int), (.array .int), .int], returnType := none }, accessFlags := 2, code := some k3c6 }
def k3c7 : Code := { maxStack := 4, maxLocals := 5, code := prog_27_method_8_code, exceptionTable := #[], attributes := #[] }
def k3m7 : Method := { name := "searchRoots", desc := "()[I", sig := { parameters := [], returnType := some (.array .int) }, accessFlags := 0, code := some k3c7 }
def k3c8 : Code := { maxStack := 5, maxLocals := 7, code := prog_27_method_10_code, exceptionTable := #[], attributes := #[] }
def k3m8 : Method := { name := "sortSeparatedChildren", desc := "()V", sig := { parameters := [], returnType := none }, accessFlags := 2, code := some k3c8 }
def k3c9 : Code := { maxStack := 5, maxLocals := 4, code := prog_27_method_11_code, exceptionTable := #[], attributes := #[] }
def k3m9 : Method := { name := "embedTreeEdge", desc := "(I)V", sig := { parameters := [.int], returnType := none }, accessFlags := 2, code := some k3c9 }
def k3c10 : Code := { maxStack := 4, maxLocals := 4, code := prog_27_method_12_code, exceptionTable := #[], attributes := #[] }
def k3m10 : Method := { name := "addArc", desc := "(III)V", sig := { parameters := [.int, .int, .int], returnType := none }, accessFlags := 2, code := some k3c10 }
def k3c11 : Code := { maxStack := 4, maxLocals := 5, code := prog_27_method_13_code, exceptionTable := #[], attributes := #[] }
def k3m11 : Method := { name := "link", desc := "(IIII)V", sig := { parameters := [.int, .int, .int, .int], returnType := none }, accessFlags := 2, code := some k3c11 }
/-- com/example/ookayama/ookayama/EdgeAddition -/
def k3 : Class := { plain "com/example/ookayama/ookayama/EdgeAddition" (some 0) with
  accessFlags := 48
  interfaces := #[]
  cf := some (fileOf pool3 8 #[] #[{ accessFlags := 0, nameIndex := 5, descriptorIndex := 265, attributes := #[] }, { accessFlags := 10, nameIndex := 38, descriptorIndex := 39, attributes := #[] }, { accessFlags := 10, nameIndex := 45, descriptorIndex := 46, attributes := #[] }, { accessFlags := 2, nameIndex := 167, descriptorIndex := 168, attributes := #[] }, { accessFlags := 2, nameIndex := 137, descriptorIndex := 6, attributes := #[] }, { accessFlags := 2, nameIndex := 163, descriptorIndex := 164, attributes := #[] }, { accessFlags := 2, nameIndex := 175, descriptorIndex := 176, attributes := #[] }, { accessFlags := 0, nameIndex := 270, descriptorIndex := 271, attributes := #[] }, { accessFlags := 2, nameIndex := 140, descriptorIndex := 6, attributes := #[] }, { accessFlags := 2, nameIndex := 143, descriptorIndex := 144, attributes := #[] }, { accessFlags := 2, nameIndex := 188, descriptorIndex := 189, attributes := #[] }, { accessFlags := 2, nameIndex := 192, descriptorIndex := 164, attributes := #[] }] 48 2 #[] #[{ accessFlags := 18, nameIndex := 22, descriptorIndex := 23, attributes := #[] }, { accessFlags := 18, nameIndex := 32, descriptorIndex := 16, attributes := #[] }, { accessFlags := 18, nameIndex := 42, descriptorIndex := 12, attributes := #[] }, { accessFlags := 18, nameIndex := 45, descriptorIndex := 49, attributes := #[] }, { accessFlags := 16, nameIndex := 52, descriptorIndex := 12, attributes := #[] }, { accessFlags := 16, nameIndex := 55, descriptorIndex := 12, attributes := #[] }, { accessFlags := 16, nameIndex := 58, descriptorIndex := 12, attributes := #[] }, { accessFlags := 16, nameIndex := 61, descriptorIndex := 12, attributes := #[] }, { accessFlags := 16, nameIndex := 64, descriptorIndex := 12, attributes := #[] }, { accessFlags := 16, nameIndex := 67, descriptorIndex := 12, attributes := #[] }, { accessFlags := 16, nameIndex := 70, descriptorIndex := 12, attributes := #[] }, { accessFlags := 16, nameIndex := 73, descriptorIndex := 12, attributes := #[] }, { accessFlags := 2, nameIndex := 179, descriptorIndex := 12, attributes := #[] }, { accessFlags := 2, nameIndex := 182, descriptorIndex := 12, attributes := #[] }, { accessFlags := 2, nameIndex := 185, descriptorIndex := 12, attributes := #[] }, { accessFlags := 16, nameIndex := 79, descriptorIndex := 12, attributes := #[] }, { accessFlags := 18, nameIndex := 82, descriptorIndex := 12, attributes := #[] }, { accessFlags := 18, nameIndex := 85, descriptorIndex := 12, attributes := #[] }, { accessFlags := 16, nameIndex := 88, descriptorIndex := 12, attributes := #[] }, { accessFlags := 16, nameIndex := 91, descriptorIndex := 12, attributes := #[] }, { accessFlags := 16, nameIndex := 94, descriptorIndex := 12, attributes := #[] }, { accessFlags := 16, nameIndex := 97, descriptorIndex := 12, attributes := #[] }, { accessFlags := 16, nameIndex := 100, descriptorIndex := 12, attributes := #[] }, { accessFlags := 18, nameIndex := 103, descriptorIndex := 12, attributes := #[] }, { accessFlags := 16, nameIndex := 106, descriptorIndex := 107, attributes := #[] }, { accessFlags := 16, nameIndex := 110, descriptorIndex := 12, attributes := #[] }, { accessFlags := 16, nameIndex := 113, descriptorIndex := 12, attributes := #[] }, { accessFlags := 18, nameIndex := 116, descriptorIndex := 12, attributes := #[] }, { accessFlags := 16, nameIndex := 119, descriptorIndex := 12, attributes := #[] }, { accessFlags := 16, nameIndex := 122, descriptorIndex := 12, attributes := #[] }, { accessFlags := 18, nameIndex := 125, descriptorIndex := 12, attributes := #[] }, { accessFlags := 18, nameIndex := 128, descriptorIndex := 12, attributes := #[] }, { accessFlags := 2, nameIndex := 11, descriptorIndex := 12, attributes := #[] }, { accessFlags := 2, nameIndex := 221, descriptorIndex := 16, attributes := #[] }, { accessFlags := 16, nameIndex := 76, descriptorIndex := 12, attributes := #[] }, { accessFlags := 0, nameIndex := 15, descriptorIndex := 16, attributes := #[] }, { accessFlags := 0, nameIndex := 19, descriptorIndex := 16, attributes := #[] }])
  fields := #[{ name := "ends", type := (.object "com/example/ookayama/ookayama/EdgeEnds"), accessFlags := 18, slot := 0, constantValue := 0 }, { name := "n", type := .int, accessFlags := 18, slot := 1, constantValue := 0 }, { name := "representative", type := (.array .int), accessFlags := 18, slot := 2, constantValue := 0 }, { name := "hasCopies", type := .boolean, accessFlags := 18, slot := 3, constantValue := 0 }, { name := "dfi", type := (.array .int), accessFlags := 16, slot := 4, constantValue := 0 }, { name := "vertexAt", type := (.array .int), accessFlags := 16, slot := 5, constantValue := 0 }, { name := "parent", type := (.array .int), accessFlags := 16, slot := 6, constantValue := 0 }, { name := "treeEnd", type := (.array .int), accessFlags := 16, slot := 7, constantValue := 0 }, { name := "leastAncestor", type := (.array .int), accessFlags := 16, slot := 8, constantValue := 0 }, { name := "leastAncestorEdge", type := (.array .int), accessFlags := 16, slot := 9, constantValue := 0 }, { name := "lowpoint", type := (.array .int), accessFlags := 16, slot := 10, constantValue := 0 }, { name := "lowChild", type := (.array .int), accessFlags := 16, slot := 11, constantValue := 0 }, { name := "backStart", type := (.array .int), accessFlags := 2, slot := 12, constantValue := 0 }, { name := "backEnd", type := (.array .int), accessFlags := 2, slot := 13, constantValue := 0 }, { name := "backLower", type := (.array .int), accessFlags := 2, slot := 14, constantValue := 0 }, { name := "separatedHead", type := (.array .int), accessFlags := 16, slot := 15, constantValue := 0 }, { name := "separatedNext", type := (.array .int), accessFlags := 18, slot := 16, constantValue := 0 }, { name := "separatedPrev", type := (.array .int), accessFlags := 18, slot := 17, constantValue := 0 }, { name := "firstArc", type := (.array .int), accessFlags := 16, slot := 18, constantValue := 0 }, { name := "lastArc", type := (.array .int), accessFlags := 16, slot := 19, constantValue := 0 }, { name := "arcNext", type := (.array .int), accessFlags := 16, slot := 20, constantValue := 0 }, { name := "arcPrev", type := (.array .int), accessFlags := 16, slot := 21, constantValue := 0 }, { name := "arcNode", type := (.array .int), accessFlags := 16, slot := 22, constantValue := 0 }, { name := "extFace", type := (.array .int), accessFlags := 18, slot := 23, constantValue := 0 }, { name := "flipped", type := (.array .boolean), accessFlags := 16, slot := 24, constantValue := 0 }, { name := "backFlag", type := (.array .int), accessFlags := 16, slot := 25, constantValue := 0 }, { name := "pendingEnd", type := (.array .int), accessFlags := 16, slot := 26, constantValue := 0 }, { name := "visited", type := (.array .int), accessFlags := 18, slot := 27, constantValue := 0 }, { name := "pertinentHead", type := (.array .int), accessFlags := 16, slot := 28, constantValue := 0 }, { name := "pertinentTail", type := (.array .int), accessFlags := 16, slot := 29, constantValue := 0 }, { name := "pertinentNext", type := (.array .int), accessFlags := 18, slot := 30, constantValue := 0 }, { name := "pertinentPrev", type := (.array .int), accessFlags := 18, slot := 31, constantValue := 0 }, { name := "mergeStack", type := (.array .int), accessFlags := 2, slot := 32, constantValue := 0 }, { name := "mergeTop", type := .int, accessFlags := 2, slot := 33, constantValue := 0 }, { name := "blockedBelow", type := (.array .int), accessFlags := 16, slot := 34, constantValue := 0 }, { name := "failedAt", type := .int, accessFlags := 0, slot := 35, constantValue := 0 }, { name := "failedDescendant", type := .int, accessFlags := 0, slot := 36, constantValue := 0 }]
  methods := #[k3m0, k3m1, k3m2, k3m3, k3m4, k3m5, k3m6, k3m7, k3m8, k3m9, k3m10, k3m11]
  instanceTypes := #[(.object "com/example/ookayama/ookayama/EdgeEnds"), .int, (.array .int), .boolean, (.array .int), (.array .int), (.array .int), (.array .int), (.array .int), (.array .int), (.array .int), (.array .int), (.array .int), (.array .int), (.array .int), (.array .int), (.array .int), (.array .int), (.array .int), (.array .int), (.array .int), (.array .int), (.array .int), (.array .int), (.array .boolean), (.array .int), (.array .int), (.array .int), (.array .int), (.array .int), (.array .int), (.array .int), (.array .int), .int, (.array .int), .int, .int]
  staticTypes := #[]
  resolved := Array.replicate 280 none
  statics := none }

def pool4 : Array CpInfo := pool [(5, u "vertexCount"), (0, u "()I"), (1, .class_ 10), (1, u "com/example/ookayama/ookayama/EdgeEnds"), (4, u "<init>"), (0, u "(I[I)V"), (0, .methodref 18 19), (0, .class_ 20), (0, .nameAndType 15 21), (0, u "java/lang/Object"), (0, u "()V"), (0, .fieldref 8 23), (0, .nameAndType 24 25), (0, u "vertexAt"), (0, u "[I"), (0, .fieldref 8 27), (0, .nameAndType 28 25), (0, u "first"), (0, .fieldref 8 30), (0, .nameAndType 31 25), (0, u "endsAt"), (0, .fieldref 8 33), (0, .nameAndType 34 25), (0, u "neighbourAt"), (2, u "edgeCount"), (3, u "(I)I"), (3, .methodref 8 46), (0, .nameAndType 47 41), (0, u "degree"), (17, u "MAX_DEGREE"), (0, u "I"), (5, u "endAt"), (0, u "(II)I"), (2, u "neighbour")] 18

def k4c0 : Code := { maxStack := 6, maxLocals := 7, code := prog_29_method_2_code, exceptionTable := #[], attributes := #[] }
def k4m0 : Method := { name := "<init>", desc := "(I[I)V", sig := { parameters := [.int, (.array .int)], returnType := none }, accessFlags := 0, code := some k4c0 }
def k4c1 : Code := { maxStack := 2, maxLocals := 1, code := prog_29_method_4_code, exceptionTable := #[], attributes := #[] }
def k4m1 : Method := { name := "vertexCount", desc := "()I", sig := { parameters := [], returnType := some .int }, accessFlags := 0, code := some k4c1 }
def k4c2 : Code := { maxStack := 2, maxLocals := 1, code := prog_29_method_5_code, exceptionTable := #[], attributes := #[] }
def k4m2 : Method := { name := "edgeCount", desc := "()I", sig := { parameters := [], returnType := some .int }, accessFlags := 0, code := some k4c2 }
def k4c3 : Code := { maxStack := 3, maxLocals := 2, code := prog_29_method_6_code, exceptionTable := #[], attributes := #[] }
def k4m3 : Method := { name := "degree", desc := "(I)I", sig := { parameters := [.int], returnType := some .int }, accessFlags := 0, code := some k4c3 }
def k4c4 : Code := { maxStack := 3, maxLocals := 3, code := prog_29_method_7_code, exceptionTable := #[], attributes := #[] }
def k4m4 : Method := { name := "endAt", desc := "(II)I", sig := { parameters := [.int, .int], returnType := some .int }, accessFlags := 0, code := some k4c4 }
def k4c5 : Code := { maxStack := 4, maxLocals := 3, code := prog_29_method_10_code, exceptionTable := #[], attributes := #[] }
def k4m5 : Method := { name := "neighbour", desc := "(II)I", sig := { parameters := [.int, .int], returnType := some .int }, accessFlags := 0, code := some k4c5 }
/-- com/example/ookayama/ookayama/EdgeEnds -/
def k4 : Class := { plain "com/example/ookayama/ookayama/EdgeEnds" (some 0) with
  accessFlags := 48
  interfaces := #[]
  cf := some (fileOf pool4 8 #[] #[{ accessFlags := 0, nameIndex := 15, descriptorIndex := 16, attributes := #[] }, { accessFlags := 0, nameIndex := 5, descriptorIndex := 6, attributes := #[] }, { accessFlags := 0, nameIndex := 37, descriptorIndex := 6, attributes := #[] }, { accessFlags := 0, nameIndex := 47, descriptorIndex := 41, attributes := #[] }, { accessFlags := 0, nameIndex := 72, descriptorIndex := 73, attributes := #[] }, { accessFlags := 0, nameIndex := 76, descriptorIndex := 73, attributes := #[] }] 48 18 #[] #[{ accessFlags := 24, nameIndex := 65, descriptorIndex := 66, attributes := #[] }, { accessFlags := 18, nameIndex := 24, descriptorIndex := 25, attributes := #[] }, { accessFlags := 18, nameIndex := 28, descriptorIndex := 25, attributes := #[] }, { accessFlags := 18, nameIndex := 31, descriptorIndex := 25, attributes := #[] }, { accessFlags := 18, nameIndex := 34, descriptorIndex := 25, attributes := #[] }])
  fields := #[{ name := "MAX_DEGREE", type := .int, accessFlags := 24, slot := 0, constantValue := 0 }, { name := "vertexAt", type := (.array .int), accessFlags := 18, slot := 0, constantValue := 0 }, { name := "first", type := (.array .int), accessFlags := 18, slot := 1, constantValue := 0 }, { name := "endsAt", type := (.array .int), accessFlags := 18, slot := 2, constantValue := 0 }, { name := "neighbourAt", type := (.array .int), accessFlags := 18, slot := 3, constantValue := 0 }]
  methods := #[k4m0, k4m1, k4m2, k4m3, k4m4, k4m5]
  instanceTypes := #[(.array .int), (.array .int), (.array .int), (.array .int)]
  staticTypes := #[.int]
  resolved := Array.replicate 95 none
  statics := none }

def pool5 : Array CpInfo := pool [(2, .class_ 4), (1, u "java/lang/Object"), (0, u "<init>"), (0, u "()V"), (7, .class_ 16), (1, u "java/util/Arrays"), (57, .class_ 76), (1, u "java/util/Arrays$NaturalOrder"), (36, .class_ 115), (1, u "java/util/Arrays$LegacyMergeSort"), (1, u "Z"), (32, .methodref 151 152), (0, .class_ 153), (0, .nameAndType 154 155), (0, u "java/lang/System"), (0, u "arraycopy"), (0, u "(Ljava/lang/Object;ILjava/lang/Object;II)V"), (146, u "copyOf"), (1, .methodref 305 306), (0, .class_ 307), (0, .nameAndType 308 309), (0, u "java/lang/Math"), (0, u "min"), (0, u "(II)I"), (65, .class_ 376), (0, u "java/util/Arrays$ArrayList"), (68, u "$assertionsDisabled"), (269, u "MIN_ARRAY_SORT_GRAN"), (0, u "I"), (2, u "INSERTIONSORT_THRESHOLD"), (120, u "fill"), (4, u "([II)V"), (25, u "([II)[I"), (103, .class_ 976), (0, u "java/util/Arrays$ArrayItr")] 52

def k5m0 : Method := { name := "<init>", desc := "()V", sig := { parameters := [], returnType := none }, accessFlags := 2, code := none }
def k5c1 : Code := { maxStack := 3, maxLocals := 4, code := jdk_65_method_103_code, exceptionTable := #[], attributes := #[] }
def k5m1 : Method := { name := "fill", desc := "([II)V", sig := { parameters := [(.array .int), .int], returnType := none }, accessFlags := 9, code := some k5c1 }
def k5c2 : Code := { maxStack := 6, maxLocals := 3, code := jdk_65_method_123_code, exceptionTable := #[], attributes := #[] }
def k5m2 : Method := { name := "copyOf", desc := "([II)[I", sig := { parameters := [(.array .int), .int], returnType := some (.array .int) }, accessFlags := 9, code := some k5c2 }
/-- java/util/Arrays -/
def k5 : Class := { plain "java/util/Arrays" (some 0) with
  accessFlags := 49
  interfaces := #[]
  cf := some (fileOf pool5 14 #[.nestMembers #[975, 375, 113, 74]] #[{ accessFlags := 2, nameIndex := 5, descriptorIndex := 6, attributes := #[] }, { accessFlags := 9, nameIndex := 840, descriptorIndex := 845, attributes := #[] }, { accessFlags := 9, nameIndex := 302, descriptorIndex := 871, attributes := #[] }] 49 2 #[] #[{ accessFlags := 26, nameIndex := 715, descriptorIndex := 716, attributes := #[] }, { accessFlags := 26, nameIndex := 719, descriptorIndex := 716, attributes := #[] }, { accessFlags := 4120, nameIndex := 445, descriptorIndex := 117, attributes := #[] }])
  fields := #[{ name := "MIN_ARRAY_SORT_GRAN", type := .int, accessFlags := 26, slot := 0, constantValue := 0 }, { name := "INSERTIONSORT_THRESHOLD", type := .int, accessFlags := 26, slot := 1, constantValue := 0 }, { name := "$assertionsDisabled", type := .boolean, accessFlags := 4120, slot := 2, constantValue := 0 }]
  methods := #[k5m0, k5m1, k5m2]
  instanceTypes := #[]
  staticTypes := #[.int, .int, .boolean]
  resolved := Array.replicate 1029 none
  statics := none }

def pool6 : Array CpInfo := pool [(2, .class_ 4), (1, u "java/lang/Object"), (0, u "<init>"), (0, u "()V"), (1, .class_ 10), (1, u "java/lang/System"), (0, u "allowSecurityManager"), (0, u "I"), (16, u "cons"), (0, u "Ljava/io/Console;"), (77, .class_ 110), (1, u "java/lang/System$CallersHolder"), (43, u "initialErrStream"), (0, u "Ljava/io/PrintStream;"), (19, u "security"), (0, u "Ljava/lang/SecurityManager;"), (31, .class_ 209), (0, u "java/lang/System$1"), (7, u "props"), (0, u "Ljava/util/Properties;"), (2, u "lineSeparator"), (0, u "Ljava/lang/String;"), (96, .class_ 321), (1, u "java/lang/System$LoggerFinder"), (5, .class_ 328), (0, u "java/lang/System$Logger"), (67, u "err"), (2, u "out"), (91, u "notSupportedJnuEncoding"), (15, u "in"), (17, u "initialIn"), (0, u "Ljava/io/InputStream;"), (35, u "bootLayer"), (0, u "Ljava/lang/ModuleLayer;"), (99, .class_ 664), (0, u "java/lang/System$2"), (9, u "NEVER"), (2, u "MAYBE"), (49, u "arraycopy"), (0, u "(Ljava/lang/Object;ILjava/lang/Object;II)V"), (72, .class_ 802), (0, u "java/lang/System$Logger$Level")] 31

def k6m0 : Method := { name := "<init>", desc := "()V", sig := { parameters := [], returnType := none }, accessFlags := 2, code := none }
def k6m1 : Method := { name := "arraycopy", desc := "(Ljava/lang/Object;ILjava/lang/Object;II)V", sig := { parameters := [(.object "java/lang/Object"), .int, (.object "java/lang/Object"), .int, .int], returnType := none }, accessFlags := 265, code := none }
/-- java/lang/System -/
def k6 : Class := { plain "java/lang/System" (some 0) with
  accessFlags := 49
  interfaces := #[]
  cf := some (fileOf pool6 8 #[.nestMembers #[319, 327, 801, 108, 663, 208]] #[{ accessFlags := 2, nameIndex := 5, descriptorIndex := 6, attributes := #[] }, { accessFlags := 265, nameIndex := 727, descriptorIndex := 728, attributes := #[] }] 49 2 #[] #[{ accessFlags := 25, nameIndex := 507, descriptorIndex := 526, attributes := #[] }, { accessFlags := 25, nameIndex := 399, descriptorIndex := 155, attributes := #[] }, { accessFlags := 25, nameIndex := 396, descriptorIndex := 155, attributes := #[] }, { accessFlags := 10, nameIndex := 525, descriptorIndex := 526, attributes := #[] }, { accessFlags := 26, nameIndex := 674, descriptorIndex := 12, attributes := #[] }, { accessFlags := 26, nameIndex := 677, descriptorIndex := 12, attributes := #[] }, { accessFlags := 10, nameIndex := 11, descriptorIndex := 12, attributes := #[] }, { accessFlags := 74, nameIndex := 175, descriptorIndex := 176, attributes := #[] }, { accessFlags := 10, nameIndex := 491, descriptorIndex := 222, attributes := #[] }, { accessFlags := 74, nameIndex := 29, descriptorIndex := 30, attributes := #[] }, { accessFlags := 74, nameIndex := 154, descriptorIndex := 155, attributes := #[] }, { accessFlags := 10, nameIndex := 217, descriptorIndex := 218, attributes := #[] }, { accessFlags := 10, nameIndex := 221, descriptorIndex := 222, attributes := #[] }, { accessFlags := 8, nameIndex := 562, descriptorIndex := 563, attributes := #[] }])
  fields := #[{ name := "in", type := (.object "java/io/InputStream"), accessFlags := 25, slot := 0, constantValue := 0 }, { name := "out", type := (.object "java/io/PrintStream"), accessFlags := 25, slot := 1, constantValue := 0 }, { name := "err", type := (.object "java/io/PrintStream"), accessFlags := 25, slot := 2, constantValue := 0 }, { name := "initialIn", type := (.object "java/io/InputStream"), accessFlags := 10, slot := 3, constantValue := 0 }, { name := "NEVER", type := .int, accessFlags := 26, slot := 4, constantValue := 0 }, { name := "MAYBE", type := .int, accessFlags := 26, slot := 5, constantValue := 0 }, { name := "allowSecurityManager", type := .int, accessFlags := 10, slot := 6, constantValue := 0 }, { name := "security", type := (.object "java/lang/SecurityManager"), accessFlags := 74, slot := 7, constantValue := 0 }, { name := "notSupportedJnuEncoding", type := (.object "java/lang/String"), accessFlags := 10, slot := 8, constantValue := 0 }, { name := "cons", type := (.object "java/io/Console"), accessFlags := 74, slot := 9, constantValue := 0 }, { name := "initialErrStream", type := (.object "java/io/PrintStream"), accessFlags := 74, slot := 10, constantValue := 0 }, { name := "props", type := (.object "java/util/Properties"), accessFlags := 10, slot := 11, constantValue := 0 }, { name := "lineSeparator", type := (.object "java/lang/String"), accessFlags := 10, slot := 12, constantValue := 0 }, { name := "bootLayer", type := (.object "java/lang/ModuleLayer"), accessFlags := 8, slot := 13, constantValue := 0 }]
  methods := #[k6m0, k6m1]
  instanceTypes := #[]
  staticTypes := #[(.object "java/io/InputStream"), (.object "java/io/PrintStream"), (.object "java/io/PrintStream"), (.object "java/io/InputStream"), .int, .int, .int, (.object "java/lang/SecurityManager"), (.object "java/lang/String"), (.object "java/io/Console"), (.object "java/io/PrintStream"), (.object "java/util/Properties"), (.object "java/lang/String"), (.object "java/lang/ModuleLayer")]
  resolved := Array.replicate 834 none
  statics := none }

def pool7 : Array CpInfo := pool [(1, u "java/lang/Cloneable"), (0, .class_ 1), (0, u "java/lang/Object"), (0, .class_ 3)] 3

/-- java/lang/Cloneable -/
def k7 : Class := { plain "java/lang/Cloneable" (some 0) with
  accessFlags := 1537
  interfaces := #[]
  cf := some (fileOf pool7 2 #[] #[] 1537 4 #[] #[])
  fields := #[]
  methods := #[]
  instanceTypes := #[]
  staticTypes := #[]
  resolved := Array.replicate 8 none
  statics := none }

def pool8 : Array CpInfo := pool [(1, u "java/io/Serializable"), (0, .class_ 1), (0, u "java/lang/Object"), (0, .class_ 3)] 3

/-- java/io/Serializable -/
def k8 : Class := { plain "java/io/Serializable" (some 0) with
  accessFlags := 1537
  interfaces := #[]
  cf := some (fileOf pool8 2 #[] #[] 1537 4 #[] #[])
  fields := #[]
  methods := #[]
  instanceTypes := #[]
  staticTypes := #[]
  resolved := Array.replicate 8 none
  statics := none }

/-- the primitive boolean -/
def k9 : Class := { plain "boolean" none with kind := .primitive 'Z', accessFlags := 0x411 }
/-- [Z -/
def k10 : Class := { plain "[Z" (some 0) with kind := .array 9 .boolean, interfaces := #[7, 8], accessFlags := 1041 }

/-- the primitive byte -/
def k11 : Class := { plain "byte" none with kind := .primitive 'B', accessFlags := 0x411 }
/-- [B -/
def k12 : Class := { plain "[B" (some 0) with kind := .array 11 .byte, interfaces := #[7, 8], accessFlags := 1041 }

/-- the primitive int -/
def k13 : Class := { plain "int" none with kind := .primitive 'I', accessFlags := 0x411 }
/-- [I -/
def k14 : Class := { plain "[I" (some 0) with kind := .array 13 .int, interfaces := #[7, 8], accessFlags := 1041 }

def heap : Heap := #[]
def classes : Array Class := #[k0, k1, k2, k3, k4, k5, k6, k7, k8, k9, k10, k11, k12, k13, k14]
def interned : List (Array UInt16 × Addr) := []
def slotsUsed : Nat := 0
def theMethod : MethodId := ⟨1, 2⟩
def args0 : Array Value := #[.int 5, .int 300, .int 7, .int 1]
def aboutOver (below : List Frame) : State where
  vm := { classes := classes, interned := interned.toArray }
  heap := heap
  slotsUsed := slotsUsed
  threads := #[{ frames := .invoking theMethod args0 :: below }]
def below0 : List Frame := [.native { method := ⟨0, 0⟩, args := #[] }]
def about1 : State := aboutOver below0
def p0 : Program := .bare "" "" ""
def e0 : Env := launch0.env 0 0 0
theorem w_frames : about1.frames = Frame.invoking theMethod args0 :: below0 := rfl
set_option maxRecDepth 65536 in
theorem w_args : argsFit about1.vm theMethod args0 = true := by decide +kernel
set_option maxRecDepth 65536 in
theorem w_heap : heapFits about1 = true := by decide +kernel
set_option maxRecDepth 65536 in
theorem w_runnable : about1.curStatus? = some .runnable := by decide +kernel
set_option maxRecDepth 65536 in
theorem w_alone : about1.alone = true := by decide +kernel
set_option maxRecDepth 65536 in
theorem w_named : about1.methodNamed? x = some theMethod := by decide +kernel
set_option maxRecDepth 65536 in
theorem w_hears : about1.hears theMethod below0 = true := by decide +kernel
set_option maxRecDepth 65536 in
theorem w_ripe : about1.ripe theMethod args0 below0 = true := by decide +kernel
theorem w_running : about1.status = .running := rfl
set_option maxRecDepth 65536 in
theorem w_room : about1.hasRoom e0.platform room_1 = true :=
  launch0.hasRoom_least _ room_1 (by decide +kernel) (by decide +kernel) (by decide +kernel) (by decide +kernel) (by decide +kernel) (by decide +kernel)
theorem allAtoms_all (ts : List Jvm.Cond) (a : Array Jvm.Value) (st : Jvm.State) : (allAtoms ts).before a st = ts.all (fun c => c.before a st) := by
  induction ts with
  | nil => rfl
  | cons c t ih =>
    show (Jvm.Cond.and c (allAtoms t)).before a st = _
    rw [Jvm.Cond.before_and, ih, List.all_cons]
def words1 : List Jvm.Cond := Jvm.Cond.code x code maxLocals ret :: tables_1
/-- a 'code' word, met by the world's own term for the bytes: nothing is compared byte by byte -/
theorem code_word {y : MethodName} {bytes : ByteArray} {mx : Nat} {rt : Option FieldType} {a : Array Value} {s : State} {m : MethodId} {meth : Method} {c : Code} (h1 : s.methodNamed? y = some m) (h2 : s.vm.method? m = some meth) (h3 : meth.code = some c) (h4 : c.code = bytes)
    (h5 : (c.maxLocals == mx && c.exceptionTable.isEmpty && decide (c.maxStack ≤ mostOperands) && decide (meth.sig.returnType = rt) && !meth.locks && decide (parseMethodDescriptor y.desc = some meth.sig)) = true) : (Jvm.Cond.code y bytes mx rt).before a s = true := by
  simp only [Bool.and_eq_true, beq_iff_eq, Bool.not_eq_true', decide_eq_true_eq] at h5
  obtain ⟨⟨⟨⟨⟨g1, g2⟩, g3⟩, g4⟩, g5⟩, g6⟩ := h5
  simp [Cond.before, Cond.holds, Cond.value, h1, h2, h3, h4, g1, g2, g3, g4, g5, g6]
def isCode : Jvm.Cond → Bool
  | .code _ _ _ _ => true
  | _ => false
theorem all_split {L : List Jvm.Cond} {P : Jvm.Cond → Bool} (h1 : L.all (fun c => isCode c || P c) = true) (h2 : ∀ c ∈ L.filter isCode, P c = true) : L.all P = true := by
  refine List.all_eq_true.mpr fun c hc => ?_
  have h := List.all_eq_true.mp h1 c hc
  rcases Bool.eq_false_or_eq_true (isCode c) with hi | hi
  · exact h2 c (List.mem_filter.mpr ⟨hc, hi⟩)
  · simpa [hi] using h
set_option maxRecDepth 65536 in
theorem w_c0 : (Jvm.Cond.code x code maxLocals ret).before args0 about1 = true := code_word (m := ⟨1, 2⟩) (meth := k1m2) (c := k1c2) (by decide +kernel) rfl rfl rfl (by decide +kernel)
set_option maxRecDepth 65536 in
theorem w_c1 : (Jvm.Cond.code ({ cls := "com/example/ookayama/ookayama/EdgeAdditionSearchRootsPinLaw", name := "relax", desc := "([III)V" } : Jvm.MethodName) method_2_code (4 : Nat) (Option.none : Option Jvm.ClassFile.FieldType)).before args0 about1 = true := code_word (m := ⟨1, 1⟩) (meth := k1m1) (c := k1c1) (by decide +kernel) rfl rfl rfl (by decide +kernel)
set_option maxRecDepth 65536 in
theorem w_c2 : (Jvm.Cond.code ({ cls := "java/lang/Math", name := "min", desc := "(II)I" } : Jvm.MethodName) jdk_29_method_69_code (2 : Nat) (Option.some Jvm.ClassFile.FieldType.int)).before args0 about1 = true := code_word (m := ⟨2, 2⟩) (meth := k2m2) (c := k2c2) (by decide +kernel) rfl rfl rfl (by decide +kernel)
set_option maxRecDepth 65536 in
theorem w_c3 : (Jvm.Cond.code ({ cls := "com/example/ookayama/ookayama/EdgeEnds", name := "<init>", desc := "(I[I)V" } : Jvm.MethodName) prog_29_method_2_code (7 : Nat) (Option.none : Option Jvm.ClassFile.FieldType)).before args0 about1 = true := code_word (m := ⟨4, 0⟩) (meth := k4m0) (c := k4c0) (by decide +kernel) rfl rfl rfl (by decide +kernel)
set_option maxRecDepth 65536 in
theorem w_c4 : (Jvm.Cond.code ({ cls := "java/lang/Object", name := "<init>", desc := "()V" } : Jvm.MethodName) object_method_1_code (1 : Nat) (Option.none : Option Jvm.ClassFile.FieldType)).before args0 about1 = true := code_word (m := ⟨0, 0⟩) (meth := k0m0) (c := k0c0) (by decide +kernel) rfl rfl rfl (by decide +kernel)
set_option maxRecDepth 65536 in
theorem w_c5 : (Jvm.Cond.code ({ cls := "com/example/ookayama/ookayama/EdgeAddition", name := "<init>", desc := "(Lcom/example/ookayama/ookayama/EdgeEnds;)V" } : Jvm.MethodName) prog_27_method_1_code (4 : Nat) (Option.none : Option Jvm.ClassFile.FieldType)).before args0 about1 = true := code_word (m := ⟨3, 0⟩) (meth := k3m0) (c := k3c0) (by decide +kernel) rfl rfl rfl (by decide +kernel)
set_option maxRecDepth 65536 in
theorem w_c6 : (Jvm.Cond.code ({ cls := "com/example/ookayama/ookayama/EdgeEnds", name := "vertexCount", desc := "()I" } : Jvm.MethodName) prog_29_method_4_code (1 : Nat) (Option.some Jvm.ClassFile.FieldType.int)).before args0 about1 = true := code_word (m := ⟨4, 1⟩) (meth := k4m1) (c := k4c1) (by decide +kernel) rfl rfl rfl (by decide +kernel)
set_option maxRecDepth 65536 in
theorem w_c7 : (Jvm.Cond.code ({ cls := "com/example/ookayama/ookayama/EdgeEnds", name := "edgeCount", desc := "()I" } : Jvm.MethodName) prog_29_method_5_code (1 : Nat) (Option.some Jvm.ClassFile.FieldType.int)).before args0 about1 = true := code_word (m := ⟨4, 2⟩) (meth := k4m2) (c := k4c2) (by decide +kernel) rfl rfl rfl (by decide +kernel)
set_option maxRecDepth 65536 in
theorem w_c8 : (Jvm.Cond.code ({ cls := "com/example/ookayama/ookayama/EdgeAddition", name := "representatives", desc := "(Lcom/example/ookayama/ookayama/EdgeEnds;)[I" } : Jvm.MethodName) prog_27_method_2_code (9 : Nat) (Option.some (Jvm.ClassFile.FieldType.array Jvm.ClassFile.FieldType.int))).before args0 about1 = true := code_word (m := ⟨3, 1⟩) (meth := k3m1) (c := k3c1) (by decide +kernel) rfl rfl rfl (by decide +kernel)
set_option maxRecDepth 65536 in
theorem w_c9 : (Jvm.Cond.code ({ cls := "java/util/Arrays", name := "fill", desc := "([II)V" } : Jvm.MethodName) jdk_65_method_103_code (4 : Nat) (Option.none : Option Jvm.ClassFile.FieldType)).before args0 about1 = true := code_word (m := ⟨5, 1⟩) (meth := k5m1) (c := k5c1) (by decide +kernel) rfl rfl rfl (by decide +kernel)
set_option maxRecDepth 65536 in
theorem w_c10 : (Jvm.Cond.code ({ cls := "com/example/ookayama/ookayama/EdgeEnds", name := "degree", desc := "(I)I" } : Jvm.MethodName) prog_29_method_6_code (2 : Nat) (Option.some Jvm.ClassFile.FieldType.int)).before args0 about1 = true := code_word (m := ⟨4, 3⟩) (meth := k4m3) (c := k4c3) (by decide +kernel) rfl rfl rfl (by decide +kernel)
set_option maxRecDepth 65536 in
theorem w_c11 : (Jvm.Cond.code ({ cls := "com/example/ookayama/ookayama/EdgeEnds", name := "endAt", desc := "(II)I" } : Jvm.MethodName) prog_29_method_7_code (3 : Nat) (Option.some Jvm.ClassFile.FieldType.int)).before args0 about1 = true := code_word (m := ⟨4, 4⟩) (meth := k4m4) (c := k4c4) (by decide +kernel) rfl rfl rfl (by decide +kernel)
set_option maxRecDepth 65536 in
theorem w_c12 : (Jvm.Cond.code ({ cls := "com/example/ookayama/ookayama/EdgeEnds", name := "neighbour", desc := "(II)I" } : Jvm.MethodName) prog_29_method_10_code (3 : Nat) (Option.some Jvm.ClassFile.FieldType.int)).before args0 about1 = true := code_word (m := ⟨4, 5⟩) (meth := k4m5) (c := k4c5) (by decide +kernel) rfl rfl rfl (by decide +kernel)
set_option maxRecDepth 65536 in
theorem w_c13 : (Jvm.Cond.code ({ cls := "com/example/ookayama/ookayama/EdgeAddition", name := "hasCopies", desc := "([I)Z" } : Jvm.MethodName) prog_27_method_3_code (2 : Nat) (Option.some Jvm.ClassFile.FieldType.boolean)).before args0 about1 = true := code_word (m := ⟨3, 2⟩) (meth := k3m2) (c := k3c2) (by decide +kernel) rfl rfl rfl (by decide +kernel)
set_option maxRecDepth 65536 in
theorem w_c14 : (Jvm.Cond.code ({ cls := "com/example/ookayama/ookayama/EdgeAddition", name := "search", desc := "()V" } : Jvm.MethodName) prog_27_method_5_code (17 : Nat) (Option.none : Option Jvm.ClassFile.FieldType)).before args0 about1 = true := code_word (m := ⟨3, 4⟩) (meth := k3m4) (c := k3c4) (by decide +kernel) rfl rfl rfl (by decide +kernel)
set_option maxRecDepth 65536 in
theorem w_c15 : (Jvm.Cond.code ({ cls := "java/lang/Math", name := "max", desc := "(II)I" } : Jvm.MethodName) jdk_29_method_65_code (2 : Nat) (Option.some Jvm.ClassFile.FieldType.int)).before args0 about1 = true := code_word (m := ⟨2, 1⟩) (meth := k2m1) (c := k2c1) (by decide +kernel) rfl rfl rfl (by decide +kernel)
set_option maxRecDepth 65536 in
theorem w_c16 : (Jvm.Cond.code ({ cls := "com/example/ookayama/ookayama/EdgeAddition", name := "reach", desc := "(IIII)V" } : Jvm.MethodName) prog_27_method_6_code (5 : Nat) (Option.none : Option Jvm.ClassFile.FieldType)).before args0 about1 = true := code_word (m := ⟨3, 5⟩) (meth := k3m5) (c := k3c5) (by decide +kernel) rfl rfl rfl (by decide +kernel)
set_option maxRecDepth 65536 in
theorem w_c17 : (Jvm.Cond.code ({ cls := "com/example/ookayama/ookayama/EdgeAddition", name := "isRepresentative", desc := "(I)Z" } : Jvm.MethodName) prog_27_method_4_code (2 : Nat) (Option.some Jvm.ClassFile.FieldType.boolean)).before args0 about1 = true := code_word (m := ⟨3, 3⟩) (meth := k3m3) (c := k3c3) (by decide +kernel) rfl rfl rfl (by decide +kernel)
set_option maxRecDepth 65536 in
theorem w_c18 : (Jvm.Cond.code ({ cls := "com/example/ookayama/ookayama/EdgeAddition", name := "listBackEdges", desc := "([I[I[II)V" } : Jvm.MethodName) prog_27_method_7_code (8 : Nat) (Option.none : Option Jvm.ClassFile.FieldType)).before args0 about1 = true := code_word (m := ⟨3, 6⟩) (meth := k3m6) (c := k3c6) (by decide +kernel) rfl rfl rfl (by decide +kernel)
set_option maxRecDepth 65536 in
theorem w_c19 : (Jvm.Cond.code ({ cls := "java/util/Arrays", name := "copyOf", desc := "([II)[I" } : Jvm.MethodName) jdk_65_method_123_code (3 : Nat) (Option.some (Jvm.ClassFile.FieldType.array Jvm.ClassFile.FieldType.int))).before args0 about1 = true := code_word (m := ⟨5, 2⟩) (meth := k5m2) (c := k5c2) (by decide +kernel) rfl rfl rfl (by decide +kernel)
set_option maxRecDepth 65536 in
theorem w_c20 : (Jvm.Cond.code ({ cls := "com/example/ookayama/ookayama/EdgeAddition", name := "sortSeparatedChildren", desc := "()V" } : Jvm.MethodName) prog_27_method_10_code (7 : Nat) (Option.none : Option Jvm.ClassFile.FieldType)).before args0 about1 = true := code_word (m := ⟨3, 8⟩) (meth := k3m8) (c := k3c8) (by decide +kernel) rfl rfl rfl (by decide +kernel)
set_option maxRecDepth 65536 in
theorem w_c21 : (Jvm.Cond.code ({ cls := "com/example/ookayama/ookayama/EdgeAddition", name := "searchRoots", desc := "()[I" } : Jvm.MethodName) prog_27_method_8_code (5 : Nat) (Option.some (Jvm.ClassFile.FieldType.array Jvm.ClassFile.FieldType.int))).before args0 about1 = true := code_word (m := ⟨3, 7⟩) (meth := k3m7) (c := k3c7) (by decide +kernel) rfl rfl rfl (by decide +kernel)
set_option maxRecDepth 65536 in
theorem w_c22 : (Jvm.Cond.code ({ cls := "com/example/ookayama/ookayama/EdgeAddition", name := "embedTreeEdge", desc := "(I)V" } : Jvm.MethodName) prog_27_method_11_code (4 : Nat) (Option.none : Option Jvm.ClassFile.FieldType)).before args0 about1 = true := code_word (m := ⟨3, 9⟩) (meth := k3m9) (c := k3c9) (by decide +kernel) rfl rfl rfl (by decide +kernel)
set_option maxRecDepth 65536 in
theorem w_c23 : (Jvm.Cond.code ({ cls := "com/example/ookayama/ookayama/EdgeAddition", name := "addArc", desc := "(III)V" } : Jvm.MethodName) prog_27_method_12_code (4 : Nat) (Option.none : Option Jvm.ClassFile.FieldType)).before args0 about1 = true := code_word (m := ⟨3, 10⟩) (meth := k3m10) (c := k3c10) (by decide +kernel) rfl rfl rfl (by decide +kernel)
set_option maxRecDepth 65536 in
theorem w_c24 : (Jvm.Cond.code ({ cls := "com/example/ookayama/ookayama/EdgeAddition", name := "link", desc := "(IIII)V" } : Jvm.MethodName) prog_27_method_13_code (5 : Nat) (Option.none : Option Jvm.ClassFile.FieldType)).before args0 about1 = true := code_word (m := ⟨3, 11⟩) (meth := k3m11) (c := k3c11) (by decide +kernel) rfl rfl rfl (by decide +kernel)
def codes1 : List Jvm.Cond := [Jvm.Cond.code x code maxLocals ret, Jvm.Cond.code ({ cls := "com/example/ookayama/ookayama/EdgeAdditionSearchRootsPinLaw", name := "relax", desc := "([III)V" } : Jvm.MethodName) method_2_code (4 : Nat) (Option.none : Option Jvm.ClassFile.FieldType), Jvm.Cond.code ({ cls := "java/lang/Math", name := "min", desc := "(II)I" } : Jvm.MethodName) jdk_29_method_69_code (2 : Nat) (Option.some Jvm.ClassFile.FieldType.int), Jvm.Cond.code ({ cls := "com/example/ookayama/ookayama/EdgeEnds", name := "<init>", desc := "(I[I)V" } : Jvm.MethodName) prog_29_method_2_code (7 : Nat) (Option.none : Option Jvm.ClassFile.FieldType), Jvm.Cond.code ({ cls := "java/lang/Object", name := "<init>", desc := "()V" } : Jvm.MethodName) object_method_1_code (1 : Nat) (Option.none : Option Jvm.ClassFile.FieldType), Jvm.Cond.code ({ cls := "com/example/ookayama/ookayama/EdgeAddition", name := "<init>", desc := "(Lcom/example/ookayama/ookayama/EdgeEnds;)V" } : Jvm.MethodName) prog_27_method_1_code (4 : Nat) (Option.none : Option Jvm.ClassFile.FieldType), Jvm.Cond.code ({ cls := "com/example/ookayama/ookayama/EdgeEnds", name := "vertexCount", desc := "()I" } : Jvm.MethodName) prog_29_method_4_code (1 : Nat) (Option.some Jvm.ClassFile.FieldType.int), Jvm.Cond.code ({ cls := "com/example/ookayama/ookayama/EdgeEnds", name := "edgeCount", desc := "()I" } : Jvm.MethodName) prog_29_method_5_code (1 : Nat) (Option.some Jvm.ClassFile.FieldType.int), Jvm.Cond.code ({ cls := "com/example/ookayama/ookayama/EdgeAddition", name := "representatives", desc := "(Lcom/example/ookayama/ookayama/EdgeEnds;)[I" } : Jvm.MethodName) prog_27_method_2_code (9 : Nat) (Option.some (Jvm.ClassFile.FieldType.array Jvm.ClassFile.FieldType.int)), Jvm.Cond.code ({ cls := "java/util/Arrays", name := "fill", desc := "([II)V" } : Jvm.MethodName) jdk_65_method_103_code (4 : Nat) (Option.none : Option Jvm.ClassFile.FieldType), Jvm.Cond.code ({ cls := "com/example/ookayama/ookayama/EdgeEnds", name := "degree", desc := "(I)I" } : Jvm.MethodName) prog_29_method_6_code (2 : Nat) (Option.some Jvm.ClassFile.FieldType.int), Jvm.Cond.code ({ cls := "com/example/ookayama/ookayama/EdgeEnds", name := "endAt", desc := "(II)I" } : Jvm.MethodName) prog_29_method_7_code (3 : Nat) (Option.some Jvm.ClassFile.FieldType.int), Jvm.Cond.code ({ cls := "com/example/ookayama/ookayama/EdgeEnds", name := "neighbour", desc := "(II)I" } : Jvm.MethodName) prog_29_method_10_code (3 : Nat) (Option.some Jvm.ClassFile.FieldType.int), Jvm.Cond.code ({ cls := "com/example/ookayama/ookayama/EdgeAddition", name := "hasCopies", desc := "([I)Z" } : Jvm.MethodName) prog_27_method_3_code (2 : Nat) (Option.some Jvm.ClassFile.FieldType.boolean), Jvm.Cond.code ({ cls := "com/example/ookayama/ookayama/EdgeAddition", name := "search", desc := "()V" } : Jvm.MethodName) prog_27_method_5_code (17 : Nat) (Option.none : Option Jvm.ClassFile.FieldType), Jvm.Cond.code ({ cls := "java/lang/Math", name := "max", desc := "(II)I" } : Jvm.MethodName) jdk_29_method_65_code (2 : Nat) (Option.some Jvm.ClassFile.FieldType.int), Jvm.Cond.code ({ cls := "com/example/ookayama/ookayama/EdgeAddition", name := "reach", desc := "(IIII)V" } : Jvm.MethodName) prog_27_method_6_code (5 : Nat) (Option.none : Option Jvm.ClassFile.FieldType), Jvm.Cond.code ({ cls := "com/example/ookayama/ookayama/EdgeAddition", name := "isRepresentative", desc := "(I)Z" } : Jvm.MethodName) prog_27_method_4_code (2 : Nat) (Option.some Jvm.ClassFile.FieldType.boolean), Jvm.Cond.code ({ cls := "com/example/ookayama/ookayama/EdgeAddition", name := "listBackEdges", desc := "([I[I[II)V" } : Jvm.MethodName) prog_27_method_7_code (8 : Nat) (Option.none : Option Jvm.ClassFile.FieldType), Jvm.Cond.code ({ cls := "java/util/Arrays", name := "copyOf", desc := "([II)[I" } : Jvm.MethodName) jdk_65_method_123_code (3 : Nat) (Option.some (Jvm.ClassFile.FieldType.array Jvm.ClassFile.FieldType.int)), Jvm.Cond.code ({ cls := "com/example/ookayama/ookayama/EdgeAddition", name := "sortSeparatedChildren", desc := "()V" } : Jvm.MethodName) prog_27_method_10_code (7 : Nat) (Option.none : Option Jvm.ClassFile.FieldType), Jvm.Cond.code ({ cls := "com/example/ookayama/ookayama/EdgeAddition", name := "searchRoots", desc := "()[I" } : Jvm.MethodName) prog_27_method_8_code (5 : Nat) (Option.some (Jvm.ClassFile.FieldType.array Jvm.ClassFile.FieldType.int)), Jvm.Cond.code ({ cls := "com/example/ookayama/ookayama/EdgeAddition", name := "embedTreeEdge", desc := "(I)V" } : Jvm.MethodName) prog_27_method_11_code (4 : Nat) (Option.none : Option Jvm.ClassFile.FieldType), Jvm.Cond.code ({ cls := "com/example/ookayama/ookayama/EdgeAddition", name := "addArc", desc := "(III)V" } : Jvm.MethodName) prog_27_method_12_code (4 : Nat) (Option.none : Option Jvm.ClassFile.FieldType), Jvm.Cond.code ({ cls := "com/example/ookayama/ookayama/EdgeAddition", name := "link", desc := "(IIII)V" } : Jvm.MethodName) prog_27_method_13_code (5 : Nat) (Option.none : Option Jvm.ClassFile.FieldType)]
set_option maxRecDepth 65536 in
theorem codes_eq : words1.filter isCode = codes1 := rfl
theorem w_codes : ∀ c ∈ words1.filter isCode, c.before args0 about1 = true := by
  rw [codes_eq]
  intro c hc
  simp only [codes1, List.mem_cons, List.not_mem_nil, or_false] at hc
  rcases hc with rfl | rfl | rfl | rfl | rfl | rfl | rfl | rfl | rfl | rfl | rfl | rfl | rfl | rfl | rfl | rfl | rfl | rfl | rfl | rfl | rfl | rfl | rfl | rfl | rfl
  · exact w_c0
  · exact w_c1
  · exact w_c2
  · exact w_c3
  · exact w_c4
  · exact w_c5
  · exact w_c6
  · exact w_c7
  · exact w_c8
  · exact w_c9
  · exact w_c10
  · exact w_c11
  · exact w_c12
  · exact w_c13
  · exact w_c14
  · exact w_c15
  · exact w_c16
  · exact w_c17
  · exact w_c18
  · exact w_c19
  · exact w_c20
  · exact w_c21
  · exact w_c22
  · exact w_c23
  · exact w_c24
set_option maxRecDepth 65536 in
theorem w_t1 : (words1.take 24).all (fun c => isCode c || c.before args0 about1) = true := by decide +kernel
set_option maxRecDepth 65536 in
theorem w_t2 : ((words1.drop 24).take 24).all (fun c => isCode c || c.before args0 about1) = true := by decide +kernel
set_option maxRecDepth 65536 in
theorem w_t3 : (((words1.drop 24).drop 24).take 24).all (fun c => isCode c || c.before args0 about1) = true := by decide +kernel
set_option maxRecDepth 65536 in
theorem w_t4 : ((((words1.drop 24).drop 24).drop 24).take 24).all (fun c => isCode c || c.before args0 about1) = true := by decide +kernel
set_option maxRecDepth 65536 in
theorem w_t5 : (((((words1.drop 24).drop 24).drop 24).drop 24).take 24).all (fun c => isCode c || c.before args0 about1) = true := by decide +kernel
set_option maxRecDepth 65536 in
theorem w_t6 : ((((((words1.drop 24).drop 24).drop 24).drop 24).drop 24).take 24).all (fun c => isCode c || c.before args0 about1) = true := by decide +kernel
set_option maxRecDepth 65536 in
theorem w_t7 : (((((((words1.drop 24).drop 24).drop 24).drop 24).drop 24).drop 24).take 24).all (fun c => isCode c || c.before args0 about1) = true := by decide +kernel
set_option maxRecDepth 65536 in
theorem w_t8 : (((((((words1.drop 24).drop 24).drop 24).drop 24).drop 24).drop 24).drop 24).all (fun c => isCode c || c.before args0 about1) = true := by decide +kernel
theorem w_tables : (allAtoms (Jvm.Cond.code x code maxLocals ret :: tables_1)).before args0 about1 = true := by
  rw [allAtoms_all]
  show words1.all (fun c => c.before args0 about1) = true
  refine all_split ?_ w_codes
  rw [← List.take_append_drop 24 words1, List.all_append, w_t1, ← List.take_append_drop 24 (words1.drop 24), List.all_append, w_t2, ← List.take_append_drop 24 ((words1.drop 24).drop 24), List.all_append, w_t3, ← List.take_append_drop 24 (((words1.drop 24).drop 24).drop 24), List.all_append, w_t4, ← List.take_append_drop 24 ((((words1.drop 24).drop 24).drop 24).drop 24), List.all_append, w_t5, ← List.take_append_drop 24 (((((words1.drop 24).drop 24).drop 24).drop 24).drop 24), List.all_append, w_t6, ← List.take_append_drop 24 ((((((words1.drop 24).drop 24).drop 24).drop 24).drop 24).drop 24), List.all_append, w_t7, w_t8]
  rfl
set_option maxRecDepth 65536 in
theorem w_case : (Jvm.Cond.and given_1 narrow_1).before args0 about1 = true := by decide +kernel
theorem w_applies : (headSpec (Jvm.Cond.code x code maxLocals ret :: tables_1) room_1).applies x e0.platform about1 = true :=
  (Spec.applies_iff w_frames).mpr ⟨w_running, w_runnable, w_alone, w_named, w_hears, w_ripe, w_room, w_tables⟩
theorem atStart : AtStart classFile x code maxLocals ret World_1 tables_1 room_1 Calls_1 rest_1 Pre_1 launch0 p0 e0 about1 theMethod args0 below0 :=
  ⟨lists_1, trivial, launch0.admits_env _ _ _, launch0.least_env, fairChoices_fair.cas, fairChoices_fair.clock, w_frames, w_args, w_heap, w_applies, trivial, trivial, w_case⟩
end start1
theorem witness_1 : WitnessClaimed_1 := ⟨start1.p0, start1.e0, start1.about1, start1.theMethod, start1.args0, start1.below0, start1.atStart⟩
end Jvm.Pilot.@@N@@
