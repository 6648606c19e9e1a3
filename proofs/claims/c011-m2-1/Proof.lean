import JvmDerived
import JvmDerived.Pilot.@@N@@Statement
import JvmDerived.Pilot.@@N@@Code
set_option linter.unusedVariables false
set_option linter.unusedSimpArgs false
namespace Jvm.Pilot.@@N@@
open Jvm Jvm.ClassFile Sem Op Lib Jvm.Free Jvm.Stand Jvm.LawKit Jvm.RoadKit Bundle Jvm.Pilot.@@N@@.Jvm.D
section Core
variable {p : Program} {l : Launch} {e : Env} {R : Room} {s : State} {m : MethodId} {args : Array Value} {below : List Frame} {meth : Method} {c : Code} {Z : State} {n0 : Nat} {T : State} {h : Heap} {k n : Nat} {Q : Option Value → Heap → Prop} {K N : Nat} {a0 : Array Value}
/-- where a walk stands: the state T, its heap h, k cells and n slots made so far; every place that was written is new -/
def WSt (p : Program) (l : Launch) (e : Env) (R : Room) (s : State) (m : MethodId) (args : Array Value) (below : List Frame) (meth : Method) (c : Code) (Z : State) (n0 : Nat) (T : State) (h : Heap) (k n : Nat) : Prop :=
  ∃ locs, Stand p l e R s m args below meth c T locs k n ∧ T.heap = h ∧ Fr n0 locs ∧ n0 ≤ s.heap.size ∧ p.tables.exec = Jvm.exec ∧ Z.Warmed39 s.vm ∧ meth.locks = false
/-- from here the invocation returns, and what it leaves answers to Q -/
def WGo (p : Program) (e : Env) (below : List Frame) (s : State) (n0 : Nat) (Q : Option Value → Heap → Prop) (K N : Nat) (T : State) (g : JFrame) : Prop :=
  ∃ s₂ o, Steps p.tables e below (T.setTop g) s₂ ∧ s₂.status = .running ∧ Ended s₂ below o ∧ ∃ v L, o = .returned v ∧ (Q v s₂.heap ∧ Fr n0 L) ∧ FrameEnd s o s₂ L K N
/-- a body's contract at one heap and one list of arguments -/
def WCon (l : Launch) (Z : State) (n0 : Nat) (h0 : Heap) (y : MethodName) (bytes : ByteArray) (maxL : Nat) (ret : Option FieldType) (ws : List Jvm.Cond) (rm : Room) (as : Array Value) (Q : Option Value → Heap → Prop) : Prop :=
  MetFree l y (head1 (Jvm.Cond.code y bytes maxL ret :: ws) rm) (fun a U => a = as ∧ Z.Warmed39 U.vm ∧ U.heap = h0) (fun _ _ _ _ _ => True) (fun _ U o U' => ∃ v L, o = .returned v ∧ (Q v U'.heap ∧ Fr n0 L) ∧ FrameEnd U o U' L rm.cells rm.slots)

theorem WSt.here (S : WSt p l e R s m args below meth c Z n0 T h k n) : At T m c below := by obtain ⟨_, X, _⟩ := S; exact X.here
theorem WSt.eT (S : WSt p l e R s m args below meth c Z n0 T h k n) : T.heap = h := by obtain ⟨_, _, q, _⟩ := S; exact q
theorem WSt.ge (S : WSt p l e R s m args below meth c Z n0 T h k n) : n0 ≤ h.size := by
  obtain ⟨_, X, q, _, r, _⟩ := S
  have h1 : s.heap.size ≤ T.heap.size := X.same.2.1
  rw [← q]; omega
theorem WGo.st {T' : State} {g g' : JFrame} (q : ∀ t, Steps p.tables e below (T'.setTop g') t → Steps p.tables e below (T.setTop g) t) (r : WGo p e below s n0 Q K N T' g') : WGo p e below s n0 Q K N T g := by
  obtain ⟨s2, o, h1, r⟩ := r
  exact ⟨s2, o, q _ h1, r⟩
theorem WGo.cast {g g' : JFrame} (q : g = g') (r : WGo p e below s n0 Q K N T g') : WGo p e below s n0 Q K N T g := q ▸ r
theorem WCon.of {y : MethodName} {bytes : ByteArray} {maxL : Nat} {ret : Option FieldType} {ws : List Jvm.Cond} {rm : Room} {as : Array Value} {h0 : Heap} (hp : plainFor y = true) (hn0 : n0 ≤ h0.size)
    (body : ∀ (p : Program) (e : Env) (s : State) (m : MethodId) (below : List Frame) (meth : Method) (c : Code) (T : State), p.tables.exec = Jvm.exec → Z.Warmed39 s.vm → c.code = bytes → c.maxLocals = maxL → s.vm.findClass y.cls = some m.cls → meth.name = y.name → meth.sig.returnType = ret → WSt p l e rm s m as below meth c Z n0 T h0 0 0 → WGo p e below s n0 Q rm.cells rm.slots T (entryFrame m as maxL)) :
    WCon l Z n0 h0 y bytes maxL ret ws rm as Q := by
  refine MetFree.of_bodySF hp hisR ?_
  intro p e s m args below meth c s₁ Bd hml0 hP hK
  obtain ⟨rfl, hZ, hh⟩ := hP
  have X0 := Stand.of_body Bd
  exact body p e s m below meth c s₁ Bd.exec hZ Bd.bytes hml0 (findClass_of_methodNamed Bd.named) (name_of_methodNamed Bd.named Bd.method).1 Bd.returns ⟨[], X0, by rw [← hh, Bd.state]; rfl, Fr.nil _, by rw [hh]; exact hn0, Bd.exec, hZ, Bd.notSynchronized⟩
/-- the returns -/
theorem w_ret (S : WSt p l e R s m args below meth c Z n0 T h k n) {t : FieldType} {w : Value} {i : Instr} {pc : Nat} {Ls : Array Slot} {rest : List Value} (hret : meth.sig.returnType = some t) (hnw : narrow t w = w)
    (hi : (i = .ireturn ∧ (t = .int ∨ t = .boolean ∨ t = .byte ∨ t = .char ∨ t = .short) ∧ ∃ z, w = .int z) ∨ (i = .lreturn ∧ t = .long ∧ ∃ z, w = .long z) ∨ (i = .dreturn ∧ t = .double ∧ ∃ z, w = .double z) ∨ (i = .freturn ∧ t = .float ∧ ∃ z, w = .float z) ∨ (i = .areturn ∧ t.isReference = true ∧ w.isRef = true))
    (hd : decode c.code pc = .ok (i, 1)) (hk : k ≤ K) (hn : n ≤ N) (hQ : Q (some w) h) : WGo p e below s n0 Q K N T (mkF m pc Ls (w :: rest)) := by
  obtain ⟨locs, X, e1, N1, -, hx, hZ, hlk⟩ := S
  obtain ⟨fs, hr, hrun, hended, hW, hsame⟩ := X.leave (v := some w) (fun q => by rw [hret] at q; cases q) hlk
  refine ⟨_, _, retOut X hx hret hnw hi hd hr, hrun, hended, _, locs, rfl, ⟨?_, N1⟩, ⟨_, rfl⟩, hW, hsame.mono hk hn⟩
  show Q (some w) T.heap
  rw [e1]; exact hQ
theorem w_retI (S : WSt p l e R s m args below meth c Z n0 T h k n) {z : Int32} {pc : Nat} {Ls : Array Slot} {rest : List Value} (hret : meth.sig.returnType = some .int) (hd : decode c.code pc = .ok (.ireturn, 1)) (hk : k ≤ K) (hn : n ≤ N) (hQ : Q (some (.int z)) h) : WGo p e below s n0 Q K N T (mkF m pc Ls (.int z :: rest)) :=
  w_ret S hret rfl (Or.inl ⟨rfl, Or.inl rfl, _, rfl⟩) hd hk hn hQ
theorem w_retZ (S : WSt p l e R s m args below meth c Z n0 T h k n) {z : Int32} {pc : Nat} {Ls : Array Slot} {rest : List Value} (hret : meth.sig.returnType = some .boolean) (hd : decode c.code pc = .ok (.ireturn, 1)) (hz : z = 0 ∨ z = 1) (hk : k ≤ K) (hn : n ≤ N) (hQ : Q (some (.int z)) h) : WGo p e below s n0 Q K N T (mkF m pc Ls (.int z :: rest)) :=
  w_ret S hret (by rcases hz with rfl | rfl <;> rfl) (Or.inl ⟨rfl, Or.inr (Or.inl rfl), _, rfl⟩) hd hk hn hQ
theorem w_retJ (S : WSt p l e R s m args below meth c Z n0 T h k n) {z : Int64} {pc : Nat} {Ls : Array Slot} {rest : List Value} (hret : meth.sig.returnType = some .long) (hd : decode c.code pc = .ok (.lreturn, 1)) (hk : k ≤ K) (hn : n ≤ N) (hQ : Q (some (.long z)) h) : WGo p e below s n0 Q K N T (mkF m pc Ls (.long z :: rest)) :=
  w_ret S hret rfl (Or.inr (Or.inl ⟨rfl, rfl, _, rfl⟩)) hd hk hn hQ
theorem w_retA (S : WSt p l e R s m args below meth c Z n0 T h k n) {t : FieldType} {z : Addr} {pc : Nat} {Ls : Array Slot} {rest : List Value} (hret : meth.sig.returnType = some t) (ht : t.isReference = true) (hnw : narrow t (.ref z) = .ref z) (hd : decode c.code pc = .ok (.areturn, 1)) (hk : k ≤ K) (hn : n ≤ N) (hQ : Q (some (.ref z)) h) : WGo p e below s n0 Q K N T (mkF m pc Ls (.ref z :: rest)) :=
  w_ret S hret hnw (Or.inr (Or.inr (Or.inr (Or.inr ⟨rfl, ht, rfl⟩)))) hd hk hn hQ
theorem w_retV (S : WSt p l e R s m args below meth c Z n0 T h k n) {pc : Nat} {Ls : Array Slot} (hret : meth.sig.returnType = none) (hd : decode c.code pc = .ok (.return_, 1)) (hk : k ≤ K) (hn : n ≤ N) (hQ : Q none h) : WGo p e below s n0 Q K N T (mkF m pc Ls []) := by
  obtain ⟨locs, X, e1, N1, -, hx, hZ, hlk⟩ := S
  obtain ⟨fs, hr, hrun, hended, hW, hsame⟩ := X.leave (v := none) (fun _ => rfl) hlk
  refine ⟨_, _, X.returnOut hx hret hd hr, hrun, hended, _, locs, rfl, ⟨?_, N1⟩, ⟨_, rfl⟩, hW, hsame.mono hk hn⟩
  show Q none T.heap
  rw [e1]; exact hQ
/-- constants, remainder -/
theorem w_ldc (S : WSt p l e R s m args below meth c Z n0 T h k n) {own : String} {index : Nat} {v : Int32} (hown : s.vm.findClass own = some m.cls) (w : (Jvm.Cond.constant own index v).before a0 Z = true) {g : JFrame} (hg : g.method = m) (hd : decode c.code g.pc = .ok (.ldc index, 2))
    (r : WGo p e below s n0 Q K N T { g with pc := g.pc + 2, stack := .int v :: g.stack }) : WGo p e below s n0 Q K N T g := by
  obtain ⟨locs, X, e1, N1, -, hx, hZ, hlk⟩ := S
  exact WGo.st (X.ldcInt hx hown (mvT hZ w) hg hd) r
theorem w_ldc2 (S : WSt p l e R s m args below meth c Z n0 T h k n) {own : String} {index : Nat} {v : Int64} (hown : s.vm.findClass own = some m.cls) (w : (Jvm.Cond.constantLong own index v).before a0 Z = true) {g : JFrame} (hg : g.method = m) (hd : decode c.code g.pc = .ok (.ldc2_w index, 3))
    (r : WGo p e below s n0 Q K N T { g with pc := g.pc + 3, stack := .long v :: g.stack }) : WGo p e below s n0 Q K N T g := by
  obtain ⟨locs, X, e1, N1, -, hx, hZ, hlk⟩ := S
  exact WGo.st (X.ldc2Long hx hown (mvT hZ w) hg hd) r
theorem w_irem (S : WSt p l e R s m args below meth c Z n0 T h k n) {g : JFrame} (hg : g.method = m) {x y : Int32} {rest : List Value} (hd : decode c.code g.pc = .ok (.irem, 1)) (hs : g.stack = .int y :: .int x :: rest) (hy : y ≠ 0)
    (r : WGo p e below s n0 Q K N T { g with pc := g.pc + 1, stack := .int (x % y) :: rest }) : WGo p e below s n0 Q K N T g := by
  obtain ⟨locs, X, e1, N1, -, hx, hZ, hlk⟩ := S
  exact WGo.st (fun _ q => iremM X hx hg hd hs hy q) r
/-- arrays of ints, bytes, booleans, chars: the values in order -/
def AI (Z : State) (h : Heap) (a : Addr) (ty : FieldType) (L : List Int32) : Prop := ∃ cl : Cell, Arr Z h a cl ty ∧ cl.slots = (L.map Value.int).toArray
def gi (L : List Int32) (j : Int32) : Int32 := L.getD j.toNatClampNeg 0
def si (L : List Int32) (j : Int32) (v : Int32) : List Int32 := L.set j.toNatClampNeg v
variable {a b : Addr} {ty : FieldType} {L : List Int32} {h' : Heap} {ws : List Addr}
theorem AI.lt (A : AI Z h a ty L) : a < h.size := by obtain ⟨cl, A, -⟩ := A; exact A.lt
theorem AI.keep (A : AI Z h a ty L) (K : Keep h h' ws) (q : a ∉ ws) : AI Z h' a ty L := by obtain ⟨cl, A, r⟩ := A; exact ⟨cl, ⟨K.2.1 a cl A.1 q, A.2⟩, r⟩
theorem ai_size {cl : Cell} (r : cl.slots = (L.map Value.int).toArray) : cl.slots.size = L.length := by rw [r]; simp
theorem ai_in {cl : Cell} {j : Int32} (r : cl.slots = (L.map Value.int).toArray) (h0 : 0 ≤ j.toInt) (h1 : j.toInt < L.length) : ¬ (j < 0 ∨ cl.slots.size ≤ j.toNatClampNeg) := by
  rw [ai_size r]
  have : (0 : Int32).toInt = 0 := rfl
  simp only [Int32.lt_iff_toInt_lt, Int32.toNatClampNeg]; omega
theorem ai_at {cl : Cell} {j : Int32} (r : cl.slots = (L.map Value.int).toArray) (h0 : 0 ≤ j.toInt) (h1 : j.toInt < L.length) : cl.slots[j.toNatClampNeg]? = some (.int (gi L j)) := by
  have q : j.toNatClampNeg < L.length := by simp only [Int32.toNatClampNeg]; omega
  rw [r]
  simp [gi, q]
theorem keep_ext {h h' : Heap} (E : Ext h h') (ws : List Addr) : Keep h h' ws := (Keep.refl h ws).ext E
theorem ai_new {cl : ClassId} {ty : FieldType} {j : Int32} (hty : defaultValue ty = .int 0) : (newA cl ty j).slots = ((List.replicate j.toNatClampNeg (0 : Int32)).map Value.int).toArray := by
  simp [newA, hty]
theorem w_newarray (S : WSt p l e R s m args below meth c Z n0 T h k n) {aty : ArrayType} (w : (Jvm.Cond.arrayClass (newarray.typeOf aty)).before a0 Z = true) (hty : defaultValue (newarray.typeOf aty) = .int 0) {g : JFrame} (hg : g.method = m) (hd : decode c.code g.pc = .ok (.newarray aty, 2)) {j : Int32} {rest : List Value} (hs : g.stack = .int j :: rest)
    (hj : ¬ j < 0) {cap : Nat} (hcap : j.toNatClampNeg ≤ cap) (hb : cap * 8 ≤ 536870912) (hc : k + 1 ≤ R.cells) (hl : n + cap ≤ R.slots) {L : List Int32} (hL : List.replicate j.toNatClampNeg 0 = L)
    (r : ∀ T' h' a', WSt p l e R s m args below meth c Z n0 T' h' (k + 1) (n + cap) → Keep h h' [] → a' = h.size → n0 ≤ a' → AI Z h' a' (newarray.typeOf aty) L → WGo p e below s n0 Q K N T' { g with pc := g.pc + 2, stack := .ref a' :: rest }) : WGo p e below s n0 Q K N T g := by
  have hge := S.ge
  obtain ⟨locs, X, e1, N1, n1, hx, hZ, hlk⟩ := S
  obtain ⟨T', h', cA, X', e', E', A', st⟩ := newP X hx hZ w e1 hg hd hs hj hcap hb hc hl
  exact WGo.st st (r T' h' _ ⟨locs, X', e', N1, n1, hx, hZ, hlk⟩ (keep_ext E' _) rfl hge ⟨_, A', by rw [ai_new hty, hL]⟩)
theorem w_iaload (S : WSt p l e R s m args below meth c Z n0 T h k n) (A : AI Z h a .int L) {g : JFrame} (hg : g.method = m) (hd : decode c.code g.pc = .ok (.iaload, 1)) {j : Int32} {rest : List Value} (hs : g.stack = .int j :: .ref a :: rest) (h0 : 0 ≤ j.toInt) (h1 : j.toInt < L.length) {v : Int32} (hv : gi L j = v)
    (r : WGo p e below s n0 Q K N T { g with pc := g.pc + 1, stack := .int v :: rest }) : WGo p e below s n0 Q K N T g := by
  subst hv
  obtain ⟨locs, X, e1, N1, n1, hx, hZ, hlk⟩ := S
  obtain ⟨cl, A, q⟩ := A
  exact WGo.st (fun t u => X.iaload hx (j := j) (v := .int (gi L j)) (by rw [e1]; exact A.1) (State.isArrayOf_alike hZ.alike A.2.1) A.2.2 (ai_in q h0 h1) (ai_at q h0 h1) hg hs hd t u) r
theorem w_caload (S : WSt p l e R s m args below meth c Z n0 T h k n) (A : AI Z h a .char L) {g : JFrame} (hg : g.method = m) (hd : decode c.code g.pc = .ok (.caload, 1)) {j : Int32} {rest : List Value} (hs : g.stack = .int j :: .ref a :: rest) (h0 : 0 ≤ j.toInt) (h1 : j.toInt < L.length) {v : Int32} (hv : gi L j = v)
    (r : WGo p e below s n0 Q K N T { g with pc := g.pc + 1, stack := .int v :: rest }) : WGo p e below s n0 Q K N T g := by
  subst hv
  obtain ⟨locs, X, e1, N1, n1, hx, hZ, hlk⟩ := S
  obtain ⟨cl, A, q⟩ := A
  exact WGo.st (fun t u => X.caload hx (j := j) (v := .int (gi L j)) (by rw [e1]; exact A.1) (State.isArrayOf_alike hZ.alike A.2.1) A.2.2 (ai_in q h0 h1) (ai_at q h0 h1) hg hs hd t u) r
theorem w_baload (S : WSt p l e R s m args below meth c Z n0 T h k n) (A : AI Z h a .byte L) {g : JFrame} (hg : g.method = m) (hd : decode c.code g.pc = .ok (.baload, 1)) {j : Int32} {rest : List Value} (hs : g.stack = .int j :: .ref a :: rest) (h0 : 0 ≤ j.toInt) (h1 : j.toInt < L.length) {v : Int32} (hv : gi L j = v)
    (r : WGo p e below s n0 Q K N T { g with pc := g.pc + 1, stack := .int v :: rest }) : WGo p e below s n0 Q K N T g := by
  subst hv
  obtain ⟨locs, X, e1, N1, n1, hx, hZ, hlk⟩ := S
  obtain ⟨cl, A, q⟩ := A
  exact WGo.st (fun t u => X.baloadBytes hx (j := j) (v := .int (gi L j)) (by rw [e1]; exact A.1) (State.isArrayOf_alike hZ.alike A.2.1) A.2.2 (ai_in q h0 h1) (ai_at q h0 h1) hg hs hd t u) r
theorem w_zaload (S : WSt p l e R s m args below meth c Z n0 T h k n) (A : AI Z h a .boolean L) {g : JFrame} (hg : g.method = m) (hd : decode c.code g.pc = .ok (.baload, 1)) {j : Int32} {rest : List Value} (hs : g.stack = .int j :: .ref a :: rest) (h0 : 0 ≤ j.toInt) (h1 : j.toInt < L.length) {v : Int32} (hv : gi L j = v)
    (r : WGo p e below s n0 Q K N T { g with pc := g.pc + 1, stack := .int v :: rest }) : WGo p e below s n0 Q K N T g := by
  subst hv
  obtain ⟨locs, X, e1, N1, n1, hx, hZ, hlk⟩ := S
  obtain ⟨cl, A, q⟩ := A
  exact WGo.st (fun t u => X.baloadBooleans hx (j := j) (v := .int (gi L j)) (by rw [e1]; exact A.1) (State.isArrayOf_alike hZ.alike A.2.1) A.2.2 (ai_in q h0 h1) (ai_at q h0 h1) hg hs hd t u) r
theorem w_arraylength (S : WSt p l e R s m args below meth c Z n0 T h k n) (A : AI Z h a ty L) {g : JFrame} (hg : g.method = m) (hd : decode c.code g.pc = .ok (.arraylength, 1)) {rest : List Value} (hs : g.stack = .ref a :: rest) {z : Int32} (hz : L.length.toInt32 = z)
    (r : WGo p e below s n0 Q K N T { g with pc := g.pc + 1, stack := .int z :: rest }) : WGo p e below s n0 Q K N T g := by
  obtain ⟨locs, X, e1, N1, n1, hx, hZ, hlk⟩ := S
  obtain ⟨cl, A, q⟩ := A
  subst hz
  exact WGo.st (fun t u => X.arraylength hx (by rw [e1]; exact A.1) (State.isArrayOf_alike hZ.alike A.2.1) hg hs hd t (by rw [ai_size q]; exact u)) r
theorem ai_set {cl : Cell} {j x : Int32} (r : cl.slots = (L.map Value.int).toArray) : (cl.setSlot j.toNatClampNeg (.int x)).slots = ((si L j x).map Value.int).toArray := by
  simp [Cell.setSlot, r, si]
theorem w_iastore (S : WSt p l e R s m args below meth c Z n0 T h k n) (A : AI Z h a .int L) (ga : n0 ≤ a) {g : JFrame} (hg : g.method = m) (hd : decode c.code g.pc = .ok (.iastore, 1)) {j x : Int32} {rest : List Value} (hs : g.stack = .int x :: .int j :: .ref a :: rest) (h0 : 0 ≤ j.toInt) (h1 : j.toInt < L.length) {L' : List Int32} (hL : si L j x = L')
    (r : ∀ T' h', WSt p l e R s m args below meth c Z n0 T' h' k n → Keep h h' [a] → AI Z h' a .int L' → WGo p e below s n0 Q K N T' { g with pc := g.pc + 1, stack := rest }) : WGo p e below s n0 Q K N T g := by
  obtain ⟨locs, X, e1, N1, n1, hx, hZ, hlk⟩ := S
  obtain ⟨cl, A, q⟩ := A
  obtain ⟨T', h', X', e', W', st⟩ := stI X hx hZ e1 A (ai_in q h0 h1) hg hs hd
  exact WGo.st st (r T' h' ⟨_, X', e', Fr.snoc X' N1 ga, n1, hx, hZ, hlk⟩ (Keep.of_wr W') ⟨_, A.same W', by rw [ai_set q, hL]⟩)
theorem w_bastore (S : WSt p l e R s m args below meth c Z n0 T h k n) (A : AI Z h a .byte L) (ga : n0 ≤ a) {g : JFrame} (hg : g.method = m) (hd : decode c.code g.pc = .ok (.bastore, 1)) {j x : Int32} {rest : List Value} (hs : g.stack = .int x :: .int j :: .ref a :: rest) (h0 : 0 ≤ j.toInt) (h1 : j.toInt < L.length) {L' : List Int32} (hL : si L j x.toInt8.toInt32 = L')
    (r : ∀ T' h', WSt p l e R s m args below meth c Z n0 T' h' k n → Keep h h' [a] → AI Z h' a .byte L' → WGo p e below s n0 Q K N T' { g with pc := g.pc + 1, stack := rest }) : WGo p e below s n0 Q K N T g := by
  obtain ⟨locs, X, e1, N1, n1, hx, hZ, hlk⟩ := S
  obtain ⟨cl, A, q⟩ := A
  obtain ⟨T', h', X', e', W', st⟩ := stB X hx hZ e1 A (ai_in q h0 h1) hg hs hd
  exact WGo.st st (r T' h' ⟨_, X', e', Fr.snoc X' N1 ga, n1, hx, hZ, hlk⟩ (Keep.of_wr W') ⟨_, A.same W', by rw [ai_set q]; exact hL ▸ rfl⟩)
theorem w_zastore (S : WSt p l e R s m args below meth c Z n0 T h k n) (A : AI Z h a .boolean L) (ga : n0 ≤ a) {g : JFrame} (hg : g.method = m) (hd : decode c.code g.pc = .ok (.bastore, 1)) {j x : Int32} {rest : List Value} (hs : g.stack = .int x :: .int j :: .ref a :: rest) (h0 : 0 ≤ j.toInt) (h1 : j.toInt < L.length) (hb : x = 0 ∨ x = 1) {L' : List Int32} (hL : si L j x = L')
    (r : ∀ T' h', WSt p l e R s m args below meth c Z n0 T' h' k n → Keep h h' [a] → AI Z h' a .boolean L' → WGo p e below s n0 Q K N T' { g with pc := g.pc + 1, stack := rest }) : WGo p e below s n0 Q K N T g := by
  obtain ⟨locs, X, e1, N1, n1, hx, hZ, hlk⟩ := S
  obtain ⟨cl, A, q⟩ := A
  obtain ⟨T', h', X', e', W', st⟩ := stZ X hx hZ e1 A (ai_in q h0 h1) hg hs hd
  have hx1 : nar .boolean x = x := by rcases hb with rfl | rfl <;> rfl
  rw [hx1] at W'
  exact WGo.st st (r T' h' ⟨_, X', e', Fr.snoc X' N1 ga, n1, hx, hZ, hlk⟩ (Keep.of_wr W') ⟨_, A.same W', by rw [ai_set q, hL]⟩)
/-- calls by contract -/
theorem w_static (S : WSt p l e R s m args below meth c Z n0 T h k n) {own : String} {index : Nat} {y : MethodName} {bytes : ByteArray} {maxL : Nat} {ret : Option FieldType} (hown : s.vm.findClass own = some m.cls) (w1 : (Jvm.Cond.methodLink own index y).before a0 Z = true) (w2 : (Jvm.Cond.static y).before a0 Z = true) (w3 : (Jvm.Cond.initialized y.cls).before a0 Z = true) (w4 : (Jvm.Cond.code y bytes maxL ret).before a0 Z = true) (hy : y.cls ≠ "java/lang/invoke/MethodHandle" ∧ y.cls ≠ "java/lang/invoke/VarHandle")
    {rm : Room} {as : Array Value} {Qc : Option Value → Heap → Prop} (C : WCon l Z n0 h y bytes maxL ret [] rm as Qc) {W : Nat} (hf : rm.frames + 1 ≤ R.frames) (hl : W + (maxL + 11) + rm.locals ≤ R.locals) (hc : k + rm.cells ≤ R.cells) (hs : n + rm.slots ≤ R.slots)
    {g : JFrame} (hg : g.method = m) (hsize : g.locals.size = c.maxLocals) {argsL rest : List Value} {ps : List FieldType} {rt : Option FieldType} (hpd : parseMethodDescriptor y.desc = some ⟨ps, rt⟩) (hlen : argsL.length = ps.length) (hstack : g.stack = argsL.reverse ++ rest) (has : argsL.toArray = as) (hW : 2 * g.monitorRoom + (rest.map fun v => v.category).sum ≤ W) (hd : decode c.code g.pc = .ok (.invokestatic index, 3))
    (r : ∀ T' h' v, WSt p l e R s m args below meth c Z n0 T' h' (k + rm.cells) (n + rm.slots) → Qc v h' → WGo p e below s n0 Q K N T' { g with pc := g.pc + 3, stack := v.toList ++ rest }) : WGo p e below s n0 Q K N T g := by
  obtain ⟨locs, X, e1, N1, n1, hx, hZ, hlk⟩ := S
  have B := backOf (W := W) (s := s) (args := args) (R := R) (p := p) (e := e) (below := below) (len := 3) (a0 := a0) (Q := fun v h L => Qc v h ∧ Fr n0 L) C hZ w4 w3 hf hl
  obtain ⟨v, vm1, ⟨T1, L1, k1, m1⟩, -, X1, ⟨Lc, hQ, l1, y1, z1⟩, st⟩ := Jvm.LawKit.callS X hx (y := y) hown (mvT hZ w1) (mvT hZ w2) (mvT hZ w3) (mvT hZ w4) hy B hg hsize (lenOf hpd hlen) hstack hW hd (fun _ _ => ⟨has, e1, hc, hs⟩)
  dsimp only [Pt.U, Pt.locs, Pt.cells, Pt.slots] at X1 l1 y1 z1 st hQ
  subst l1 y1 z1
  exact WGo.st st (r _ _ v ⟨_, X1, rfl, Fr.app N1 hQ.2, n1, hx, hZ, hlk⟩ hQ.1)
theorem w_special (S : WSt p l e R s m args below meth c Z n0 T h k n) {own : String} {index : Nat} {y : MethodName} {bytes : ByteArray} {maxL : Nat} (hyn : y.name = "<init>") (hown : s.vm.findClass own = some m.cls) (w1 : (Jvm.Cond.methodLink own index y).before a0 Z = true) (w2 : (Jvm.Cond.instanceMethod y).before a0 Z = true) (w3 : (Jvm.Cond.initialized y.cls).before a0 Z = true) (w4 : (Jvm.Cond.code y bytes maxL none).before a0 Z = true) (hy : y.cls ≠ "java/lang/invoke/MethodHandle" ∧ y.cls ≠ "java/lang/invoke/VarHandle")
    {rm : Room} {as : Array Value} {Qc : Option Value → Heap → Prop} (C : WCon l Z n0 h y bytes maxL none [] rm as Qc) {W : Nat} (hf : rm.frames + 1 ≤ R.frames) (hl : W + (maxL + 11) + rm.locals ≤ R.locals) (hc : k + rm.cells ≤ R.cells) (hs : n + rm.slots ≤ R.slots)
    {g : JFrame} (hg : g.method = m) (hsize : g.locals.size = c.maxLocals) {argsL rest : List Value} {ps : List FieldType} {rt : Option FieldType} (hpd : parseMethodDescriptor y.desc = some ⟨ps, rt⟩) (hlen : argsL.length = ps.length) (hstack : g.stack = argsL.reverse ++ .ref a :: rest) (has : (Value.ref a :: argsL).toArray = as) (hW : 2 * g.monitorRoom + (rest.map fun v => v.category).sum ≤ W) (hd : decode c.code g.pc = .ok (.invokespecial index, 3))
    (r : ∀ T' h' v, WSt p l e R s m args below meth c Z n0 T' h' (k + rm.cells) (n + rm.slots) → Qc v h' → WGo p e below s n0 Q K N T' { g with pc := g.pc + 3, stack := v.toList ++ rest }) : WGo p e below s n0 Q K N T g := by
  obtain ⟨locs, X, e1, N1, n1, hx, hZ, hlk⟩ := S
  have B := backOf (W := W) (s := s) (args := args) (R := R) (p := p) (e := e) (below := below) (len := 3) (a0 := a0) (Q := fun v h L => Qc v h ∧ Fr n0 L) C hZ w4 w3 hf hl
  obtain ⟨v, vm1, ⟨T1, L1, k1, m1⟩, -, X1, ⟨Lc, hQ, l1, y1, z1⟩, st⟩ := X.specialBack hx (y := y) hyn hown (mvT hZ w1) (mvT hZ w2) (mvT hZ w4) hy B hg hsize (Steps.refl _) (lenOf hpd hlen) hstack hW hd (fun _ _ => ⟨has, e1, hc, hs⟩)
  dsimp only [Pt.U, Pt.locs, Pt.cells, Pt.slots] at X1 l1 y1 z1 st hQ
  subst l1 y1 z1
  exact WGo.st (fun _ q => st.trans q) (r _ _ v ⟨_, X1, rfl, Fr.app N1 hQ.2, n1, hx, hZ, hlk⟩ hQ.1)
theorem w_virtual (S : WSt p l e R s m args below meth c Z n0 T h k n) {own C : String} {index : Nat} {y : MethodName} {bytes : ByteArray} {maxL : Nat} {ret : Option FieldType} (hown : s.vm.findClass own = some m.cls) (w1 : (Jvm.Cond.methodLink own index y).before a0 Z = true) (w2 : (Jvm.Cond.declares y).before a0 Z = true) (w5 : (Jvm.Cond.selects C y y).before a0 Z = true) (w6 : (Jvm.Cond.instanceMethod y).before a0 Z = true) (w3 : (Jvm.Cond.initialized y.cls).before a0 Z = true) (w4 : (Jvm.Cond.code y bytes maxL ret).before a0 Z = true) (hy : y.cls ≠ "java/lang/invoke/MethodHandle" ∧ y.cls ≠ "java/lang/invoke/VarHandle") (E : Exa Z h a C)
    {rm : Room} {as : Array Value} {Qc : Option Value → Heap → Prop} (Cn : WCon l Z n0 h y bytes maxL ret [] rm as Qc) {W : Nat} (hf : rm.frames + 1 ≤ R.frames) (hl : W + (maxL + 11) + rm.locals ≤ R.locals) (hc : k + rm.cells ≤ R.cells) (hs : n + rm.slots ≤ R.slots)
    {g : JFrame} (hg : g.method = m) (hsize : g.locals.size = c.maxLocals) {argsL rest : List Value} {ps : List FieldType} {rt : Option FieldType} (hpd : parseMethodDescriptor y.desc = some ⟨ps, rt⟩) (hlen : argsL.length = ps.length) (hstack : g.stack = argsL.reverse ++ .ref a :: rest) (has : (Value.ref a :: argsL).toArray = as) (hW : 2 * g.monitorRoom + (rest.map fun v => v.category).sum ≤ W) (hd : decode c.code g.pc = .ok (.invokevirtual index, 3))
    (r : ∀ T' h' v, WSt p l e R s m args below meth c Z n0 T' h' (k + rm.cells) (n + rm.slots) → Qc v h' → WGo p e below s n0 Q K N T' { g with pc := g.pc + 3, stack := v.toList ++ rest }) : WGo p e below s n0 Q K N T g := by
  obtain ⟨locs, X, e1, N1, n1, hx, hZ, hlk⟩ := S
  have B := backOf (W := W) (s := s) (args := args) (R := R) (p := p) (e := e) (below := below) (len := 3) (a0 := a0) (Q := fun v h L => Qc v h ∧ Fr n0 L) Cn hZ w4 w3 hf hl
  obtain ⟨cq, kq, qa, qb, qc⟩ := isOf hZ e1 E
  obtain ⟨v, vm1, ⟨T1, L1, k1, m1⟩, -, X1, ⟨Lc, hQ, l1, y1, z1⟩, st⟩ := X.virtualBack hx (y := y) (z := y) hown (mvT hZ w1) (mvT hZ w2) (notFace_of_selects (args := #[]) (mvT hZ w5)) (mvT hZ w5) (mvT hZ w6) hy B qa qc hg hsize (Steps.refl _) (lenOf hpd hlen) hstack hW hd (fun _ _ => ⟨has, e1, hc, hs⟩)
  dsimp only [Pt.U, Pt.locs, Pt.cells, Pt.slots] at X1 l1 y1 z1 st hQ
  subst l1 y1 z1
  exact WGo.st (fun _ q => st.trans q) (r _ _ v ⟨_, X1, rfl, Fr.app N1 hQ.2, n1, hx, hZ, hlk⟩ hQ.1)
theorem w_private (S : WSt p l e R s m args below meth c Z n0 T h k n) {own C : String} {index : Nat} {y z : MethodName} {bytes : ByteArray} {maxL : Nat} {ret : Option FieldType} (hown : s.vm.findClass own = some m.cls) (w1 : (Jvm.Cond.methodLink own index y).before a0 Z = true) (w6 : (Jvm.Cond.instanceMethod y).before a0 Z = true) (w7 : (Jvm.Cond.privateMethod y).before a0 Z = true) (w3 : (Jvm.Cond.initialized y.cls).before a0 Z = true) (w4 : (Jvm.Cond.code y bytes maxL ret).before a0 Z = true) (w5 : (Jvm.Cond.selects z.cls z z).before a0 Z = true) (hzy : z.cls = y.cls) (hy : y.cls ≠ "java/lang/invoke/MethodHandle" ∧ y.cls ≠ "java/lang/invoke/VarHandle") (E : Exa Z h a C)
    {rm : Room} {as : Array Value} {Qc : Option Value → Heap → Prop} (Cn : WCon l Z n0 h y bytes maxL ret [] rm as Qc) {W : Nat} (hf : rm.frames + 1 ≤ R.frames) (hl : W + (maxL + 11) + rm.locals ≤ R.locals) (hc : k + rm.cells ≤ R.cells) (hs : n + rm.slots ≤ R.slots)
    {g : JFrame} (hg : g.method = m) (hsize : g.locals.size = c.maxLocals) {argsL rest : List Value} {ps : List FieldType} {rt : Option FieldType} (hpd : parseMethodDescriptor y.desc = some ⟨ps, rt⟩) (hlen : argsL.length = ps.length) (hstack : g.stack = argsL.reverse ++ .ref a :: rest) (has : (Value.ref a :: argsL).toArray = as) (hW : 2 * g.monitorRoom + (rest.map fun v => v.category).sum ≤ W) (hd : decode c.code g.pc = .ok (.invokevirtual index, 3))
    (r : ∀ T' h' v, WSt p l e R s m args below meth c Z n0 T' h' (k + rm.cells) (n + rm.slots) → Qc v h' → WGo p e below s n0 Q K N T' { g with pc := g.pc + 3, stack := v.toList ++ rest }) : WGo p e below s n0 Q K N T g := by
  obtain ⟨locs, X, e1, N1, n1, hx, hZ, hlk⟩ := S
  have B := backOf (W := W) (s := s) (args := args) (R := R) (p := p) (e := e) (below := below) (len := 3) (a0 := a0) (Q := fun v h L => Qc v h ∧ Fr n0 L) Cn hZ w4 w3 hf hl
  have hpriv := Cond.privateMethod_at (mvP hZ w7 (args := #[]))
  have hsel : (Jvm.Cond.selects y.cls y y).before args s = true := by
    have q5 : (Jvm.Cond.selects z.cls z z).before args s = true := mvT hZ w5
    obtain ⟨c2, r2, m2, -, -, q3, -, kP, hkP, hkPi⟩ := Cond.selects_spec q5
    have hfc := findClass_of_methodNamed q3
    rw [hzy] at hfc
    exact selects_self_of_private hfc hkP hkPi hpriv (mvT hZ w6) hy
  obtain ⟨cq, q1, q2⟩ := E.cell
  obtain ⟨v, vm1, ⟨T1, L1, k1, m1⟩, -, X1, ⟨Lc, hQ, l1, y1, z1⟩, st⟩ := X.privateBack hx (y := y) hown (mvT hZ w1) (mvT hZ w6) hsel hpriv (mvT hZ w4) hy B hg hsize (Steps.refl _) (a := a) (by rw [e1]; exact q1) q2 (lenOf hpd hlen) hstack hW hd (fun _ _ => ⟨has, e1, hc, hs⟩)
  dsimp only [Pt.U, Pt.locs, Pt.cells, Pt.slots] at X1 l1 y1 z1 st hQ
  subst l1 y1 z1
  exact WGo.st (fun _ q => st.trans q) (r _ _ v ⟨_, X1, rfl, Fr.app N1 hQ.2, n1, hx, hZ, hlk⟩ hQ.1)
/-- objects -/
theorem w_objinit (S : WSt p l e R s m args below meth c Z n0 T h k n) {own : String} {idx : Nat} (hown : s.vm.findClass own = some m.cls) (w1 : (Jvm.Cond.methodLink own idx Lib.objectInit).before a0 Z = true) (w2 : (Jvm.Cond.instanceMethod Lib.objectInit).before a0 Z = true) (w3 : (Jvm.Cond.code Lib.objectInit ⟨#[0xb1]⟩ 1 none).before a0 Z = true)
    {g : JFrame} (hg : g.method = m) (hsize : g.locals.size = c.maxLocals) {rest : List Value} (hs : g.stack = .ref a :: rest) (hd : decode c.code g.pc = .ok (.invokespecial idx, 3)) (hf : 1 ≤ R.frames) {W : Nat} (hW : 2 * g.monitorRoom + (rest.map fun v => v.category).sum ≤ W) (hl : W + 12 ≤ R.locals)
    (r : ∀ T', WSt p l e R s m args below meth c Z n0 T' h k n → WGo p e below s n0 Q K N T' { g with pc := g.pc + 3, stack := rest }) : WGo p e below s n0 Q K N T g := by
  obtain ⟨locs, X, e1, N1, n1, hx, hZ, hlk⟩ := S
  obtain ⟨T', X', e', st⟩ := initO X hx hZ hown w1 w2 w3 e1 hg hsize hs hd hf hW hl
  exact WGo.st st (r T' ⟨locs, X', e', N1, n1, hx, hZ, hlk⟩)
theorem w_new (S : WSt p l e R s m args below meth c Z n0 T h k n) {own C : String} {index nn : Nat} (hown : s.vm.findClass own = some m.cls) (w : (Jvm.Cond.classLink own index C).before a0 Z = true) (wi : (Jvm.Cond.instantiable C nn).before a0 Z = true) (wz : (Jvm.Cond.initialized C).before a0 Z = true)
    {g : JFrame} (hg : g.method = m) (hd : decode c.code g.pc = .ok (.new index, 3)) (hc : k + 1 ≤ R.cells) (hl : n + nn ≤ R.slots)
    (r : ∀ T' h' a', WSt p l e R s m args below meth c Z n0 T' h' (k + 1) (n + nn) → Keep h h' [] → a' = h.size → n0 ≤ a' → Exa Z h' a' C → (∀ {O nm d : String} {ty : FieldType}, Laid Z a0 C O nm d → parseFieldDescriptor d = some ty → Fld Z h' a' O nm d (defaultValue ty)) → WGo p e below s n0 Q K N T' { g with pc := g.pc + 3, stack := .ref a' :: g.stack }) : WGo p e below s n0 Q K N T g := by
  have hge := S.ge
  obtain ⟨locs, X, e1, N1, n1, hx, hZ, hlk⟩ := S
  obtain ⟨T', h', X', e', E', A', D', -, st⟩ := newO X hx hZ hown w wi wz e1 hg hd hc hl
  exact WGo.st st (r T' h' _ ⟨locs, X', e', N1, n1, hx, hZ, hlk⟩ (keep_ext E' _) rfl hge A' D')
theorem w_getfield (S : WSt p l e R s m args below meth c Z n0 T h k n) {own R0 O f d : String} {index : Nat} (hown : s.vm.findClass own = some m.cls) (w : (Jvm.Cond.fieldLink own index R0 f d).before a0 Z = true) (via : Via Z R0 O f d) {v : Value} (F : Fld Z h a O f d v) {g : JFrame} (hg : g.method = m) {rest : List Value} (hs : g.stack = .ref a :: rest) (hd : decode c.code g.pc = .ok (.getfield index, 3))
    (r : ∀ T', WSt p l e R s m args below meth c Z n0 T' h k n → WGo p e below s n0 Q K N T' { g with pc := g.pc + 3, stack := v :: rest }) : WGo p e below s n0 Q K N T g := by
  obtain ⟨locs, X, e1, N1, n1, hx, hZ, hlk⟩ := S
  obtain ⟨T', X', e', st⟩ := getF X hx hZ hown (host := "") (Or.inl w) via e1 F hg hs hd
  exact WGo.st st (r T' ⟨locs, X', e', N1, n1, hx, hZ, hlk⟩)
theorem w_putfield (S : WSt p l e R s m args below meth c Z n0 T h k n) {own R0 O f d C : String} {index kk : Nat} {ty : FieldType} (hown : s.vm.findClass own = some m.cls) (w : (Jvm.Cond.fieldLink own index R0 f d).before a0 Z = true) (via : Via Z R0 O f d) {v old : Value} (F : Fld Z h a O f d old) (E : Exa Z h a C)
    (L : (Jvm.Cond.lays C O f d).before a0 Z = true ∨ ((Jvm.Cond.laysFinal C O f d).before a0 Z = true ∧ own = O ∧ meth.name = "<init>")) (wi : (Jvm.Cond.instantiable C kk).before a0 Z = true) (ga : n0 ≤ a)
    (hty : parseFieldDescriptor d = some ty) (hn : narrow ty v = v) (hf : fits ty v = true) {g : JFrame} (hg : g.method = m) {rest : List Value} (hs : g.stack = v :: .ref a :: rest) (hd : decode c.code g.pc = .ok (.putfield index, 3))
    (r : ∀ T' h', WSt p l e R s m args below meth c Z n0 T' h' k n → Wr h h' a (Jvm.RoadKit.slotOf Z O f d) v → Keep h h' [a] → WGo p e below s n0 Q K N T' { g with pc := g.pc + 3, stack := rest }) : WGo p e below s n0 Q K N T g := by
  obtain ⟨locs, X, e1, N1, n1, hx, hZ, hlk⟩ := S
  obtain ⟨T', h', X', e', W', st⟩ := putF X hx hZ hown (host := "") (Or.inl w) via e1 F E L wi hty hn hf hg hs hd
  exact WGo.st st (r T' h' ⟨_, X', e', Fr.snoc X' N1 ga, n1, hx, hZ, hlk⟩ W' (Keep.of_wr W'))
theorem w_getstatic (S : WSt p l e R s m args below meth c Z n0 T h k n) {own R0 O f d : String} {index : Nat} (hown : s.vm.findClass own = some m.cls) (w : (Jvm.Cond.fieldLink own index R0 f d).before a0 Z = true) (via : Via Z R0 O f d) {v : Value} (F : Sta Z h O f d v) {g : JFrame} (hg : g.method = m) (hd : decode c.code g.pc = .ok (.getstatic index, 3))
    (r : ∀ T', WSt p l e R s m args below meth c Z n0 T' h k n → WGo p e below s n0 Q K N T' { g with pc := g.pc + 3, stack := v :: g.stack }) : WGo p e below s n0 Q K N T g := by
  obtain ⟨locs, X, e1, N1, n1, hx, hZ, hlk⟩ := S
  obtain ⟨T', X', e', st⟩ := getS X hx hZ hown (host := "") w via e1 F hg hd
  exact WGo.st st (r T' ⟨locs, X', e', N1, n1, hx, hZ, hlk⟩)
/-- comparisons of longs -/
theorem cl_lt {x y : Int64} (q : x < y) : lcmpW x y = -1 := Int32.toInt_inj.mp ((c_lcmp x y).1 (Int64.lt_iff_toInt_lt.mp q))
theorem cl_eq {x y : Int64} (q : x = y) : lcmpW x y = 0 := Int32.toInt_inj.mp ((c_lcmp x y).2.1 (by rw [q]))
theorem cl_gt {x y : Int64} (q : y < x) : lcmpW x y = 1 := Int32.toInt_inj.mp ((c_lcmp x y).2.2 (Int64.lt_iff_toInt_lt.mp q))
theorem cl_tri (x y : Int64) : x < y ∨ x = y ∨ y < x := by
  simp only [Int64.lt_iff_toInt_lt]
  rcases Int.lt_trichotomy x.toInt y.toInt with q | q | q
  · exact Or.inl q
  · exact Or.inr (Or.inl (Int64.toInt_inj.mp q))
  · exact Or.inr (Or.inr q)
theorem tltJ {x y : Int64} (q : x < y) : ifCond.holds .lt (lcmpW x y) = true ∧ ifCond.holds .ge (lcmpW x y) = false := by rw [cl_lt q]; decide
theorem fltJ {x y : Int64} (q : ¬ x < y) : ifCond.holds .lt (lcmpW x y) = false ∧ ifCond.holds .ge (lcmpW x y) = true := by
  rcases cl_tri x y with r | r | r
  · exact absurd r q
  · rw [cl_eq r]; decide
  · rw [cl_gt r]; decide
theorem tgtJ {x y : Int64} (q : y < x) : ifCond.holds .gt (lcmpW x y) = true ∧ ifCond.holds .le (lcmpW x y) = false := by rw [cl_gt q]; decide
theorem fgtJ {x y : Int64} (q : ¬ y < x) : ifCond.holds .gt (lcmpW x y) = false ∧ ifCond.holds .le (lcmpW x y) = true := by
  rcases cl_tri x y with r | r | r
  · rw [cl_lt r]; decide
  · rw [cl_eq r]; decide
  · exact absurd r q
theorem teqJ {x y : Int64} (q : x = y) : ifCond.holds .eq (lcmpW x y) = true ∧ ifCond.holds .ne (lcmpW x y) = false := by rw [cl_eq q]; decide
theorem feqJ {x y : Int64} (q : ¬ x = y) : ifCond.holds .eq (lcmpW x y) = false ∧ ifCond.holds .ne (lcmpW x y) = true := by
  rcases cl_tri x y with r | r | r
  · rw [cl_lt r]; decide
  · exact absurd r q
  · rw [cl_gt r]; decide
theorem w_dupX2 {tb : Tables} [Ours tb] {target : State} {g : JFrame} (h : At T m c below) (hx : tb.exec = Jvm.exec) (hg : g.method = m) {x y z : Value} {rest : List Value} (hd : decode c.code g.pc = .ok (.dup_x2, 1)) (hs : g.stack = x :: y :: z :: rest) (hc : x.category = 1) (hc1 : y.category = 1) (hc2 : z.category = 1)
    (hr : Steps tb e below (T.setTop { g with pc := g.pc + 1, stack := x :: y :: z :: x :: rest }) target) : Steps tb e below (T.setTop g) target := by
  subst hg
  jvm_step h [h.top, hx, hd, hs, hc, hc1, hc2]
  exact hr
end Core
def failF (a e d : Addr) : Int32 := if a = e then 1 else if a = d then 1 else 0
theorem d_prog_57_method_4_code_0 : decode prog_57_method_4_code 0 = .ok (.aload_n 0, 1) := by decide +kernel
theorem d_prog_57_method_4_code_1 : decode prog_57_method_4_code 1 = .ok (.getstatic 3, 3) := by decide +kernel
theorem d_prog_57_method_4_code_4 : decode prog_57_method_4_code 4 = .ok (.if_acmp .eq 10, 3) := by decide +kernel
theorem d_prog_57_method_4_code_7 : decode prog_57_method_4_code 7 = .ok (.aload_n 0, 1) := by decide +kernel
theorem d_prog_57_method_4_code_8 : decode prog_57_method_4_code 8 = .ok (.getstatic 7, 3) := by decide +kernel
theorem d_prog_57_method_4_code_11 : decode prog_57_method_4_code 11 = .ok (.if_acmp .ne 7, 3) := by decide +kernel
theorem d_prog_57_method_4_code_14 : decode prog_57_method_4_code 14 = .ok (.iconst 1, 1) := by decide +kernel
theorem d_prog_57_method_4_code_15 : decode prog_57_method_4_code 15 = .ok (.goto 4, 3) := by decide +kernel
theorem d_prog_57_method_4_code_18 : decode prog_57_method_4_code 18 = .ok (.iconst 0, 1) := by decide +kernel
theorem d_prog_57_method_4_code_19 : decode prog_57_method_4_code 19 = .ok (.ireturn, 1) := by decide +kernel
def QF (Z : State) (n0 : Nat) (h0 : Heap) (a1 : Addr) (aE : Addr) (aD : Addr) (v : Option Value) (h : Heap) : Prop := v = some (.int (failF a1 aE aD)) ∧ h = h0
theorem ef_F (m : MethodId) (a1 : Addr) : entryFrame m #[(.ref a1)] 1 = mkF m 0 #[.val (.ref a1)] [] := by first | (simp [entryFrame, mkF, argsToLocals, Value.category, maxLocals]; done) | rfl
set_option maxRecDepth 65536 in
set_option maxHeartbeats 40000000 in
theorem rm_F (l : Launch) (Z : State) (a0 : Array Value) (hw : ∀ d ∈ tables_1, d.before a0 Z = true) (n0 : Nat) (h0 : Heap) (a1 : Addr) (aE : Addr) (aD : Addr) (Z0 : n0 ≤ h0.size) (SE : Sta Z h0 "com/example/assay_shapes/assayshapes/Severity" "ERROR" "Lcom/example/assay_shapes/assayshapes/Severity;" (.ref aE)) (SD : Sta Z h0 "com/example/assay_shapes/assayshapes/Severity" "DANGER" "Lcom/example/assay_shapes/assayshapes/Severity;" (.ref aD)) :
    WCon l Z n0 h0 (⟨"com/example/assay_shapes/assayshapes/Severity", "failsValidation", "()Z"⟩ : MethodName) prog_57_method_4_code 1 (some .boolean) [] ({ frames := 0, cells := 0, slots := 0, locals := 0 } : Room) #[(.ref a1)] (QF Z n0 h0 a1 aE aD) := by
  refine WCon.of (by first | exact plainFor_of_name (by decide +kernel) | decide +kernel) Z0 ?_
  intro p e s m below meth c T hx hZ hby hml hown hnm hret S
  refine WGo.cast (ef_F m a1) ?_
  show WGo _ _ _ _ _ _ _ _ T (mkF m 0 #[.val (.ref a1)] [])
  refine WGo.st (fun _ q => XS.aloadN S.here hx rfl (hb hby d_prog_57_method_4_code_0) rfl rfl q) ?_
  show WGo _ _ _ _ _ _ _ _ T (mkF m 1 #[.val (.ref a1)] [(.ref a1)])
  refine w_getstatic S hown (hw _ (List.mem_of_getElem? (i := 8) rfl)) Via.refl SE rfl (hb hby d_prog_57_method_4_code_1) ?_
  intro T1 S2
  show WGo _ _ _ _ _ _ _ _ T1 (mkF m 4 #[.val (.ref a1)] [(.ref aE), (.ref a1)])
  by_cases c4 : a1 = aE
  · refine WGo.st (fun _ q => XS.acmpYes S2.here hx rfl (pc0 := 4) (pc' := 14) rfl (hb hby d_prog_57_method_4_code_4) rfl (by simp [if_acmp.holds, c4]) (by decide) (by decide) q) ?_
    show WGo _ _ _ _ _ _ _ _ T1 (mkF m 14 #[.val (.ref a1)] [])
    refine WGo.st (fun _ q => XS.iconst S2.here hx rfl (hb hby d_prog_57_method_4_code_14) q) ?_
    show WGo _ _ _ _ _ _ _ _ T1 (mkF m 15 #[.val (.ref a1)] [(.int (1 : Int32))])
    refine WGo.st (fun _ q => XS.goto S2.here hx rfl (pc0 := 15) (pc' := 19) rfl (hb hby d_prog_57_method_4_code_15) (by decide) (by decide) q) ?_
    show WGo _ _ _ _ _ _ _ _ T1 (mkF m 19 #[.val (.ref a1)] [(.int (1 : Int32))])
    refine w_retZ S2 hret (hb hby d_prog_57_method_4_code_19) (by decide) (by decide) (by decide) ?_
    exact ⟨by simp [failF, *], rfl⟩
  · refine WGo.st (fun _ q => XS.acmpNo S2.here hx rfl (hb hby d_prog_57_method_4_code_4) rfl (by simp [if_acmp.holds, c4]) q) ?_
    show WGo _ _ _ _ _ _ _ _ T1 (mkF m 7 #[.val (.ref a1)] [])
    refine WGo.st (fun _ q => XS.aloadN S2.here hx rfl (hb hby d_prog_57_method_4_code_7) rfl rfl q) ?_
    show WGo _ _ _ _ _ _ _ _ T1 (mkF m 8 #[.val (.ref a1)] [(.ref a1)])
    refine w_getstatic S2 hown (hw _ (List.mem_of_getElem? (i := 11) rfl)) Via.refl SD rfl (hb hby d_prog_57_method_4_code_8) ?_
    intro T3 S4
    show WGo _ _ _ _ _ _ _ _ T3 (mkF m 11 #[.val (.ref a1)] [(.ref aD), (.ref a1)])
    by_cases c11 : a1 = aD
    · refine WGo.st (fun _ q => XS.acmpNo S4.here hx rfl (hb hby d_prog_57_method_4_code_11) rfl (by simp [if_acmp.holds, c11]) q) ?_
      show WGo _ _ _ _ _ _ _ _ T3 (mkF m 14 #[.val (.ref a1)] [])
      refine WGo.st (fun _ q => XS.iconst S4.here hx rfl (hb hby d_prog_57_method_4_code_14) q) ?_
      show WGo _ _ _ _ _ _ _ _ T3 (mkF m 15 #[.val (.ref a1)] [(.int (1 : Int32))])
      refine WGo.st (fun _ q => XS.goto S4.here hx rfl (pc0 := 15) (pc' := 19) rfl (hb hby d_prog_57_method_4_code_15) (by decide) (by decide) q) ?_
      show WGo _ _ _ _ _ _ _ _ T3 (mkF m 19 #[.val (.ref a1)] [(.int (1 : Int32))])
      refine w_retZ S4 hret (hb hby d_prog_57_method_4_code_19) (by decide) (by decide) (by decide) ?_
      exact ⟨by simp [failF, *], rfl⟩
    · refine WGo.st (fun _ q => XS.acmpYes S4.here hx rfl (pc0 := 11) (pc' := 18) rfl (hb hby d_prog_57_method_4_code_11) rfl (by simp [if_acmp.holds, c11]) (by decide) (by decide) q) ?_
      show WGo _ _ _ _ _ _ _ _ T3 (mkF m 18 #[.val (.ref a1)] [])
      refine WGo.st (fun _ q => XS.iconst S4.here hx rfl (hb hby d_prog_57_method_4_code_18) q) ?_
      show WGo _ _ _ _ _ _ _ _ T3 (mkF m 19 #[.val (.ref a1)] [(.int (0 : Int32))])
      refine w_retZ S4 hret (hb hby d_prog_57_method_4_code_19) (by decide) (by decide) (by decide) ?_
      exact ⟨by simp [failF, *], rfl⟩
def Q0 (Z : State) (n0 : Nat) (h0 : Heap) (p1 : Int32) (aE : Addr) (aD : Addr) (aW : Addr) (aN : Addr) (v : Option Value) (h : Heap) : Prop := v = some (.int 1)
theorem ef_0 (m : MethodId) (p1 : Int32) : entryFrame m #[(.int p1)] maxLocals = mkF m 0 #[.val (.int p1), .unset, .unset, .unset] [] := by first | (simp [entryFrame, mkF, argsToLocals, Value.category, maxLocals]; done) | rfl
set_option maxRecDepth 65536 in
set_option maxHeartbeats 40000000 in
theorem rm_0 (l : Launch) (Z : State) (a0 : Array Value) (hw : ∀ d ∈ tables_1, d.before a0 Z = true) (n0 : Nat) (h0 : Heap) (p1 : Int32) (aE : Addr) (aD : Addr) (aW : Addr) (aN : Addr) (Z0 : n0 ≤ h0.size) (SE : Sta Z h0 "com/example/assay_shapes/assayshapes/Severity" "ERROR" "Lcom/example/assay_shapes/assayshapes/Severity;" (.ref aE)) (SD : Sta Z h0 "com/example/assay_shapes/assayshapes/Severity" "DANGER" "Lcom/example/assay_shapes/assayshapes/Severity;" (.ref aD)) (SW : Sta Z h0 "com/example/assay_shapes/assayshapes/Severity" "WARNING" "Lcom/example/assay_shapes/assayshapes/Severity;" (.ref aW)) (SN : Sta Z h0 "com/example/assay_shapes/assayshapes/Severity" "NOTE" "Lcom/example/assay_shapes/assayshapes/Severity;" (.ref aN)) (E_aE : Exa Z h0 aE "com/example/assay_shapes/assayshapes/Severity") (E_aD : Exa Z h0 aD "com/example/assay_shapes/assayshapes/Severity") (E_aW : Exa Z h0 aW "com/example/assay_shapes/assayshapes/Severity") (E_aN : Exa Z h0 aN "com/example/assay_shapes/assayshapes/Severity") (nWE : ¬ aW = aE) (nWD : ¬ aW = aD) (nNE : ¬ aN = aE) (nND : ¬ aN = aD) :
    WCon l Z n0 h0 x code maxLocals ret tables_1 room_1 #[(.int p1)] (Q0 Z n0 h0 p1 aE aD aW aN) := by
  refine WCon.of (by first | exact plainFor_of_name (by decide +kernel) | decide +kernel) Z0 ?_
  intro p e s m below meth c T hx hZ hby hml hown hnm hret S
  refine WGo.cast (ef_0 m p1) ?_
  show WGo _ _ _ _ _ _ _ _ T (mkF m 0 #[.val (.int p1), .unset, .unset, .unset] [])
  refine WGo.st (fun _ q => XS.iloadN S.here hx rfl (hb hby at_0) rfl q) ?_
  show WGo _ _ _ _ _ _ _ _ T (mkF m 1 #[.val (.int p1), .unset, .unset, .unset] [(.int p1)])
  refine WGo.st (fun _ q => XS.iconst S.here hx rfl (hb hby at_1) q) ?_
  show WGo _ _ _ _ _ _ _ _ T (mkF m 2 #[.val (.int p1), .unset, .unset, .unset] [(.int (3 : Int32)), (.int p1)])
  refine WGo.st (fun _ q => XS.iand S.here hx rfl (hb hby at_2) rfl q) ?_
  show WGo _ _ _ _ _ _ _ _ T (mkF m 3 #[.val (.int p1), .unset, .unset, .unset] [(.int (p1 &&& (3 : Int32)))])
  refine WGo.st (fun _ q => XS.istoreN S.here hx rfl (hb hby at_3) rfl (l' := #[.val (.int p1), .val (.int (p1 &&& (3 : Int32))), .unset, .unset]) rfl q) ?_
  show WGo _ _ _ _ _ _ _ _ T (mkF m 4 #[.val (.int p1), .val (.int (p1 &&& (3 : Int32))), .unset, .unset] [])
  generalize hv3 : (p1 &&& (3 : Int32)) = v3
  show WGo _ _ _ _ _ _ _ _ T (mkF m 4 #[.val (.int p1), .val (.int v3), .unset, .unset] [])
  refine WGo.st (fun _ q => XS.iloadN S.here hx rfl (hb hby at_4) rfl q) ?_
  show WGo _ _ _ _ _ _ _ _ T (mkF m 5 #[.val (.int p1), .val (.int v3), .unset, .unset] [(.int v3)])
  by_cases c5 : v3 = (0 : Int32)
  · refine WGo.st (fun _ q => XS.ifNo S.here hx rfl (hb hby at_5) rfl ((if0 _ _).trans (teq c5).2) q) ?_
    show WGo _ _ _ _ _ _ _ _ T (mkF m 8 #[.val (.int p1), .val (.int v3), .unset, .unset] [])
    refine w_getstatic S hown (hw _ (List.mem_of_getElem? (i := 0) rfl)) Via.refl SE rfl (hb hby at_8) ?_
    intro T1 S2
    show WGo _ _ _ _ _ _ _ _ T1 (mkF m 11 #[.val (.int p1), .val (.int v3), .unset, .unset] [(.ref aE)])
    refine WGo.st (fun _ q => XS.astoreN S2.here hx rfl (hb hby at_11) rfl rfl (l' := #[.val (.int p1), .val (.int v3), .val (.ref aE), .unset]) rfl q) ?_
    show WGo _ _ _ _ _ _ _ _ T1 (mkF m 12 #[.val (.int p1), .val (.int v3), .val (.ref aE), .unset] [])
    refine WGo.st (fun _ q => XS.goto S2.here hx rfl (pc0 := 12) (pc' := 43) rfl (hb hby at_12) (by decide) (by decide) q) ?_
    show WGo _ _ _ _ _ _ _ _ T1 (mkF m 43 #[.val (.int p1), .val (.int v3), .val (.ref aE), .unset] [])
    refine WGo.st (fun _ q => XS.iloadN S2.here hx rfl (hb hby at_43) rfl q) ?_
    show WGo _ _ _ _ _ _ _ _ T1 (mkF m 44 #[.val (.int p1), .val (.int v3), .val (.ref aE), .unset] [(.int v3)])
    refine WGo.st (fun _ q => XS.iconst S2.here hx rfl (hb hby at_44) q) ?_
    show WGo _ _ _ _ _ _ _ _ T1 (mkF m 45 #[.val (.int p1), .val (.int v3), .val (.ref aE), .unset] [(.int (2 : Int32)), (.int v3)])
    refine WGo.st (fun _ q => XS.icmpNo S2.here hx rfl (hb hby at_45) rfl (tlt (by rw [c5]; decide)).2.1 q) ?_
    show WGo _ _ _ _ _ _ _ _ T1 (mkF m 48 #[.val (.int p1), .val (.int v3), .val (.ref aE), .unset] [])
    refine WGo.st (fun _ q => XS.iconst S2.here hx rfl (hb hby at_48) q) ?_
    show WGo _ _ _ _ _ _ _ _ T1 (mkF m 49 #[.val (.int p1), .val (.int v3), .val (.ref aE), .unset] [(.int (1 : Int32))])
    refine WGo.st (fun _ q => XS.goto S2.here hx rfl (pc0 := 49) (pc' := 53) rfl (hb hby at_49) (by decide) (by decide) q) ?_
    show WGo _ _ _ _ _ _ _ _ T1 (mkF m 53 #[.val (.int p1), .val (.int v3), .val (.ref aE), .unset] [(.int (1 : Int32))])
    refine WGo.st (fun _ q => XS.istoreN S2.here hx rfl (hb hby at_53) rfl (l' := #[.val (.int p1), .val (.int v3), .val (.ref aE), .val (.int (1 : Int32))]) rfl q) ?_
    show WGo _ _ _ _ _ _ _ _ T1 (mkF m 54 #[.val (.int p1), .val (.int v3), .val (.ref aE), .val (.int (1 : Int32))] [])
    refine WGo.st (fun _ q => XS.aloadN S2.here hx rfl (hb hby at_54) rfl rfl q) ?_
    show WGo _ _ _ _ _ _ _ _ T1 (mkF m 55 #[.val (.int p1), .val (.int v3), .val (.ref aE), .val (.int (1 : Int32))] [(.ref aE)])
    refine w_virtual S2 (y := (⟨"com/example/assay_shapes/assayshapes/Severity", "failsValidation", "()Z"⟩ : MethodName)) hown (hw _ (List.mem_of_getElem? (i := 3) rfl)) (hw _ (List.mem_of_getElem? (i := 4) rfl)) (hw _ (List.mem_of_getElem? (i := 6) rfl)) (hw _ (List.mem_of_getElem? (i := 5) rfl)) (hw _ (List.mem_of_getElem? (i := 1) rfl)) (hw _ (List.mem_of_getElem? (i := 7) rfl)) (by decide) E_aE (rm_F l Z a0 hw n0 h0 aE aE aD S2.ge SE SD) (W := 0) (by decide) (by decide) (by decide) (by decide) rfl (by rw [hml]; rfl) (argsL := []) (rest := []) (ps := []) (rt := (some .boolean)) (by decide) rfl rfl rfl (by show 2 * 0 + _ ≤ _; exact Nat.le_of_eq rfl) (hb hby at_55) ?_
    intro T3 h5 w6 S4 q7
    obtain ⟨q7a, q7b⟩ := q7
    subst q7a
    replace q7b := Eq.symm q7b
    subst q7b
    show WGo _ _ _ _ _ _ _ _ T3 (mkF m 58 #[.val (.int p1), .val (.int v3), .val (.ref aE), .val (.int (1 : Int32))] [(.int (failF aE aE aD))])
    refine WGo.st (fun _ q => XS.iloadN S4.here hx rfl (hb hby at_58) rfl q) ?_
    show WGo _ _ _ _ _ _ _ _ T3 (mkF m 59 #[.val (.int p1), .val (.int v3), .val (.ref aE), .val (.int (1 : Int32))] [(.int (1 : Int32)), (.int (failF aE aE aD))])
    refine WGo.st (fun _ q => XS.icmpNo S4.here hx rfl (hb hby at_59) rfl (teq (by simp [failF, nWE, nWD, nNE, nND])).2 q) ?_
    show WGo _ _ _ _ _ _ _ _ T3 (mkF m 62 #[.val (.int p1), .val (.int v3), .val (.ref aE), .val (.int (1 : Int32))] [])
    refine WGo.st (fun _ q => XS.iconst S4.here hx rfl (hb hby at_62) q) ?_
    show WGo _ _ _ _ _ _ _ _ T3 (mkF m 63 #[.val (.int p1), .val (.int v3), .val (.ref aE), .val (.int (1 : Int32))] [(.int (1 : Int32))])
    refine WGo.st (fun _ q => XS.goto S4.here hx rfl (pc0 := 63) (pc' := 67) rfl (hb hby at_63) (by decide) (by decide) q) ?_
    show WGo _ _ _ _ _ _ _ _ T3 (mkF m 67 #[.val (.int p1), .val (.int v3), .val (.ref aE), .val (.int (1 : Int32))] [(.int (1 : Int32))])
    refine w_retZ S4 hret (hb hby at_67) (by decide) (by decide) (by decide) ?_
    exact rfl
  · refine WGo.st (fun _ q => XS.ifYes S.here hx rfl (pc0 := 5) (pc' := 15) rfl (hb hby at_5) rfl ((if0 _ _).trans (feq c5).2) (by decide) (by decide) q) ?_
    show WGo _ _ _ _ _ _ _ _ T (mkF m 15 #[.val (.int p1), .val (.int v3), .unset, .unset] [])
    refine WGo.st (fun _ q => XS.iloadN S.here hx rfl (hb hby at_15) rfl q) ?_
    show WGo _ _ _ _ _ _ _ _ T (mkF m 16 #[.val (.int p1), .val (.int v3), .unset, .unset] [(.int v3)])
    refine WGo.st (fun _ q => XS.iconst S.here hx rfl (hb hby at_16) q) ?_
    show WGo _ _ _ _ _ _ _ _ T (mkF m 17 #[.val (.int p1), .val (.int v3), .unset, .unset] [(.int (1 : Int32)), (.int v3)])
    by_cases c17 : v3 = (1 : Int32)
    · refine WGo.st (fun _ q => XS.icmpNo S.here hx rfl (hb hby at_17) rfl (teq c17).2 q) ?_
      show WGo _ _ _ _ _ _ _ _ T (mkF m 20 #[.val (.int p1), .val (.int v3), .unset, .unset] [])
      refine w_getstatic S hown (hw _ (List.mem_of_getElem? (i := 15) rfl)) Via.refl SD rfl (hb hby at_20) ?_
      intro T8 S9
      show WGo _ _ _ _ _ _ _ _ T8 (mkF m 23 #[.val (.int p1), .val (.int v3), .unset, .unset] [(.ref aD)])
      refine WGo.st (fun _ q => XS.astoreN S9.here hx rfl (hb hby at_23) rfl rfl (l' := #[.val (.int p1), .val (.int v3), .val (.ref aD), .unset]) rfl q) ?_
      show WGo _ _ _ _ _ _ _ _ T8 (mkF m 24 #[.val (.int p1), .val (.int v3), .val (.ref aD), .unset] [])
      refine WGo.st (fun _ q => XS.goto S9.here hx rfl (pc0 := 24) (pc' := 43) rfl (hb hby at_24) (by decide) (by decide) q) ?_
      show WGo _ _ _ _ _ _ _ _ T8 (mkF m 43 #[.val (.int p1), .val (.int v3), .val (.ref aD), .unset] [])
      refine WGo.st (fun _ q => XS.iloadN S9.here hx rfl (hb hby at_43) rfl q) ?_
      show WGo _ _ _ _ _ _ _ _ T8 (mkF m 44 #[.val (.int p1), .val (.int v3), .val (.ref aD), .unset] [(.int v3)])
      refine WGo.st (fun _ q => XS.iconst S9.here hx rfl (hb hby at_44) q) ?_
      show WGo _ _ _ _ _ _ _ _ T8 (mkF m 45 #[.val (.int p1), .val (.int v3), .val (.ref aD), .unset] [(.int (2 : Int32)), (.int v3)])
      refine WGo.st (fun _ q => XS.icmpNo S9.here hx rfl (hb hby at_45) rfl (tlt (by rw [c17]; decide)).2.1 q) ?_
      show WGo _ _ _ _ _ _ _ _ T8 (mkF m 48 #[.val (.int p1), .val (.int v3), .val (.ref aD), .unset] [])
      refine WGo.st (fun _ q => XS.iconst S9.here hx rfl (hb hby at_48) q) ?_
      show WGo _ _ _ _ _ _ _ _ T8 (mkF m 49 #[.val (.int p1), .val (.int v3), .val (.ref aD), .unset] [(.int (1 : Int32))])
      refine WGo.st (fun _ q => XS.goto S9.here hx rfl (pc0 := 49) (pc' := 53) rfl (hb hby at_49) (by decide) (by decide) q) ?_
      show WGo _ _ _ _ _ _ _ _ T8 (mkF m 53 #[.val (.int p1), .val (.int v3), .val (.ref aD), .unset] [(.int (1 : Int32))])
      refine WGo.st (fun _ q => XS.istoreN S9.here hx rfl (hb hby at_53) rfl (l' := #[.val (.int p1), .val (.int v3), .val (.ref aD), .val (.int (1 : Int32))]) rfl q) ?_
      show WGo _ _ _ _ _ _ _ _ T8 (mkF m 54 #[.val (.int p1), .val (.int v3), .val (.ref aD), .val (.int (1 : Int32))] [])
      refine WGo.st (fun _ q => XS.aloadN S9.here hx rfl (hb hby at_54) rfl rfl q) ?_
      show WGo _ _ _ _ _ _ _ _ T8 (mkF m 55 #[.val (.int p1), .val (.int v3), .val (.ref aD), .val (.int (1 : Int32))] [(.ref aD)])
      refine w_virtual S9 (y := (⟨"com/example/assay_shapes/assayshapes/Severity", "failsValidation", "()Z"⟩ : MethodName)) hown (hw _ (List.mem_of_getElem? (i := 3) rfl)) (hw _ (List.mem_of_getElem? (i := 4) rfl)) (hw _ (List.mem_of_getElem? (i := 6) rfl)) (hw _ (List.mem_of_getElem? (i := 5) rfl)) (hw _ (List.mem_of_getElem? (i := 1) rfl)) (hw _ (List.mem_of_getElem? (i := 7) rfl)) (by decide) E_aD (rm_F l Z a0 hw n0 h0 aD aE aD S9.ge SE SD) (W := 0) (by decide) (by decide) (by decide) (by decide) rfl (by rw [hml]; rfl) (argsL := []) (rest := []) (ps := []) (rt := (some .boolean)) (by decide) rfl rfl rfl (by show 2 * 0 + _ ≤ _; exact Nat.le_of_eq rfl) (hb hby at_55) ?_
      intro T10 h12 w13 S11 q14
      obtain ⟨q14a, q14b⟩ := q14
      subst q14a
      replace q14b := Eq.symm q14b
      subst q14b
      show WGo _ _ _ _ _ _ _ _ T10 (mkF m 58 #[.val (.int p1), .val (.int v3), .val (.ref aD), .val (.int (1 : Int32))] [(.int (failF aD aE aD))])
      refine WGo.st (fun _ q => XS.iloadN S11.here hx rfl (hb hby at_58) rfl q) ?_
      show WGo _ _ _ _ _ _ _ _ T10 (mkF m 59 #[.val (.int p1), .val (.int v3), .val (.ref aD), .val (.int (1 : Int32))] [(.int (1 : Int32)), (.int (failF aD aE aD))])
      refine WGo.st (fun _ q => XS.icmpNo S11.here hx rfl (hb hby at_59) rfl (teq (by simp [failF, nWE, nWD, nNE, nND])).2 q) ?_
      show WGo _ _ _ _ _ _ _ _ T10 (mkF m 62 #[.val (.int p1), .val (.int v3), .val (.ref aD), .val (.int (1 : Int32))] [])
      refine WGo.st (fun _ q => XS.iconst S11.here hx rfl (hb hby at_62) q) ?_
      show WGo _ _ _ _ _ _ _ _ T10 (mkF m 63 #[.val (.int p1), .val (.int v3), .val (.ref aD), .val (.int (1 : Int32))] [(.int (1 : Int32))])
      refine WGo.st (fun _ q => XS.goto S11.here hx rfl (pc0 := 63) (pc' := 67) rfl (hb hby at_63) (by decide) (by decide) q) ?_
      show WGo _ _ _ _ _ _ _ _ T10 (mkF m 67 #[.val (.int p1), .val (.int v3), .val (.ref aD), .val (.int (1 : Int32))] [(.int (1 : Int32))])
      refine w_retZ S11 hret (hb hby at_67) (by decide) (by decide) (by decide) ?_
      exact rfl
    · refine WGo.st (fun _ q => XS.icmpYes S.here hx rfl (pc0 := 17) (pc' := 27) rfl (hb hby at_17) rfl (feq c17).2 (by decide) (by decide) q) ?_
      show WGo _ _ _ _ _ _ _ _ T (mkF m 27 #[.val (.int p1), .val (.int v3), .unset, .unset] [])
      refine WGo.st (fun _ q => XS.iloadN S.here hx rfl (hb hby at_27) rfl q) ?_
      show WGo _ _ _ _ _ _ _ _ T (mkF m 28 #[.val (.int p1), .val (.int v3), .unset, .unset] [(.int v3)])
      refine WGo.st (fun _ q => XS.iconst S.here hx rfl (hb hby at_28) q) ?_
      show WGo _ _ _ _ _ _ _ _ T (mkF m 29 #[.val (.int p1), .val (.int v3), .unset, .unset] [(.int (2 : Int32)), (.int v3)])
      by_cases c29 : v3 = (2 : Int32)
      · refine WGo.st (fun _ q => XS.icmpNo S.here hx rfl (hb hby at_29) rfl (teq c29).2 q) ?_
        show WGo _ _ _ _ _ _ _ _ T (mkF m 32 #[.val (.int p1), .val (.int v3), .unset, .unset] [])
        refine w_getstatic S hown (hw _ (List.mem_of_getElem? (i := 13) rfl)) Via.refl SW rfl (hb hby at_32) ?_
        intro T15 S16
        show WGo _ _ _ _ _ _ _ _ T15 (mkF m 35 #[.val (.int p1), .val (.int v3), .unset, .unset] [(.ref aW)])
        refine WGo.st (fun _ q => XS.astoreN S16.here hx rfl (hb hby at_35) rfl rfl (l' := #[.val (.int p1), .val (.int v3), .val (.ref aW), .unset]) rfl q) ?_
        show WGo _ _ _ _ _ _ _ _ T15 (mkF m 36 #[.val (.int p1), .val (.int v3), .val (.ref aW), .unset] [])
        refine WGo.st (fun _ q => XS.goto S16.here hx rfl (pc0 := 36) (pc' := 43) rfl (hb hby at_36) (by decide) (by decide) q) ?_
        show WGo _ _ _ _ _ _ _ _ T15 (mkF m 43 #[.val (.int p1), .val (.int v3), .val (.ref aW), .unset] [])
        refine WGo.st (fun _ q => XS.iloadN S16.here hx rfl (hb hby at_43) rfl q) ?_
        show WGo _ _ _ _ _ _ _ _ T15 (mkF m 44 #[.val (.int p1), .val (.int v3), .val (.ref aW), .unset] [(.int v3)])
        refine WGo.st (fun _ q => XS.iconst S16.here hx rfl (hb hby at_44) q) ?_
        show WGo _ _ _ _ _ _ _ _ T15 (mkF m 45 #[.val (.int p1), .val (.int v3), .val (.ref aW), .unset] [(.int (2 : Int32)), (.int v3)])
        refine WGo.st (fun _ q => XS.icmpYes S16.here hx rfl (pc0 := 45) (pc' := 52) rfl (hb hby at_45) rfl (flt (by rw [c29]; decide)).2.1 (by decide) (by decide) q) ?_
        show WGo _ _ _ _ _ _ _ _ T15 (mkF m 52 #[.val (.int p1), .val (.int v3), .val (.ref aW), .unset] [])
        refine WGo.st (fun _ q => XS.iconst S16.here hx rfl (hb hby at_52) q) ?_
        show WGo _ _ _ _ _ _ _ _ T15 (mkF m 53 #[.val (.int p1), .val (.int v3), .val (.ref aW), .unset] [(.int (0 : Int32))])
        refine WGo.st (fun _ q => XS.istoreN S16.here hx rfl (hb hby at_53) rfl (l' := #[.val (.int p1), .val (.int v3), .val (.ref aW), .val (.int (0 : Int32))]) rfl q) ?_
        show WGo _ _ _ _ _ _ _ _ T15 (mkF m 54 #[.val (.int p1), .val (.int v3), .val (.ref aW), .val (.int (0 : Int32))] [])
        refine WGo.st (fun _ q => XS.aloadN S16.here hx rfl (hb hby at_54) rfl rfl q) ?_
        show WGo _ _ _ _ _ _ _ _ T15 (mkF m 55 #[.val (.int p1), .val (.int v3), .val (.ref aW), .val (.int (0 : Int32))] [(.ref aW)])
        refine w_virtual S16 (y := (⟨"com/example/assay_shapes/assayshapes/Severity", "failsValidation", "()Z"⟩ : MethodName)) hown (hw _ (List.mem_of_getElem? (i := 3) rfl)) (hw _ (List.mem_of_getElem? (i := 4) rfl)) (hw _ (List.mem_of_getElem? (i := 6) rfl)) (hw _ (List.mem_of_getElem? (i := 5) rfl)) (hw _ (List.mem_of_getElem? (i := 1) rfl)) (hw _ (List.mem_of_getElem? (i := 7) rfl)) (by decide) E_aW (rm_F l Z a0 hw n0 h0 aW aE aD S16.ge SE SD) (W := 0) (by decide) (by decide) (by decide) (by decide) rfl (by rw [hml]; rfl) (argsL := []) (rest := []) (ps := []) (rt := (some .boolean)) (by decide) rfl rfl rfl (by show 2 * 0 + _ ≤ _; exact Nat.le_of_eq rfl) (hb hby at_55) ?_
        intro T17 h19 w20 S18 q21
        obtain ⟨q21a, q21b⟩ := q21
        subst q21a
        replace q21b := Eq.symm q21b
        subst q21b
        show WGo _ _ _ _ _ _ _ _ T17 (mkF m 58 #[.val (.int p1), .val (.int v3), .val (.ref aW), .val (.int (0 : Int32))] [(.int (failF aW aE aD))])
        refine WGo.st (fun _ q => XS.iloadN S18.here hx rfl (hb hby at_58) rfl q) ?_
        show WGo _ _ _ _ _ _ _ _ T17 (mkF m 59 #[.val (.int p1), .val (.int v3), .val (.ref aW), .val (.int (0 : Int32))] [(.int (0 : Int32)), (.int (failF aW aE aD))])
        refine WGo.st (fun _ q => XS.icmpNo S18.here hx rfl (hb hby at_59) rfl (teq (by simp [failF, nWE, nWD, nNE, nND])).2 q) ?_
        show WGo _ _ _ _ _ _ _ _ T17 (mkF m 62 #[.val (.int p1), .val (.int v3), .val (.ref aW), .val (.int (0 : Int32))] [])
        refine WGo.st (fun _ q => XS.iconst S18.here hx rfl (hb hby at_62) q) ?_
        show WGo _ _ _ _ _ _ _ _ T17 (mkF m 63 #[.val (.int p1), .val (.int v3), .val (.ref aW), .val (.int (0 : Int32))] [(.int (1 : Int32))])
        refine WGo.st (fun _ q => XS.goto S18.here hx rfl (pc0 := 63) (pc' := 67) rfl (hb hby at_63) (by decide) (by decide) q) ?_
        show WGo _ _ _ _ _ _ _ _ T17 (mkF m 67 #[.val (.int p1), .val (.int v3), .val (.ref aW), .val (.int (0 : Int32))] [(.int (1 : Int32))])
        refine w_retZ S18 hret (hb hby at_67) (by decide) (by decide) (by decide) ?_
        exact rfl
      · refine WGo.st (fun _ q => XS.icmpYes S.here hx rfl (pc0 := 29) (pc' := 39) rfl (hb hby at_29) rfl (feq c29).2 (by decide) (by decide) q) ?_
        show WGo _ _ _ _ _ _ _ _ T (mkF m 39 #[.val (.int p1), .val (.int v3), .unset, .unset] [])
        refine w_getstatic S hown (hw _ (List.mem_of_getElem? (i := 9) rfl)) Via.refl SN rfl (hb hby at_39) ?_
        intro T22 S23
        show WGo _ _ _ _ _ _ _ _ T22 (mkF m 42 #[.val (.int p1), .val (.int v3), .unset, .unset] [(.ref aN)])
        refine WGo.st (fun _ q => XS.astoreN S23.here hx rfl (hb hby at_42) rfl rfl (l' := #[.val (.int p1), .val (.int v3), .val (.ref aN), .unset]) rfl q) ?_
        show WGo _ _ _ _ _ _ _ _ T22 (mkF m 43 #[.val (.int p1), .val (.int v3), .val (.ref aN), .unset] [])
        have h45 : ¬ v3 < (2 : Int32) := by
          have q := c_mask p1 3 2 (by decide) (by decide)
          rw [hv3] at q
          simp only [Int32.lt_iff_toInt_lt, ← Int32.toInt_inj, Int32.reduceToInt] at *
          omega
        refine WGo.st (fun _ q => XS.iloadN S23.here hx rfl (hb hby at_43) rfl q) ?_
        show WGo _ _ _ _ _ _ _ _ T22 (mkF m 44 #[.val (.int p1), .val (.int v3), .val (.ref aN), .unset] [(.int v3)])
        refine WGo.st (fun _ q => XS.iconst S23.here hx rfl (hb hby at_44) q) ?_
        show WGo _ _ _ _ _ _ _ _ T22 (mkF m 45 #[.val (.int p1), .val (.int v3), .val (.ref aN), .unset] [(.int (2 : Int32)), (.int v3)])
        refine WGo.st (fun _ q => XS.icmpYes S23.here hx rfl (pc0 := 45) (pc' := 52) rfl (hb hby at_45) rfl (flt h45).2.1 (by decide) (by decide) q) ?_
        show WGo _ _ _ _ _ _ _ _ T22 (mkF m 52 #[.val (.int p1), .val (.int v3), .val (.ref aN), .unset] [])
        refine WGo.st (fun _ q => XS.iconst S23.here hx rfl (hb hby at_52) q) ?_
        show WGo _ _ _ _ _ _ _ _ T22 (mkF m 53 #[.val (.int p1), .val (.int v3), .val (.ref aN), .unset] [(.int (0 : Int32))])
        refine WGo.st (fun _ q => XS.istoreN S23.here hx rfl (hb hby at_53) rfl (l' := #[.val (.int p1), .val (.int v3), .val (.ref aN), .val (.int (0 : Int32))]) rfl q) ?_
        show WGo _ _ _ _ _ _ _ _ T22 (mkF m 54 #[.val (.int p1), .val (.int v3), .val (.ref aN), .val (.int (0 : Int32))] [])
        refine WGo.st (fun _ q => XS.aloadN S23.here hx rfl (hb hby at_54) rfl rfl q) ?_
        show WGo _ _ _ _ _ _ _ _ T22 (mkF m 55 #[.val (.int p1), .val (.int v3), .val (.ref aN), .val (.int (0 : Int32))] [(.ref aN)])
        refine w_virtual S23 (y := (⟨"com/example/assay_shapes/assayshapes/Severity", "failsValidation", "()Z"⟩ : MethodName)) hown (hw _ (List.mem_of_getElem? (i := 3) rfl)) (hw _ (List.mem_of_getElem? (i := 4) rfl)) (hw _ (List.mem_of_getElem? (i := 6) rfl)) (hw _ (List.mem_of_getElem? (i := 5) rfl)) (hw _ (List.mem_of_getElem? (i := 1) rfl)) (hw _ (List.mem_of_getElem? (i := 7) rfl)) (by decide) E_aN (rm_F l Z a0 hw n0 h0 aN aE aD S23.ge SE SD) (W := 0) (by decide) (by decide) (by decide) (by decide) rfl (by rw [hml]; rfl) (argsL := []) (rest := []) (ps := []) (rt := (some .boolean)) (by decide) rfl rfl rfl (by show 2 * 0 + _ ≤ _; exact Nat.le_of_eq rfl) (hb hby at_55) ?_
        intro T24 h26 w27 S25 q28
        obtain ⟨q28a, q28b⟩ := q28
        subst q28a
        replace q28b := Eq.symm q28b
        subst q28b
        show WGo _ _ _ _ _ _ _ _ T24 (mkF m 58 #[.val (.int p1), .val (.int v3), .val (.ref aN), .val (.int (0 : Int32))] [(.int (failF aN aE aD))])
        refine WGo.st (fun _ q => XS.iloadN S25.here hx rfl (hb hby at_58) rfl q) ?_
        show WGo _ _ _ _ _ _ _ _ T24 (mkF m 59 #[.val (.int p1), .val (.int v3), .val (.ref aN), .val (.int (0 : Int32))] [(.int (0 : Int32)), (.int (failF aN aE aD))])
        refine WGo.st (fun _ q => XS.icmpNo S25.here hx rfl (hb hby at_59) rfl (teq (by simp [failF, nWE, nWD, nNE, nND])).2 q) ?_
        show WGo _ _ _ _ _ _ _ _ T24 (mkF m 62 #[.val (.int p1), .val (.int v3), .val (.ref aN), .val (.int (0 : Int32))] [])
        refine WGo.st (fun _ q => XS.iconst S25.here hx rfl (hb hby at_62) q) ?_
        show WGo _ _ _ _ _ _ _ _ T24 (mkF m 63 #[.val (.int p1), .val (.int v3), .val (.ref aN), .val (.int (0 : Int32))] [(.int (1 : Int32))])
        refine WGo.st (fun _ q => XS.goto S25.here hx rfl (pc0 := 63) (pc' := 67) rfl (hb hby at_63) (by decide) (by decide) q) ?_
        show WGo _ _ _ _ _ _ _ _ T24 (mkF m 67 #[.val (.int p1), .val (.int v3), .val (.ref aN), .val (.int (0 : Int32))] [(.int (1 : Int32))])
        refine w_retZ S25 hret (hb hby at_67) (by decide) (by decide) (by decide) ?_
        exact rfl
set_option maxRecDepth 65536 in
set_option maxHeartbeats 40000000 in
theorem comes_1 {Post : Tables → Env → Array Value → State → Outcome → State → Prop} (hpost : ∀ tb e args s v u, (limb_1_1.after args s (.returned v) u = true ∧ limb_1_2.after args s (.returned v) u = true ∧ True) → FrameEnd s (.returned v) u (Jvm.fieldLocs frame_1_writes args s ++ Jvm.arrayLocs frame_1_arrays args s ++ Jvm.staticLocs frame_1_statics s) 0 0 → Post tb e args s (.returned v) u) :
    ArmFor flags0 classFile x code maxLocals ret World_1 tables_1 room_1 Calls_1 rest_1 Pre_1 Post := by
  intro l hfl _ _ p e ha hc hk s m args below hf hA hF happ hP
  obtain ⟨hcalls, hrest, hpre⟩ := hP
  obtain ⟨-, -, -, hnamed, -, -, -, hat⟩ := (Spec.applies_iff hf).mp happ
  obtain ⟨hg, hn⟩ := and_e (Cond.before_iff.mp (show (Jvm.Cond.and given_1 narrow_1).before args s = true from hpre))
  obtain ⟨hcount, hg0⟩ := and_e hg
  obtain ⟨w0, rfl⟩ : ∃ (w0 : Value), args = #[w0] := by
    have hs : args.size = 1 := by simpa [Cond.value, given_1] using hcount
    obtain ⟨L⟩ := args
    match L, hs with
    | [w0], _ => exact ⟨w0, rfl⟩
  have hw := fun d (hd : d ∈ tables_1) => atoms_spec (ws := Jvm.Cond.code x code maxLocals ret :: tables_1) hat d (List.mem_cons_of_mem _ hd)
  obtain ⟨i0, e0⟩ := is_v hg0
  obtain rfl : w0 = (.int i0) := Option.some.inj e0
  obtain ⟨xE_ERROR, hn0⟩ := and_e hn
  obtain ⟨xE_NOTE, hn1⟩ := and_e hn0
  obtain ⟨xO_NOTE, hn2⟩ := and_e hn1
  obtain ⟨xO_ERROR, hn3⟩ := and_e hn2
  obtain ⟨xE_DANGER, hn4⟩ := and_e hn3
  obtain ⟨xO_DANGER, hn5⟩ := and_e hn4
  obtain ⟨xE_WARNING, hn6⟩ := and_e hn5
  have xO_WARNING := hn6
  have hini := hw _ (List.mem_of_getElem? (i := 1) rfl)
  obtain ⟨aE, evaE⟩ := exa_v xE_ERROR
  have E_aE := Exa.start evaE xE_ERROR
  have SE := Sta.start evaE (Or.inr ⟨hini, hw _ (List.mem_of_getElem? (i := 2) rfl)⟩)
  obtain ⟨aD, evaD⟩ := exa_v xE_DANGER
  have E_aD := Exa.start evaD xE_DANGER
  have SD := Sta.start evaD (Or.inr ⟨hini, hw _ (List.mem_of_getElem? (i := 12) rfl)⟩)
  obtain ⟨aW, evaW⟩ := exa_v xE_WARNING
  have E_aW := Exa.start evaW xE_WARNING
  have SW := Sta.start evaW (Or.inr ⟨hini, hw _ (List.mem_of_getElem? (i := 14) rfl)⟩)
  obtain ⟨aN, evaN⟩ := exa_v xE_NOTE
  have E_aN := Exa.start evaN xE_NOTE
  have SN := Sta.start evaN (Or.inr ⟨hini, hw _ (List.mem_of_getElem? (i := 10) rfl)⟩)
  have dist : ∀ {t u : Term} {a b : Addr} {i j : Int32}, t.eval #[.int i0] s none [] s = some (.ref a) → u.eval #[.int i0] s none [] s = some (.ref b) → (Jvm.Cond.eq (Term.field t "java/lang/Enum" "ordinal" "I") (Term.int i)).value #[.int i0] s none s [] = some true → (Jvm.Cond.eq (Term.field u "java/lang/Enum" "ordinal" "I") (Term.int j)).value #[.int i0] s none s [] = some true → i ≠ j → ¬ a = b := by
    intro t u a b i j ht hu h1 h2 hij hab
    subst hab
    have f1 := fld_at (C := "java/lang/Enum") (n := "ordinal") (dd := "I") ht
    have f2 := fld_at (C := "java/lang/Enum") (n := "ordinal") (dd := "I") hu
    have k1 : (Term.int i).eval #[.int i0] s none [] s = some (.int i) := rfl
    have k2 : (Term.int j).eval #[.int i0] s none [] s = some (.int j) := rfl
    simp only [Jvm.Cond.value, f1, k1] at h1
    simp only [Jvm.Cond.value, f2, k2] at h2
    cases hv : s.fieldOf? a "java/lang/Enum" "ordinal" "I" with
    | none => simp [hv] at h1
    | some v => cases v <;> simp [hv] at h1 h2; exact hij (h1.symm.trans h2)
  obtain ⟨n, o, h1, h2, h3, _, L, rfl, ⟨hQ, N⟩, hq⟩ := rm_0 l s _ hw s.heap.size s.heap i0 aE aD aW aN (Nat.le_refl _) SE SD SW SN E_aE E_aD E_aW E_aN (dist evaW evaE xO_WARNING xO_ERROR (by decide)) (dist evaW evaD xO_WARNING xO_DANGER (by decide)) (dist evaN evaE xO_NOTE xO_ERROR (by decide)) (dist evaN evaD xO_NOTE xO_DANGER (by decide)) p e ha hc hk s m _ below hf ((Spec.applies_iff_loose hf).mp happ).1 ⟨rfl, State.Warmed39.refl s, rfl⟩ trivial
  obtain rfl := hQ
  refine ⟨n, _, h1, h2, h3, hpost _ _ _ _ _ _ ⟨Cond.after_iff.mpr rfl, Cond.after_iff.mpr (eq_i res_at (Term.int_eval (1)) rfl), trivial⟩ ⟨hq.1, hq.2.1, (hq.2.2.sift fun y hy => Or.inr (N y hy)).mono (by decide) (by decide)⟩⟩
theorem main_1_1 : Claimed_1_1 := comes_1 fun _ _ _ _ _ _ h hF => ⟨h.1, hF⟩
theorem main_1_2 : Claimed_1_2 := comes_1 fun _ _ _ _ _ _ h hF => ⟨h.2.1, hF⟩
end Jvm.Pilot.@@N@@
namespace Jvm.Pilot.@@N@@
open Jvm Jvm.ClassFile Sem Op Lib Jvm.Free Jvm.Stand Jvm.Pilot.@@N@@.Jvm.D
/-! MADE BY PROGRAM (witnessworld.py) out of the Statement's table words and the real class files: 12 classes; the members and pool entries that the words name. The judged class is class 1, her method 1. -/
namespace start1
open Jvm.ClassFile
def u (s : String) : CpInfo := .utf8 (stringToUtf16 s)
/-- a pool by its gaps: so many unusable entries, then the entry; so many at the end -/
def gap : Nat → List CpInfo → List CpInfo
  | 0, r => r
  | n + 1, r => .unusable :: gap n r
def poolList (es : List (Nat × CpInfo)) (last : Nat) : List CpInfo := es.foldr (fun e r => gap e.1 (e.2 :: r)) (gap last [])
def pool (es : List (Nat × CpInfo)) (last : Nat) : Array CpInfo := ⟨poolList es last⟩
def fileOf (pool : Array CpInfo) (this : Nat) (attrs : Array Attribute := #[]) (ms : Array MethodInfo := #[]) (fl : Nat := 33) (sup : Nat := 0) (ifs : Array Nat := #[]) (fds : Array FieldInfo := #[]) : ClassFile where
  minorVersion := 0
  majorVersion := 65
  constantPool := pool
  accessFlags := fl
  thisClass := this
  superClass := sup
  interfaces := ifs
  fields := fds
  methods := ms
  attributes := attrs
def plain (name : String) (sup : Option ClassId) : Class where
  name := name
  kind := .ordinary
  loader := none
  accessFlags := 33
  super := sup
  interfaces := #[]
  cf := none
  fields := #[]
  methods := #[]
  instanceTypes := #[]
  staticTypes := #[]
  resolved := #[]
  callSites := []
  init := .initialized
  statics := none
  mirror := none

def pool0 : Array CpInfo := pool [(5, u "<init>"), (0, u "()V"), (1, .class_ 10), (1, u "java/lang/Object")] 113

def k0m0 : Method := { name := "<init>", desc := "()V", sig := { parameters := [], returnType := none }, accessFlags := 1, code := none }
/-- java/lang/Object -/
def k0 : Class := { plain "java/lang/Object" none with
  accessFlags := 33
  interfaces := #[]
  cf := some (fileOf pool0 8 #[] #[{ accessFlags := 1, nameIndex := 5, descriptorIndex := 6, attributes := #[] }] 33 0 #[] #[])
  fields := #[]
  methods := #[k0m0]
  instanceTypes := #[]
  staticTypes := #[]
  resolved := Array.replicate 124 none
  statics := none }

def pool1 : Array CpInfo := pool [(2, .class_ 4), (1, u "java/lang/Object"), (0, u "<init>"), (0, u "()V"), (0, .fieldref 8 9), (0, .class_ 10), (0, .nameAndType 11 12), (0, u "com/example/assay_shapes/assayshapes/Severity"), (0, u "ERROR"), (0, u "Lcom/example/assay_shapes/assayshapes/Severity;"), (0, .fieldref 8 14), (0, .nameAndType 15 12), (0, u "DANGER"), (0, .fieldref 8 17), (0, .nameAndType 18 12), (0, u "WARNING"), (0, .fieldref 8 20), (0, .nameAndType 21 12), (0, u "NOTE"), (0, .methodref 8 23), (0, .nameAndType 24 25), (0, u "failsValidation"), (0, u "()Z"), (0, .class_ 27), (0, u "com/example/assay_shapes/assayshapes/SeverityFailsValidationPinLaw"), (2, u "law"), (0, u "(I)Z")] 3

def k1m0 : Method := { name := "<init>", desc := "()V", sig := { parameters := [], returnType := none }, accessFlags := 1, code := none }
def k1c1 : Code := { maxStack := 2, maxLocals := 4, code := code, exceptionTable := #[], attributes := #[] }
def k1m1 : Method := { name := "law", desc := "(I)Z", sig := { parameters := [.int], returnType := some .boolean }, accessFlags := 9, code := some k1c1 }
/-- com/example/assay_shapes/assayshapes/SeverityFailsValidationPinLaw -/
def k1 : Class := { plain "com/example/assay_shapes/assayshapes/SeverityFailsValidationPinLaw" (some 0) with
  accessFlags := 49
  interfaces := #[]
  cf := some (fileOf pool1 26 #[] #[{ accessFlags := 1, nameIndex := 5, descriptorIndex := 6, attributes := #[] }, { accessFlags := 9, nameIndex := 30, descriptorIndex := 31, attributes := #[] }] 49 2 #[] #[])
  fields := #[]
  methods := #[k1m0, k1m1]
  instanceTypes := #[]
  staticTypes := #[]
  resolved := Array.replicate 35 none
  statics := none }

def pool2 : Array CpInfo := pool [(1, .class_ 2), (0, u "java/lang/constant/Constable"), (0, .class_ 4), (0, u "java/lang/Object")] 6

/-- java/lang/constant/Constable -/
def k2 : Class := { plain "java/lang/constant/Constable" (some 0) with
  accessFlags := 1537
  interfaces := #[]
  cf := some (fileOf pool2 1 #[] #[] 1537 3 #[] #[])
  fields := #[]
  methods := #[]
  instanceTypes := #[]
  staticTypes := #[]
  resolved := Array.replicate 11 none
  statics := none }

def pool3 : Array CpInfo := pool [(1, .class_ 2), (0, u "java/lang/Comparable"), (0, .class_ 4), (0, u "java/lang/Object")] 7

/-- java/lang/Comparable -/
def k3 : Class := { plain "java/lang/Comparable" (some 0) with
  accessFlags := 1537
  interfaces := #[]
  cf := some (fileOf pool3 1 #[] #[] 1537 3 #[] #[])
  fields := #[]
  methods := #[]
  instanceTypes := #[]
  staticTypes := #[]
  resolved := Array.replicate 12 none
  statics := none }

def pool4 : Array CpInfo := pool [(1, .class_ 2), (0, u "java/io/Serializable"), (0, .class_ 4), (0, u "java/lang/Object")] 2

/-- java/io/Serializable -/
def k4 : Class := { plain "java/io/Serializable" (some 0) with
  accessFlags := 1537
  interfaces := #[]
  cf := some (fileOf pool4 1 #[] #[] 1537 3 #[] #[])
  fields := #[]
  methods := #[]
  instanceTypes := #[]
  staticTypes := #[]
  resolved := Array.replicate 7 none
  statics := none }

def pool5 : Array CpInfo := pool [(2, .class_ 4), (1, u "java/lang/Enum"), (0, u "name"), (0, u "Ljava/lang/String;"), (2, u "ordinal"), (0, u "I"), (1, .class_ 14), (1, u "java/lang/Object"), (4, u "hash"), (86, .class_ 108), (1, u "java/lang/Enum$EnumDesc"), (2, .class_ 112), (0, u "java/lang/constant/Constable"), (0, .class_ 114), (0, u "java/lang/Comparable"), (0, .class_ 116), (0, u "java/io/Serializable")] 87

/-- java/lang/Enum -/
def k5 : Class := { plain "java/lang/Enum" (some 0) with
  accessFlags := 1057
  interfaces := #[2, 3, 4]
  cf := some (fileOf pool5 2 #[.nestMembers #[106]] #[] 1057 12 #[111, 113, 115] #[{ accessFlags := 18, nameIndex := 5, descriptorIndex := 6, attributes := #[] }, { accessFlags := 18, nameIndex := 9, descriptorIndex := 10, attributes := #[] }, { accessFlags := 2, nameIndex := 19, descriptorIndex := 10, attributes := #[] }])
  fields := #[{ name := "name", type := (.object "java/lang/String"), accessFlags := 18, slot := 0, constantValue := 0 }, { name := "ordinal", type := .int, accessFlags := 18, slot := 1, constantValue := 0 }, { name := "hash", type := .int, accessFlags := 2, slot := 2, constantValue := 0 }]
  methods := #[]
  instanceTypes := #[(.object "java/lang/String"), .int, .int]
  staticTypes := #[]
  resolved := Array.replicate 204 none
  statics := none }

def pool6 : Array CpInfo := pool [(1, .class_ 2), (0, u "com/example/assay_shapes/assayshapes/Severity"), (0, .fieldref 1 4), (0, .nameAndType 5 6), (0, u "ERROR"), (0, u "Lcom/example/assay_shapes/assayshapes/Severity;"), (0, .fieldref 1 8), (0, .nameAndType 9 6), (0, u "DANGER"), (2, u "WARNING"), (2, u "NOTE"), (2, u "$VALUES"), (0, u "[Lcom/example/assay_shapes/assayshapes/Severity;"), (6, .class_ 28), (1, u "java/lang/Enum"), (22, u "failsValidation"), (0, u "()Z")] 5

def k6c0 : Code := { maxStack := 2, maxLocals := 1, code := prog_57_method_4_code, exceptionTable := #[], attributes := #[] }
def k6m0 : Method := { name := "failsValidation", desc := "()Z", sig := { parameters := [], returnType := some .boolean }, accessFlags := 1, code := some k6c0 }
/-- com/example/assay_shapes/assayshapes/Severity -/
def k6 : Class := { plain "com/example/assay_shapes/assayshapes/Severity" (some 5) with
  accessFlags := 16433
  interfaces := #[]
  cf := some (fileOf pool6 1 #[] #[{ accessFlags := 1, nameIndex := 51, descriptorIndex := 52, attributes := #[] }] 16433 26 #[] #[{ accessFlags := 16409, nameIndex := 5, descriptorIndex := 6, attributes := #[] }, { accessFlags := 16409, nameIndex := 9, descriptorIndex := 6, attributes := #[] }, { accessFlags := 16409, nameIndex := 12, descriptorIndex := 6, attributes := #[] }, { accessFlags := 16409, nameIndex := 15, descriptorIndex := 6, attributes := #[] }, { accessFlags := 4122, nameIndex := 18, descriptorIndex := 19, attributes := #[] }])
  fields := #[{ name := "ERROR", type := (.object "com/example/assay_shapes/assayshapes/Severity"), accessFlags := 16409, slot := 0, constantValue := 0 }, { name := "DANGER", type := (.object "com/example/assay_shapes/assayshapes/Severity"), accessFlags := 16409, slot := 1, constantValue := 0 }, { name := "WARNING", type := (.object "com/example/assay_shapes/assayshapes/Severity"), accessFlags := 16409, slot := 2, constantValue := 0 }, { name := "NOTE", type := (.object "com/example/assay_shapes/assayshapes/Severity"), accessFlags := 16409, slot := 3, constantValue := 0 }, { name := "$VALUES", type := (.array (.object "com/example/assay_shapes/assayshapes/Severity")), accessFlags := 4122, slot := 4, constantValue := 0 }]
  methods := #[k6m0]
  instanceTypes := #[(.object "java/lang/String"), .int, .int]
  staticTypes := #[(.object "com/example/assay_shapes/assayshapes/Severity"), (.object "com/example/assay_shapes/assayshapes/Severity"), (.object "com/example/assay_shapes/assayshapes/Severity"), (.object "com/example/assay_shapes/assayshapes/Severity"), (.array (.object "com/example/assay_shapes/assayshapes/Severity"))]
  resolved := Array.replicate 58 none
  statics := some 0 }

def pool7 : Array CpInfo := pool [(1, u "java/lang/Cloneable"), (0, .class_ 1), (0, u "java/lang/Object"), (0, .class_ 3)] 3

/-- java/lang/Cloneable -/
def k7 : Class := { plain "java/lang/Cloneable" (some 0) with
  accessFlags := 1537
  interfaces := #[]
  cf := some (fileOf pool7 2 #[] #[] 1537 4 #[] #[])
  fields := #[]
  methods := #[]
  instanceTypes := #[]
  staticTypes := #[]
  resolved := Array.replicate 8 none
  statics := none }

/-- the primitive byte -/
def k8 : Class := { plain "byte" none with kind := .primitive 'B', accessFlags := 0x411 }
/-- [B -/
def k9 : Class := { plain "[B" (some 0) with kind := .array 8 .byte, interfaces := #[7, 4], accessFlags := 1041 }

/-- the primitive int -/
def k10 : Class := { plain "int" none with kind := .primitive 'I', accessFlags := 0x411 }
/-- [I -/
def k11 : Class := { plain "[I" (some 0) with kind := .array 10 .int, interfaces := #[7, 4], accessFlags := 1041 }

def heap : Heap := #[{ cls := 6, slots := #[.ref 1, .ref 2, .ref 3, .ref 4, .null], vm := .statics 6 },
  { cls := 6, slots := #[.null, .int 0, .int 0], vm := .none },
  { cls := 6, slots := #[.null, .int 1, .int 0], vm := .none },
  { cls := 6, slots := #[.null, .int 2, .int 0], vm := .none },
  { cls := 6, slots := #[.null, .int 3, .int 0], vm := .none }]
def classes : Array Class := #[k0, k1, k2, k3, k4, k5, k6, k7, k8, k9, k10, k11]
def interned : List (Array UInt16 × Addr) := []
def slotsUsed : Nat := 17
def theMethod : MethodId := ⟨1, 1⟩
def args0 : Array Value := #[.int 5]
def aboutOver (below : List Frame) : State where
  vm := { classes := classes, interned := interned.toArray }
  heap := heap
  slotsUsed := slotsUsed
  threads := #[{ frames := .invoking theMethod args0 :: below }]
def below0 : List Frame := [.native { method := ⟨0, 0⟩, args := #[] }]
def about1 : State := aboutOver below0
def p0 : Program := .bare "" "" ""
def e0 : Env := launch0.env 0 0 0
theorem w_frames : about1.frames = Frame.invoking theMethod args0 :: below0 := rfl
set_option maxRecDepth 65536 in
theorem w_args : argsFit about1.vm theMethod args0 = true := by decide +kernel
set_option maxRecDepth 65536 in
theorem w_heap : heapFits about1 = true := by decide +kernel
set_option maxRecDepth 65536 in
theorem w_runnable : about1.curStatus? = some .runnable := by decide +kernel
set_option maxRecDepth 65536 in
theorem w_alone : about1.alone = true := by decide +kernel
set_option maxRecDepth 65536 in
theorem w_named : about1.methodNamed? x = some theMethod := by decide +kernel
set_option maxRecDepth 65536 in
theorem w_hears : about1.hears theMethod below0 = true := by decide +kernel
set_option maxRecDepth 65536 in
theorem w_ripe : about1.ripe theMethod args0 below0 = true := by decide +kernel
theorem w_running : about1.status = .running := rfl
set_option maxRecDepth 65536 in
theorem w_room : about1.hasRoom e0.platform room_1 = true :=
  launch0.hasRoom_least _ room_1 (by decide +kernel) (by decide +kernel) (by decide +kernel) (by decide +kernel) (by decide +kernel) (by decide +kernel)
theorem allAtoms_all (ts : List Jvm.Cond) (a : Array Jvm.Value) (st : Jvm.State) : (allAtoms ts).before a st = ts.all (fun c => c.before a st) := by
  induction ts with
  | nil => rfl
  | cons c t ih =>
    show (Jvm.Cond.and c (allAtoms t)).before a st = _
    rw [Jvm.Cond.before_and, ih, List.all_cons]
def words1 : List Jvm.Cond := Jvm.Cond.code x code maxLocals ret :: tables_1
/-- a 'code' word, met by the world's own term for the bytes: nothing is compared byte by byte -/
theorem code_word {y : MethodName} {bytes : ByteArray} {mx : Nat} {rt : Option FieldType} {a : Array Value} {s : State} {m : MethodId} {meth : Method} {c : Code} (h1 : s.methodNamed? y = some m) (h2 : s.vm.method? m = some meth) (h3 : meth.code = some c) (h4 : c.code = bytes)
    (h5 : (c.maxLocals == mx && c.exceptionTable.isEmpty && decide (c.maxStack ≤ mostOperands) && decide (meth.sig.returnType = rt) && !meth.locks && decide (parseMethodDescriptor y.desc = some meth.sig)) = true) : (Jvm.Cond.code y bytes mx rt).before a s = true := by
  simp only [Bool.and_eq_true, beq_iff_eq, Bool.not_eq_true', decide_eq_true_eq] at h5
  obtain ⟨⟨⟨⟨⟨g1, g2⟩, g3⟩, g4⟩, g5⟩, g6⟩ := h5
  simp [Cond.before, Cond.holds, Cond.value, h1, h2, h3, h4, g1, g2, g3, g4, g5, g6]
def isCode : Jvm.Cond → Bool
  | .code _ _ _ _ => true
  | _ => false
theorem all_split {L : List Jvm.Cond} {P : Jvm.Cond → Bool} (h1 : L.all (fun c => isCode c || P c) = true) (h2 : ∀ c ∈ L.filter isCode, P c = true) : L.all P = true := by
  refine List.all_eq_true.mpr fun c hc => ?_
  have h := List.all_eq_true.mp h1 c hc
  rcases Bool.eq_false_or_eq_true (isCode c) with hi | hi
  · exact h2 c (List.mem_filter.mpr ⟨hc, hi⟩)
  · simpa [hi] using h
set_option maxRecDepth 65536 in
theorem w_c0 : (Jvm.Cond.code x code maxLocals ret).before args0 about1 = true := code_word (m := ⟨1, 1⟩) (meth := k1m1) (c := k1c1) (by decide +kernel) rfl rfl rfl (by decide +kernel)
set_option maxRecDepth 65536 in
theorem w_c1 : (Jvm.Cond.code ({ cls := "com/example/assay_shapes/assayshapes/Severity", name := "failsValidation", desc := "()Z" } : Jvm.MethodName) prog_57_method_4_code (1 : Nat) (Option.some Jvm.ClassFile.FieldType.boolean)).before args0 about1 = true := code_word (m := ⟨6, 0⟩) (meth := k6m0) (c := k6c0) (by decide +kernel) rfl rfl rfl (by decide +kernel)
def codes1 : List Jvm.Cond := [Jvm.Cond.code x code maxLocals ret, Jvm.Cond.code ({ cls := "com/example/assay_shapes/assayshapes/Severity", name := "failsValidation", desc := "()Z" } : Jvm.MethodName) prog_57_method_4_code (1 : Nat) (Option.some Jvm.ClassFile.FieldType.boolean)]
set_option maxRecDepth 65536 in
theorem codes_eq : words1.filter isCode = codes1 := rfl
theorem w_codes : ∀ c ∈ words1.filter isCode, c.before args0 about1 = true := by
  rw [codes_eq]
  intro c hc
  simp only [codes1, List.mem_cons, List.not_mem_nil, or_false] at hc
  rcases hc with rfl | rfl
  · exact w_c0
  · exact w_c1
set_option maxRecDepth 65536 in
theorem w_t1 : words1.all (fun c => isCode c || c.before args0 about1) = true := by decide +kernel
theorem w_tables : (allAtoms (Jvm.Cond.code x code maxLocals ret :: tables_1)).before args0 about1 = true := by
  rw [allAtoms_all]
  show words1.all (fun c => c.before args0 about1) = true
  refine all_split ?_ w_codes
  rw [w_t1]
set_option maxRecDepth 65536 in
theorem w_case : (Jvm.Cond.and given_1 narrow_1).before args0 about1 = true := by decide +kernel
theorem w_applies : (headSpec (Jvm.Cond.code x code maxLocals ret :: tables_1) room_1).applies x e0.platform about1 = true :=
  (Spec.applies_iff w_frames).mpr ⟨w_running, w_runnable, w_alone, w_named, w_hears, w_ripe, w_room, w_tables⟩
theorem atStart : AtStart classFile x code maxLocals ret World_1 tables_1 room_1 Calls_1 rest_1 Pre_1 launch0 p0 e0 about1 theMethod args0 below0 :=
  ⟨lists_1, trivial, launch0.admits_env _ _ _, launch0.least_env, fairChoices_fair.cas, fairChoices_fair.clock, w_frames, w_args, w_heap, w_applies, trivial, trivial, w_case⟩
end start1
theorem witness_1 : WitnessClaimed_1 := ⟨start1.p0, start1.e0, start1.about1, start1.theMethod, start1.args0, start1.below0, start1.atStart⟩
end Jvm.Pilot.@@N@@
