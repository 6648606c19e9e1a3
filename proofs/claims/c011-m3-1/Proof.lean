import JvmDerived
import JvmDerived.Pilot.@@N@@Statement
import JvmDerived.Pilot.@@N@@Code
set_option linter.unusedVariables false
set_option linter.unusedSimpArgs false
namespace Jvm.Pilot.@@N@@
open Jvm Jvm.ClassFile Sem Op Lib Jvm.Free Jvm.Stand Jvm.LawKit Jvm.RoadKit Bundle Jvm.Pilot.@@N@@.Jvm.D
section Core
variable {p : Program} {l : Launch} {e : Env} {R : Room} {s : State} {m : MethodId} {args : Array Value} {below : List Frame} {meth : Method} {c : Code} {Z : State} {n0 : Nat} {T : State} {h : Heap} {k n : Nat} {Q : Option Value → Heap → Prop} {K N : Nat} {a0 : Array Value}
/-- where a walk stands: the state T, its heap h, k cells and n slots made so far; every place that was written is new -/
def WSt (p : Program) (l : Launch) (e : Env) (R : Room) (s : State) (m : MethodId) (args : Array Value) (below : List Frame) (meth : Method) (c : Code) (Z : State) (n0 : Nat) (T : State) (h : Heap) (k n : Nat) : Prop :=
  ∃ locs, Stand p l e R s m args below meth c T locs k n ∧ T.heap = h ∧ Fr n0 locs ∧ n0 ≤ s.heap.size ∧ p.tables.exec = Jvm.exec ∧ Z.Warmed39 s.vm ∧ meth.locks = false
/-- from here the invocation returns, and what it leaves answers to Q -/
def WGo (p : Program) (e : Env) (below : List Frame) (s : State) (n0 : Nat) (Q : Option Value → Heap → Prop) (K N : Nat) (T : State) (g : JFrame) : Prop :=
  ∃ s₂ o, Steps p.tables e below (T.setTop g) s₂ ∧ s₂.status = .running ∧ Ended s₂ below o ∧ ∃ v L, o = .returned v ∧ (Q v s₂.heap ∧ Fr n0 L) ∧ FrameEnd s o s₂ L K N
/-- a body's contract at one heap and one list of arguments -/
def WCon (l : Launch) (Z : State) (n0 : Nat) (h0 : Heap) (y : MethodName) (bytes : ByteArray) (maxL : Nat) (ret : Option FieldType) (ws : List Jvm.Cond) (rm : Room) (as : Array Value) (Q : Option Value → Heap → Prop) : Prop :=
  MetFree l y (head1 (Jvm.Cond.code y bytes maxL ret :: ws) rm) (fun a U => a = as ∧ Z.Warmed39 U.vm ∧ U.heap = h0) (fun _ _ _ _ _ => True) (fun _ U o U' => ∃ v L, o = .returned v ∧ (Q v U'.heap ∧ Fr n0 L) ∧ FrameEnd U o U' L rm.cells rm.slots)

theorem WSt.here (S : WSt p l e R s m args below meth c Z n0 T h k n) : At T m c below := by obtain ⟨_, X, _⟩ := S; exact X.here
theorem WSt.eT (S : WSt p l e R s m args below meth c Z n0 T h k n) : T.heap = h := by obtain ⟨_, _, q, _⟩ := S; exact q
theorem WSt.ge (S : WSt p l e R s m args below meth c Z n0 T h k n) : n0 ≤ h.size := by
  obtain ⟨_, X, q, _, r, _⟩ := S
  have h1 : s.heap.size ≤ T.heap.size := X.same.2.1
  rw [← q]; omega
theorem WGo.st {T' : State} {g g' : JFrame} (q : ∀ t, Steps p.tables e below (T'.setTop g') t → Steps p.tables e below (T.setTop g) t) (r : WGo p e below s n0 Q K N T' g') : WGo p e below s n0 Q K N T g := by
  obtain ⟨s2, o, h1, r⟩ := r
  exact ⟨s2, o, q _ h1, r⟩
theorem WGo.cast {g g' : JFrame} (q : g = g') (r : WGo p e below s n0 Q K N T g') : WGo p e below s n0 Q K N T g := q ▸ r
theorem WCon.of {y : MethodName} {bytes : ByteArray} {maxL : Nat} {ret : Option FieldType} {ws : List Jvm.Cond} {rm : Room} {as : Array Value} {h0 : Heap} (hp : plainFor y = true) (hn0 : n0 ≤ h0.size)
    (body : ∀ (p : Program) (e : Env) (s : State) (m : MethodId) (below : List Frame) (meth : Method) (c : Code) (T : State), p.tables.exec = Jvm.exec → Z.Warmed39 s.vm → c.code = bytes → c.maxLocals = maxL → s.vm.findClass y.cls = some m.cls → meth.name = y.name → meth.sig.returnType = ret → WSt p l e rm s m as below meth c Z n0 T h0 0 0 → WGo p e below s n0 Q rm.cells rm.slots T (entryFrame m as maxL)) :
    WCon l Z n0 h0 y bytes maxL ret ws rm as Q := by
  refine MetFree.of_bodySF hp hisR ?_
  intro p e s m args below meth c s₁ Bd hml0 hP hK
  obtain ⟨rfl, hZ, hh⟩ := hP
  have X0 := Stand.of_body Bd
  exact body p e s m below meth c s₁ Bd.exec hZ Bd.bytes hml0 (findClass_of_methodNamed Bd.named) (name_of_methodNamed Bd.named Bd.method).1 Bd.returns ⟨[], X0, by rw [← hh, Bd.state]; rfl, Fr.nil _, by rw [hh]; exact hn0, Bd.exec, hZ, Bd.notSynchronized⟩
/-- the returns -/
theorem w_ret (S : WSt p l e R s m args below meth c Z n0 T h k n) {t : FieldType} {w : Value} {i : Instr} {pc : Nat} {Ls : Array Slot} {rest : List Value} (hret : meth.sig.returnType = some t) (hnw : narrow t w = w)
    (hi : (i = .ireturn ∧ (t = .int ∨ t = .boolean ∨ t = .byte ∨ t = .char ∨ t = .short) ∧ ∃ z, w = .int z) ∨ (i = .lreturn ∧ t = .long ∧ ∃ z, w = .long z) ∨ (i = .dreturn ∧ t = .double ∧ ∃ z, w = .double z) ∨ (i = .freturn ∧ t = .float ∧ ∃ z, w = .float z) ∨ (i = .areturn ∧ t.isReference = true ∧ w.isRef = true))
    (hd : decode c.code pc = .ok (i, 1)) (hk : k ≤ K) (hn : n ≤ N) (hQ : Q (some w) h) : WGo p e below s n0 Q K N T (mkF m pc Ls (w :: rest)) := by
  obtain ⟨locs, X, e1, N1, -, hx, hZ, hlk⟩ := S
  obtain ⟨fs, hr, hrun, hended, hW, hsame⟩ := X.leave (v := some w) (fun q => by rw [hret] at q; cases q) hlk
  refine ⟨_, _, retOut X hx hret hnw hi hd hr, hrun, hended, _, locs, rfl, ⟨?_, N1⟩, ⟨_, rfl⟩, hW, hsame.mono hk hn⟩
  show Q (some w) T.heap
  rw [e1]; exact hQ
theorem w_retI (S : WSt p l e R s m args below meth c Z n0 T h k n) {z : Int32} {pc : Nat} {Ls : Array Slot} {rest : List Value} (hret : meth.sig.returnType = some .int) (hd : decode c.code pc = .ok (.ireturn, 1)) (hk : k ≤ K) (hn : n ≤ N) (hQ : Q (some (.int z)) h) : WGo p e below s n0 Q K N T (mkF m pc Ls (.int z :: rest)) :=
  w_ret S hret rfl (Or.inl ⟨rfl, Or.inl rfl, _, rfl⟩) hd hk hn hQ
theorem w_retZ (S : WSt p l e R s m args below meth c Z n0 T h k n) {z : Int32} {pc : Nat} {Ls : Array Slot} {rest : List Value} (hret : meth.sig.returnType = some .boolean) (hd : decode c.code pc = .ok (.ireturn, 1)) (hz : z = 0 ∨ z = 1) (hk : k ≤ K) (hn : n ≤ N) (hQ : Q (some (.int z)) h) : WGo p e below s n0 Q K N T (mkF m pc Ls (.int z :: rest)) :=
  w_ret S hret (by rcases hz with rfl | rfl <;> rfl) (Or.inl ⟨rfl, Or.inr (Or.inl rfl), _, rfl⟩) hd hk hn hQ
theorem w_retJ (S : WSt p l e R s m args below meth c Z n0 T h k n) {z : Int64} {pc : Nat} {Ls : Array Slot} {rest : List Value} (hret : meth.sig.returnType = some .long) (hd : decode c.code pc = .ok (.lreturn, 1)) (hk : k ≤ K) (hn : n ≤ N) (hQ : Q (some (.long z)) h) : WGo p e below s n0 Q K N T (mkF m pc Ls (.long z :: rest)) :=
  w_ret S hret rfl (Or.inr (Or.inl ⟨rfl, rfl, _, rfl⟩)) hd hk hn hQ
theorem w_retA (S : WSt p l e R s m args below meth c Z n0 T h k n) {t : FieldType} {z : Addr} {pc : Nat} {Ls : Array Slot} {rest : List Value} (hret : meth.sig.returnType = some t) (ht : t.isReference = true) (hnw : narrow t (.ref z) = .ref z) (hd : decode c.code pc = .ok (.areturn, 1)) (hk : k ≤ K) (hn : n ≤ N) (hQ : Q (some (.ref z)) h) : WGo p e below s n0 Q K N T (mkF m pc Ls (.ref z :: rest)) :=
  w_ret S hret hnw (Or.inr (Or.inr (Or.inr (Or.inr ⟨rfl, ht, rfl⟩)))) hd hk hn hQ
theorem w_retV (S : WSt p l e R s m args below meth c Z n0 T h k n) {pc : Nat} {Ls : Array Slot} (hret : meth.sig.returnType = none) (hd : decode c.code pc = .ok (.return_, 1)) (hk : k ≤ K) (hn : n ≤ N) (hQ : Q none h) : WGo p e below s n0 Q K N T (mkF m pc Ls []) := by
  obtain ⟨locs, X, e1, N1, -, hx, hZ, hlk⟩ := S
  obtain ⟨fs, hr, hrun, hended, hW, hsame⟩ := X.leave (v := none) (fun _ => rfl) hlk
  refine ⟨_, _, X.returnOut hx hret hd hr, hrun, hended, _, locs, rfl, ⟨?_, N1⟩, ⟨_, rfl⟩, hW, hsame.mono hk hn⟩
  show Q none T.heap
  rw [e1]; exact hQ
/-- constants, remainder -/
theorem w_ldc (S : WSt p l e R s m args below meth c Z n0 T h k n) {own : String} {index : Nat} {v : Int32} (hown : s.vm.findClass own = some m.cls) (w : (Jvm.Cond.constant own index v).before a0 Z = true) {g : JFrame} (hg : g.method = m) (hd : decode c.code g.pc = .ok (.ldc index, 2))
    (r : WGo p e below s n0 Q K N T { g with pc := g.pc + 2, stack := .int v :: g.stack }) : WGo p e below s n0 Q K N T g := by
  obtain ⟨locs, X, e1, N1, -, hx, hZ, hlk⟩ := S
  exact WGo.st (X.ldcInt hx hown (mvT hZ w) hg hd) r
theorem w_ldc2 (S : WSt p l e R s m args below meth c Z n0 T h k n) {own : String} {index : Nat} {v : Int64} (hown : s.vm.findClass own = some m.cls) (w : (Jvm.Cond.constantLong own index v).before a0 Z = true) {g : JFrame} (hg : g.method = m) (hd : decode c.code g.pc = .ok (.ldc2_w index, 3))
    (r : WGo p e below s n0 Q K N T { g with pc := g.pc + 3, stack := .long v :: g.stack }) : WGo p e below s n0 Q K N T g := by
  obtain ⟨locs, X, e1, N1, -, hx, hZ, hlk⟩ := S
  exact WGo.st (X.ldc2Long hx hown (mvT hZ w) hg hd) r
theorem w_irem (S : WSt p l e R s m args below meth c Z n0 T h k n) {g : JFrame} (hg : g.method = m) {x y : Int32} {rest : List Value} (hd : decode c.code g.pc = .ok (.irem, 1)) (hs : g.stack = .int y :: .int x :: rest) (hy : y ≠ 0)
    (r : WGo p e below s n0 Q K N T { g with pc := g.pc + 1, stack := .int (x % y) :: rest }) : WGo p e below s n0 Q K N T g := by
  obtain ⟨locs, X, e1, N1, -, hx, hZ, hlk⟩ := S
  exact WGo.st (fun _ q => iremM X hx hg hd hs hy q) r
/-- arrays of ints, bytes, booleans, chars: the values in order -/
def AI (Z : State) (h : Heap) (a : Addr) (ty : FieldType) (L : List Int32) : Prop := ∃ cl : Cell, Arr Z h a cl ty ∧ cl.slots = (L.map Value.int).toArray
def gi (L : List Int32) (j : Int32) : Int32 := L.getD j.toNatClampNeg 0
def si (L : List Int32) (j : Int32) (v : Int32) : List Int32 := L.set j.toNatClampNeg v
variable {a b : Addr} {ty : FieldType} {L : List Int32} {h' : Heap} {ws : List Addr}
theorem AI.lt (A : AI Z h a ty L) : a < h.size := by obtain ⟨cl, A, -⟩ := A; exact A.lt
theorem AI.keep (A : AI Z h a ty L) (K : Keep h h' ws) (q : a ∉ ws) : AI Z h' a ty L := by obtain ⟨cl, A, r⟩ := A; exact ⟨cl, ⟨K.2.1 a cl A.1 q, A.2⟩, r⟩
theorem ai_size {cl : Cell} (r : cl.slots = (L.map Value.int).toArray) : cl.slots.size = L.length := by rw [r]; simp
theorem ai_in {cl : Cell} {j : Int32} (r : cl.slots = (L.map Value.int).toArray) (h0 : 0 ≤ j.toInt) (h1 : j.toInt < L.length) : ¬ (j < 0 ∨ cl.slots.size ≤ j.toNatClampNeg) := by
  rw [ai_size r]
  have : (0 : Int32).toInt = 0 := rfl
  simp only [Int32.lt_iff_toInt_lt, Int32.toNatClampNeg]; omega
theorem ai_at {cl : Cell} {j : Int32} (r : cl.slots = (L.map Value.int).toArray) (h0 : 0 ≤ j.toInt) (h1 : j.toInt < L.length) : cl.slots[j.toNatClampNeg]? = some (.int (gi L j)) := by
  have q : j.toNatClampNeg < L.length := by simp only [Int32.toNatClampNeg]; omega
  rw [r]
  simp [gi, q]
theorem keep_ext {h h' : Heap} (E : Ext h h') (ws : List Addr) : Keep h h' ws := (Keep.refl h ws).ext E
theorem ai_new {cl : ClassId} {ty : FieldType} {j : Int32} (hty : defaultValue ty = .int 0) : (newA cl ty j).slots = ((List.replicate j.toNatClampNeg (0 : Int32)).map Value.int).toArray := by
  simp [newA, hty]
theorem w_newarray (S : WSt p l e R s m args below meth c Z n0 T h k n) {aty : ArrayType} (w : (Jvm.Cond.arrayClass (newarray.typeOf aty)).before a0 Z = true) (hty : defaultValue (newarray.typeOf aty) = .int 0) {g : JFrame} (hg : g.method = m) (hd : decode c.code g.pc = .ok (.newarray aty, 2)) {j : Int32} {rest : List Value} (hs : g.stack = .int j :: rest)
    (hj : ¬ j < 0) {cap : Nat} (hcap : j.toNatClampNeg ≤ cap) (hb : cap * 8 ≤ 536870912) (hc : k + 1 ≤ R.cells) (hl : n + cap ≤ R.slots) {L : List Int32} (hL : List.replicate j.toNatClampNeg 0 = L)
    (r : ∀ T' h' a', WSt p l e R s m args below meth c Z n0 T' h' (k + 1) (n + cap) → Keep h h' [] → a' = h.size → n0 ≤ a' → AI Z h' a' (newarray.typeOf aty) L → WGo p e below s n0 Q K N T' { g with pc := g.pc + 2, stack := .ref a' :: rest }) : WGo p e below s n0 Q K N T g := by
  have hge := S.ge
  obtain ⟨locs, X, e1, N1, n1, hx, hZ, hlk⟩ := S
  obtain ⟨T', h', cA, X', e', E', A', st⟩ := newP X hx hZ w e1 hg hd hs hj hcap hb hc hl
  exact WGo.st st (r T' h' _ ⟨locs, X', e', N1, n1, hx, hZ, hlk⟩ (keep_ext E' _) rfl hge ⟨_, A', by rw [ai_new hty, hL]⟩)
theorem w_iaload (S : WSt p l e R s m args below meth c Z n0 T h k n) (A : AI Z h a .int L) {g : JFrame} (hg : g.method = m) (hd : decode c.code g.pc = .ok (.iaload, 1)) {j : Int32} {rest : List Value} (hs : g.stack = .int j :: .ref a :: rest) (h0 : 0 ≤ j.toInt) (h1 : j.toInt < L.length) {v : Int32} (hv : gi L j = v)
    (r : WGo p e below s n0 Q K N T { g with pc := g.pc + 1, stack := .int v :: rest }) : WGo p e below s n0 Q K N T g := by
  subst hv
  obtain ⟨locs, X, e1, N1, n1, hx, hZ, hlk⟩ := S
  obtain ⟨cl, A, q⟩ := A
  exact WGo.st (fun t u => X.iaload hx (j := j) (v := .int (gi L j)) (by rw [e1]; exact A.1) (State.isArrayOf_alike hZ.alike A.2.1) A.2.2 (ai_in q h0 h1) (ai_at q h0 h1) hg hs hd t u) r
theorem w_caload (S : WSt p l e R s m args below meth c Z n0 T h k n) (A : AI Z h a .char L) {g : JFrame} (hg : g.method = m) (hd : decode c.code g.pc = .ok (.caload, 1)) {j : Int32} {rest : List Value} (hs : g.stack = .int j :: .ref a :: rest) (h0 : 0 ≤ j.toInt) (h1 : j.toInt < L.length) {v : Int32} (hv : gi L j = v)
    (r : WGo p e below s n0 Q K N T { g with pc := g.pc + 1, stack := .int v :: rest }) : WGo p e below s n0 Q K N T g := by
  subst hv
  obtain ⟨locs, X, e1, N1, n1, hx, hZ, hlk⟩ := S
  obtain ⟨cl, A, q⟩ := A
  exact WGo.st (fun t u => X.caload hx (j := j) (v := .int (gi L j)) (by rw [e1]; exact A.1) (State.isArrayOf_alike hZ.alike A.2.1) A.2.2 (ai_in q h0 h1) (ai_at q h0 h1) hg hs hd t u) r
theorem w_baload (S : WSt p l e R s m args below meth c Z n0 T h k n) (A : AI Z h a .byte L) {g : JFrame} (hg : g.method = m) (hd : decode c.code g.pc = .ok (.baload, 1)) {j : Int32} {rest : List Value} (hs : g.stack = .int j :: .ref a :: rest) (h0 : 0 ≤ j.toInt) (h1 : j.toInt < L.length) {v : Int32} (hv : gi L j = v)
    (r : WGo p e below s n0 Q K N T { g with pc := g.pc + 1, stack := .int v :: rest }) : WGo p e below s n0 Q K N T g := by
  subst hv
  obtain ⟨locs, X, e1, N1, n1, hx, hZ, hlk⟩ := S
  obtain ⟨cl, A, q⟩ := A
  exact WGo.st (fun t u => X.baloadBytes hx (j := j) (v := .int (gi L j)) (by rw [e1]; exact A.1) (State.isArrayOf_alike hZ.alike A.2.1) A.2.2 (ai_in q h0 h1) (ai_at q h0 h1) hg hs hd t u) r
theorem w_zaload (S : WSt p l e R s m args below meth c Z n0 T h k n) (A : AI Z h a .boolean L) {g : JFrame} (hg : g.method = m) (hd : decode c.code g.pc = .ok (.baload, 1)) {j : Int32} {rest : List Value} (hs : g.stack = .int j :: .ref a :: rest) (h0 : 0 ≤ j.toInt) (h1 : j.toInt < L.length) {v : Int32} (hv : gi L j = v)
    (r : WGo p e below s n0 Q K N T { g with pc := g.pc + 1, stack := .int v :: rest }) : WGo p e below s n0 Q K N T g := by
  subst hv
  obtain ⟨locs, X, e1, N1, n1, hx, hZ, hlk⟩ := S
  obtain ⟨cl, A, q⟩ := A
  exact WGo.st (fun t u => X.baloadBooleans hx (j := j) (v := .int (gi L j)) (by rw [e1]; exact A.1) (State.isArrayOf_alike hZ.alike A.2.1) A.2.2 (ai_in q h0 h1) (ai_at q h0 h1) hg hs hd t u) r
theorem w_arraylength (S : WSt p l e R s m args below meth c Z n0 T h k n) (A : AI Z h a ty L) {g : JFrame} (hg : g.method = m) (hd : decode c.code g.pc = .ok (.arraylength, 1)) {rest : List Value} (hs : g.stack = .ref a :: rest) {z : Int32} (hz : L.length.toInt32 = z)
    (r : WGo p e below s n0 Q K N T { g with pc := g.pc + 1, stack := .int z :: rest }) : WGo p e below s n0 Q K N T g := by
  obtain ⟨locs, X, e1, N1, n1, hx, hZ, hlk⟩ := S
  obtain ⟨cl, A, q⟩ := A
  subst hz
  exact WGo.st (fun t u => X.arraylength hx (by rw [e1]; exact A.1) (State.isArrayOf_alike hZ.alike A.2.1) hg hs hd t (by rw [ai_size q]; exact u)) r
theorem ai_set {cl : Cell} {j x : Int32} (r : cl.slots = (L.map Value.int).toArray) : (cl.setSlot j.toNatClampNeg (.int x)).slots = ((si L j x).map Value.int).toArray := by
  simp [Cell.setSlot, r, si]
theorem w_iastore (S : WSt p l e R s m args below meth c Z n0 T h k n) (A : AI Z h a .int L) (ga : n0 ≤ a) {g : JFrame} (hg : g.method = m) (hd : decode c.code g.pc = .ok (.iastore, 1)) {j x : Int32} {rest : List Value} (hs : g.stack = .int x :: .int j :: .ref a :: rest) (h0 : 0 ≤ j.toInt) (h1 : j.toInt < L.length) {L' : List Int32} (hL : si L j x = L')
    (r : ∀ T' h', WSt p l e R s m args below meth c Z n0 T' h' k n → Keep h h' [a] → AI Z h' a .int L' → WGo p e below s n0 Q K N T' { g with pc := g.pc + 1, stack := rest }) : WGo p e below s n0 Q K N T g := by
  obtain ⟨locs, X, e1, N1, n1, hx, hZ, hlk⟩ := S
  obtain ⟨cl, A, q⟩ := A
  obtain ⟨T', h', X', e', W', st⟩ := stI X hx hZ e1 A (ai_in q h0 h1) hg hs hd
  exact WGo.st st (r T' h' ⟨_, X', e', Fr.snoc X' N1 ga, n1, hx, hZ, hlk⟩ (Keep.of_wr W') ⟨_, A.same W', by rw [ai_set q, hL]⟩)
theorem w_bastore (S : WSt p l e R s m args below meth c Z n0 T h k n) (A : AI Z h a .byte L) (ga : n0 ≤ a) {g : JFrame} (hg : g.method = m) (hd : decode c.code g.pc = .ok (.bastore, 1)) {j x : Int32} {rest : List Value} (hs : g.stack = .int x :: .int j :: .ref a :: rest) (h0 : 0 ≤ j.toInt) (h1 : j.toInt < L.length) {L' : List Int32} (hL : si L j x.toInt8.toInt32 = L')
    (r : ∀ T' h', WSt p l e R s m args below meth c Z n0 T' h' k n → Keep h h' [a] → AI Z h' a .byte L' → WGo p e below s n0 Q K N T' { g with pc := g.pc + 1, stack := rest }) : WGo p e below s n0 Q K N T g := by
  obtain ⟨locs, X, e1, N1, n1, hx, hZ, hlk⟩ := S
  obtain ⟨cl, A, q⟩ := A
  obtain ⟨T', h', X', e', W', st⟩ := stB X hx hZ e1 A (ai_in q h0 h1) hg hs hd
  exact WGo.st st (r T' h' ⟨_, X', e', Fr.snoc X' N1 ga, n1, hx, hZ, hlk⟩ (Keep.of_wr W') ⟨_, A.same W', by rw [ai_set q]; exact hL ▸ rfl⟩)
theorem w_zastore (S : WSt p l e R s m args below meth c Z n0 T h k n) (A : AI Z h a .boolean L) (ga : n0 ≤ a) {g : JFrame} (hg : g.method = m) (hd : decode c.code g.pc = .ok (.bastore, 1)) {j x : Int32} {rest : List Value} (hs : g.stack = .int x :: .int j :: .ref a :: rest) (h0 : 0 ≤ j.toInt) (h1 : j.toInt < L.length) (hb : x = 0 ∨ x = 1) {L' : List Int32} (hL : si L j x = L')
    (r : ∀ T' h', WSt p l e R s m args below meth c Z n0 T' h' k n → Keep h h' [a] → AI Z h' a .boolean L' → WGo p e below s n0 Q K N T' { g with pc := g.pc + 1, stack := rest }) : WGo p e below s n0 Q K N T g := by
  obtain ⟨locs, X, e1, N1, n1, hx, hZ, hlk⟩ := S
  obtain ⟨cl, A, q⟩ := A
  obtain ⟨T', h', X', e', W', st⟩ := stZ X hx hZ e1 A (ai_in q h0 h1) hg hs hd
  have hx1 : nar .boolean x = x := by rcases hb with rfl | rfl <;> rfl
  rw [hx1] at W'
  exact WGo.st st (r T' h' ⟨_, X', e', Fr.snoc X' N1 ga, n1, hx, hZ, hlk⟩ (Keep.of_wr W') ⟨_, A.same W', by rw [ai_set q, hL]⟩)
/-- calls by contract -/
theorem w_static (S : WSt p l e R s m args below meth c Z n0 T h k n) {own : String} {index : Nat} {y : MethodName} {bytes : ByteArray} {maxL : Nat} {ret : Option FieldType} (hown : s.vm.findClass own = some m.cls) (w1 : (Jvm.Cond.methodLink own index y).before a0 Z = true) (w2 : (Jvm.Cond.static y).before a0 Z = true) (w3 : (Jvm.Cond.initialized y.cls).before a0 Z = true) (w4 : (Jvm.Cond.code y bytes maxL ret).before a0 Z = true) (hy : y.cls ≠ "java/lang/invoke/MethodHandle" ∧ y.cls ≠ "java/lang/invoke/VarHandle")
    {rm : Room} {as : Array Value} {Qc : Option Value → Heap → Prop} (C : WCon l Z n0 h y bytes maxL ret [] rm as Qc) {W : Nat} (hf : rm.frames + 1 ≤ R.frames) (hl : W + (maxL + 11) + rm.locals ≤ R.locals) (hc : k + rm.cells ≤ R.cells) (hs : n + rm.slots ≤ R.slots)
    {g : JFrame} (hg : g.method = m) (hsize : g.locals.size = c.maxLocals) {argsL rest : List Value} {ps : List FieldType} {rt : Option FieldType} (hpd : parseMethodDescriptor y.desc = some ⟨ps, rt⟩) (hlen : argsL.length = ps.length) (hstack : g.stack = argsL.reverse ++ rest) (has : argsL.toArray = as) (hW : 2 * g.monitorRoom + (rest.map fun v => v.category).sum ≤ W) (hd : decode c.code g.pc = .ok (.invokestatic index, 3))
    (r : ∀ T' h' v, WSt p l e R s m args below meth c Z n0 T' h' (k + rm.cells) (n + rm.slots) → Qc v h' → WGo p e below s n0 Q K N T' { g with pc := g.pc + 3, stack := v.toList ++ rest }) : WGo p e below s n0 Q K N T g := by
  obtain ⟨locs, X, e1, N1, n1, hx, hZ, hlk⟩ := S
  have B := backOf (W := W) (s := s) (args := args) (R := R) (p := p) (e := e) (below := below) (len := 3) (a0 := a0) (Q := fun v h L => Qc v h ∧ Fr n0 L) C hZ w4 w3 hf hl
  obtain ⟨v, vm1, ⟨T1, L1, k1, m1⟩, -, X1, ⟨Lc, hQ, l1, y1, z1⟩, st⟩ := Jvm.LawKit.callS X hx (y := y) hown (mvT hZ w1) (mvT hZ w2) (mvT hZ w3) (mvT hZ w4) hy B hg hsize (lenOf hpd hlen) hstack hW hd (fun _ _ => ⟨has, e1, hc, hs⟩)
  dsimp only [Pt.U, Pt.locs, Pt.cells, Pt.slots] at X1 l1 y1 z1 st hQ
  subst l1 y1 z1
  exact WGo.st st (r _ _ v ⟨_, X1, rfl, Fr.app N1 hQ.2, n1, hx, hZ, hlk⟩ hQ.1)
theorem w_special (S : WSt p l e R s m args below meth c Z n0 T h k n) {own : String} {index : Nat} {y : MethodName} {bytes : ByteArray} {maxL : Nat} (hyn : y.name = "<init>") (hown : s.vm.findClass own = some m.cls) (w1 : (Jvm.Cond.methodLink own index y).before a0 Z = true) (w2 : (Jvm.Cond.instanceMethod y).before a0 Z = true) (w3 : (Jvm.Cond.initialized y.cls).before a0 Z = true) (w4 : (Jvm.Cond.code y bytes maxL none).before a0 Z = true) (hy : y.cls ≠ "java/lang/invoke/MethodHandle" ∧ y.cls ≠ "java/lang/invoke/VarHandle")
    {rm : Room} {as : Array Value} {Qc : Option Value → Heap → Prop} (C : WCon l Z n0 h y bytes maxL none [] rm as Qc) {W : Nat} (hf : rm.frames + 1 ≤ R.frames) (hl : W + (maxL + 11) + rm.locals ≤ R.locals) (hc : k + rm.cells ≤ R.cells) (hs : n + rm.slots ≤ R.slots)
    {g : JFrame} (hg : g.method = m) (hsize : g.locals.size = c.maxLocals) {argsL rest : List Value} {ps : List FieldType} {rt : Option FieldType} (hpd : parseMethodDescriptor y.desc = some ⟨ps, rt⟩) (hlen : argsL.length = ps.length) (hstack : g.stack = argsL.reverse ++ .ref a :: rest) (has : (Value.ref a :: argsL).toArray = as) (hW : 2 * g.monitorRoom + (rest.map fun v => v.category).sum ≤ W) (hd : decode c.code g.pc = .ok (.invokespecial index, 3))
    (r : ∀ T' h' v, WSt p l e R s m args below meth c Z n0 T' h' (k + rm.cells) (n + rm.slots) → Qc v h' → WGo p e below s n0 Q K N T' { g with pc := g.pc + 3, stack := v.toList ++ rest }) : WGo p e below s n0 Q K N T g := by
  obtain ⟨locs, X, e1, N1, n1, hx, hZ, hlk⟩ := S
  have B := backOf (W := W) (s := s) (args := args) (R := R) (p := p) (e := e) (below := below) (len := 3) (a0 := a0) (Q := fun v h L => Qc v h ∧ Fr n0 L) C hZ w4 w3 hf hl
  obtain ⟨v, vm1, ⟨T1, L1, k1, m1⟩, -, X1, ⟨Lc, hQ, l1, y1, z1⟩, st⟩ := X.specialBack hx (y := y) hyn hown (mvT hZ w1) (mvT hZ w2) (mvT hZ w4) hy B hg hsize (Steps.refl _) (lenOf hpd hlen) hstack hW hd (fun _ _ => ⟨has, e1, hc, hs⟩)
  dsimp only [Pt.U, Pt.locs, Pt.cells, Pt.slots] at X1 l1 y1 z1 st hQ
  subst l1 y1 z1
  exact WGo.st (fun _ q => st.trans q) (r _ _ v ⟨_, X1, rfl, Fr.app N1 hQ.2, n1, hx, hZ, hlk⟩ hQ.1)
theorem w_virtual (S : WSt p l e R s m args below meth c Z n0 T h k n) {own C : String} {index : Nat} {y : MethodName} {bytes : ByteArray} {maxL : Nat} {ret : Option FieldType} (hown : s.vm.findClass own = some m.cls) (w1 : (Jvm.Cond.methodLink own index y).before a0 Z = true) (w2 : (Jvm.Cond.declares y).before a0 Z = true) (w5 : (Jvm.Cond.selects C y y).before a0 Z = true) (w6 : (Jvm.Cond.instanceMethod y).before a0 Z = true) (w3 : (Jvm.Cond.initialized y.cls).before a0 Z = true) (w4 : (Jvm.Cond.code y bytes maxL ret).before a0 Z = true) (hy : y.cls ≠ "java/lang/invoke/MethodHandle" ∧ y.cls ≠ "java/lang/invoke/VarHandle") (E : Exa Z h a C)
    {rm : Room} {as : Array Value} {Qc : Option Value → Heap → Prop} (Cn : WCon l Z n0 h y bytes maxL ret [] rm as Qc) {W : Nat} (hf : rm.frames + 1 ≤ R.frames) (hl : W + (maxL + 11) + rm.locals ≤ R.locals) (hc : k + rm.cells ≤ R.cells) (hs : n + rm.slots ≤ R.slots)
    {g : JFrame} (hg : g.method = m) (hsize : g.locals.size = c.maxLocals) {argsL rest : List Value} {ps : List FieldType} {rt : Option FieldType} (hpd : parseMethodDescriptor y.desc = some ⟨ps, rt⟩) (hlen : argsL.length = ps.length) (hstack : g.stack = argsL.reverse ++ .ref a :: rest) (has : (Value.ref a :: argsL).toArray = as) (hW : 2 * g.monitorRoom + (rest.map fun v => v.category).sum ≤ W) (hd : decode c.code g.pc = .ok (.invokevirtual index, 3))
    (r : ∀ T' h' v, WSt p l e R s m args below meth c Z n0 T' h' (k + rm.cells) (n + rm.slots) → Qc v h' → WGo p e below s n0 Q K N T' { g with pc := g.pc + 3, stack := v.toList ++ rest }) : WGo p e below s n0 Q K N T g := by
  obtain ⟨locs, X, e1, N1, n1, hx, hZ, hlk⟩ := S
  have B := backOf (W := W) (s := s) (args := args) (R := R) (p := p) (e := e) (below := below) (len := 3) (a0 := a0) (Q := fun v h L => Qc v h ∧ Fr n0 L) Cn hZ w4 w3 hf hl
  obtain ⟨cq, kq, qa, qb, qc⟩ := isOf hZ e1 E
  obtain ⟨v, vm1, ⟨T1, L1, k1, m1⟩, -, X1, ⟨Lc, hQ, l1, y1, z1⟩, st⟩ := X.virtualBack hx (y := y) (z := y) hown (mvT hZ w1) (mvT hZ w2) (notFace_of_selects (args := #[]) (mvT hZ w5)) (mvT hZ w5) (mvT hZ w6) hy B qa qc hg hsize (Steps.refl _) (lenOf hpd hlen) hstack hW hd (fun _ _ => ⟨has, e1, hc, hs⟩)
  dsimp only [Pt.U, Pt.locs, Pt.cells, Pt.slots] at X1 l1 y1 z1 st hQ
  subst l1 y1 z1
  exact WGo.st (fun _ q => st.trans q) (r _ _ v ⟨_, X1, rfl, Fr.app N1 hQ.2, n1, hx, hZ, hlk⟩ hQ.1)
theorem w_private (S : WSt p l e R s m args below meth c Z n0 T h k n) {own C : String} {index : Nat} {y z : MethodName} {bytes : ByteArray} {maxL : Nat} {ret : Option FieldType} (hown : s.vm.findClass own = some m.cls) (w1 : (Jvm.Cond.methodLink own index y).before a0 Z = true) (w6 : (Jvm.Cond.instanceMethod y).before a0 Z = true) (w7 : (Jvm.Cond.privateMethod y).before a0 Z = true) (w3 : (Jvm.Cond.initialized y.cls).before a0 Z = true) (w4 : (Jvm.Cond.code y bytes maxL ret).before a0 Z = true) (w5 : (Jvm.Cond.selects z.cls z z).before a0 Z = true) (hzy : z.cls = y.cls) (hy : y.cls ≠ "java/lang/invoke/MethodHandle" ∧ y.cls ≠ "java/lang/invoke/VarHandle") (E : Exa Z h a C)
    {rm : Room} {as : Array Value} {Qc : Option Value → Heap → Prop} (Cn : WCon l Z n0 h y bytes maxL ret [] rm as Qc) {W : Nat} (hf : rm.frames + 1 ≤ R.frames) (hl : W + (maxL + 11) + rm.locals ≤ R.locals) (hc : k + rm.cells ≤ R.cells) (hs : n + rm.slots ≤ R.slots)
    {g : JFrame} (hg : g.method = m) (hsize : g.locals.size = c.maxLocals) {argsL rest : List Value} {ps : List FieldType} {rt : Option FieldType} (hpd : parseMethodDescriptor y.desc = some ⟨ps, rt⟩) (hlen : argsL.length = ps.length) (hstack : g.stack = argsL.reverse ++ .ref a :: rest) (has : (Value.ref a :: argsL).toArray = as) (hW : 2 * g.monitorRoom + (rest.map fun v => v.category).sum ≤ W) (hd : decode c.code g.pc = .ok (.invokevirtual index, 3))
    (r : ∀ T' h' v, WSt p l e R s m args below meth c Z n0 T' h' (k + rm.cells) (n + rm.slots) → Qc v h' → WGo p e below s n0 Q K N T' { g with pc := g.pc + 3, stack := v.toList ++ rest }) : WGo p e below s n0 Q K N T g := by
  obtain ⟨locs, X, e1, N1, n1, hx, hZ, hlk⟩ := S
  have B := backOf (W := W) (s := s) (args := args) (R := R) (p := p) (e := e) (below := below) (len := 3) (a0 := a0) (Q := fun v h L => Qc v h ∧ Fr n0 L) Cn hZ w4 w3 hf hl
  have hpriv := Cond.privateMethod_at (mvP hZ w7 (args := #[]))
  have hsel : (Jvm.Cond.selects y.cls y y).before args s = true := by
    have q5 : (Jvm.Cond.selects z.cls z z).before args s = true := mvT hZ w5
    obtain ⟨c2, r2, m2, -, -, q3, -, kP, hkP, hkPi⟩ := Cond.selects_spec q5
    have hfc := findClass_of_methodNamed q3
    rw [hzy] at hfc
    exact selects_self_of_private hfc hkP hkPi hpriv (mvT hZ w6) hy
  obtain ⟨cq, q1, q2⟩ := E.cell
  obtain ⟨v, vm1, ⟨T1, L1, k1, m1⟩, -, X1, ⟨Lc, hQ, l1, y1, z1⟩, st⟩ := X.privateBack hx (y := y) hown (mvT hZ w1) (mvT hZ w6) hsel hpriv (mvT hZ w4) hy B hg hsize (Steps.refl _) (a := a) (by rw [e1]; exact q1) q2 (lenOf hpd hlen) hstack hW hd (fun _ _ => ⟨has, e1, hc, hs⟩)
  dsimp only [Pt.U, Pt.locs, Pt.cells, Pt.slots] at X1 l1 y1 z1 st hQ
  subst l1 y1 z1
  exact WGo.st (fun _ q => st.trans q) (r _ _ v ⟨_, X1, rfl, Fr.app N1 hQ.2, n1, hx, hZ, hlk⟩ hQ.1)
/-- objects -/
theorem w_objinit (S : WSt p l e R s m args below meth c Z n0 T h k n) {own : String} {idx : Nat} (hown : s.vm.findClass own = some m.cls) (w1 : (Jvm.Cond.methodLink own idx Lib.objectInit).before a0 Z = true) (w2 : (Jvm.Cond.instanceMethod Lib.objectInit).before a0 Z = true) (w3 : (Jvm.Cond.code Lib.objectInit ⟨#[0xb1]⟩ 1 none).before a0 Z = true)
    {g : JFrame} (hg : g.method = m) (hsize : g.locals.size = c.maxLocals) {rest : List Value} (hs : g.stack = .ref a :: rest) (hd : decode c.code g.pc = .ok (.invokespecial idx, 3)) (hf : 1 ≤ R.frames) {W : Nat} (hW : 2 * g.monitorRoom + (rest.map fun v => v.category).sum ≤ W) (hl : W + 12 ≤ R.locals)
    (r : ∀ T', WSt p l e R s m args below meth c Z n0 T' h k n → WGo p e below s n0 Q K N T' { g with pc := g.pc + 3, stack := rest }) : WGo p e below s n0 Q K N T g := by
  obtain ⟨locs, X, e1, N1, n1, hx, hZ, hlk⟩ := S
  obtain ⟨T', X', e', st⟩ := initO X hx hZ hown w1 w2 w3 e1 hg hsize hs hd hf hW hl
  exact WGo.st st (r T' ⟨locs, X', e', N1, n1, hx, hZ, hlk⟩)
theorem w_new (S : WSt p l e R s m args below meth c Z n0 T h k n) {own C : String} {index nn : Nat} (hown : s.vm.findClass own = some m.cls) (w : (Jvm.Cond.classLink own index C).before a0 Z = true) (wi : (Jvm.Cond.instantiable C nn).before a0 Z = true) (wz : (Jvm.Cond.initialized C).before a0 Z = true)
    {g : JFrame} (hg : g.method = m) (hd : decode c.code g.pc = .ok (.new index, 3)) (hc : k + 1 ≤ R.cells) (hl : n + nn ≤ R.slots)
    (r : ∀ T' h' a', WSt p l e R s m args below meth c Z n0 T' h' (k + 1) (n + nn) → Keep h h' [] → a' = h.size → n0 ≤ a' → Exa Z h' a' C → (∀ {O nm d : String} {ty : FieldType}, Laid Z a0 C O nm d → parseFieldDescriptor d = some ty → Fld Z h' a' O nm d (defaultValue ty)) → WGo p e below s n0 Q K N T' { g with pc := g.pc + 3, stack := .ref a' :: g.stack }) : WGo p e below s n0 Q K N T g := by
  have hge := S.ge
  obtain ⟨locs, X, e1, N1, n1, hx, hZ, hlk⟩ := S
  obtain ⟨T', h', X', e', E', A', D', -, st⟩ := newO X hx hZ hown w wi wz e1 hg hd hc hl
  exact WGo.st st (r T' h' _ ⟨locs, X', e', N1, n1, hx, hZ, hlk⟩ (keep_ext E' _) rfl hge A' D')
theorem w_getfield (S : WSt p l e R s m args below meth c Z n0 T h k n) {own R0 O f d : String} {index : Nat} (hown : s.vm.findClass own = some m.cls) (w : (Jvm.Cond.fieldLink own index R0 f d).before a0 Z = true) (via : Via Z R0 O f d) {v : Value} (F : Fld Z h a O f d v) {g : JFrame} (hg : g.method = m) {rest : List Value} (hs : g.stack = .ref a :: rest) (hd : decode c.code g.pc = .ok (.getfield index, 3))
    (r : ∀ T', WSt p l e R s m args below meth c Z n0 T' h k n → WGo p e below s n0 Q K N T' { g with pc := g.pc + 3, stack := v :: rest }) : WGo p e below s n0 Q K N T g := by
  obtain ⟨locs, X, e1, N1, n1, hx, hZ, hlk⟩ := S
  obtain ⟨T', X', e', st⟩ := getF X hx hZ hown (host := "") (Or.inl w) via e1 F hg hs hd
  exact WGo.st st (r T' ⟨locs, X', e', N1, n1, hx, hZ, hlk⟩)
theorem w_putfield (S : WSt p l e R s m args below meth c Z n0 T h k n) {own R0 O f d C : String} {index kk : Nat} {ty : FieldType} (hown : s.vm.findClass own = some m.cls) (w : (Jvm.Cond.fieldLink own index R0 f d).before a0 Z = true) (via : Via Z R0 O f d) {v old : Value} (F : Fld Z h a O f d old) (E : Exa Z h a C)
    (L : (Jvm.Cond.lays C O f d).before a0 Z = true ∨ ((Jvm.Cond.laysFinal C O f d).before a0 Z = true ∧ own = O ∧ meth.name = "<init>")) (wi : (Jvm.Cond.instantiable C kk).before a0 Z = true) (ga : n0 ≤ a)
    (hty : parseFieldDescriptor d = some ty) (hn : narrow ty v = v) (hf : fits ty v = true) {g : JFrame} (hg : g.method = m) {rest : List Value} (hs : g.stack = v :: .ref a :: rest) (hd : decode c.code g.pc = .ok (.putfield index, 3))
    (r : ∀ T' h', WSt p l e R s m args below meth c Z n0 T' h' k n → Wr h h' a (Jvm.RoadKit.slotOf Z O f d) v → Keep h h' [a] → WGo p e below s n0 Q K N T' { g with pc := g.pc + 3, stack := rest }) : WGo p e below s n0 Q K N T g := by
  obtain ⟨locs, X, e1, N1, n1, hx, hZ, hlk⟩ := S
  obtain ⟨T', h', X', e', W', st⟩ := putF X hx hZ hown (host := "") (Or.inl w) via e1 F E L wi hty hn hf hg hs hd
  exact WGo.st st (r T' h' ⟨_, X', e', Fr.snoc X' N1 ga, n1, hx, hZ, hlk⟩ W' (Keep.of_wr W'))
theorem w_getstatic (S : WSt p l e R s m args below meth c Z n0 T h k n) {own R0 O f d : String} {index : Nat} (hown : s.vm.findClass own = some m.cls) (w : (Jvm.Cond.fieldLink own index R0 f d).before a0 Z = true) (via : Via Z R0 O f d) {v : Value} (F : Sta Z h O f d v) {g : JFrame} (hg : g.method = m) (hd : decode c.code g.pc = .ok (.getstatic index, 3))
    (r : ∀ T', WSt p l e R s m args below meth c Z n0 T' h k n → WGo p e below s n0 Q K N T' { g with pc := g.pc + 3, stack := v :: g.stack }) : WGo p e below s n0 Q K N T g := by
  obtain ⟨locs, X, e1, N1, n1, hx, hZ, hlk⟩ := S
  obtain ⟨T', X', e', st⟩ := getS X hx hZ hown (host := "") w via e1 F hg hd
  exact WGo.st st (r T' ⟨locs, X', e', N1, n1, hx, hZ, hlk⟩)
/-- comparisons of longs -/
theorem cl_lt {x y : Int64} (q : x < y) : lcmpW x y = -1 := Int32.toInt_inj.mp ((c_lcmp x y).1 (Int64.lt_iff_toInt_lt.mp q))
theorem cl_eq {x y : Int64} (q : x = y) : lcmpW x y = 0 := Int32.toInt_inj.mp ((c_lcmp x y).2.1 (by rw [q]))
theorem cl_gt {x y : Int64} (q : y < x) : lcmpW x y = 1 := Int32.toInt_inj.mp ((c_lcmp x y).2.2 (Int64.lt_iff_toInt_lt.mp q))
theorem cl_tri (x y : Int64) : x < y ∨ x = y ∨ y < x := by
  simp only [Int64.lt_iff_toInt_lt]
  rcases Int.lt_trichotomy x.toInt y.toInt with q | q | q
  · exact Or.inl q
  · exact Or.inr (Or.inl (Int64.toInt_inj.mp q))
  · exact Or.inr (Or.inr q)
theorem tltJ {x y : Int64} (q : x < y) : ifCond.holds .lt (lcmpW x y) = true ∧ ifCond.holds .ge (lcmpW x y) = false := by rw [cl_lt q]; decide
theorem fltJ {x y : Int64} (q : ¬ x < y) : ifCond.holds .lt (lcmpW x y) = false ∧ ifCond.holds .ge (lcmpW x y) = true := by
  rcases cl_tri x y with r | r | r
  · exact absurd r q
  · rw [cl_eq r]; decide
  · rw [cl_gt r]; decide
theorem tgtJ {x y : Int64} (q : y < x) : ifCond.holds .gt (lcmpW x y) = true ∧ ifCond.holds .le (lcmpW x y) = false := by rw [cl_gt q]; decide
theorem fgtJ {x y : Int64} (q : ¬ y < x) : ifCond.holds .gt (lcmpW x y) = false ∧ ifCond.holds .le (lcmpW x y) = true := by
  rcases cl_tri x y with r | r | r
  · rw [cl_lt r]; decide
  · rw [cl_eq r]; decide
  · exact absurd r q
theorem teqJ {x y : Int64} (q : x = y) : ifCond.holds .eq (lcmpW x y) = true ∧ ifCond.holds .ne (lcmpW x y) = false := by rw [cl_eq q]; decide
theorem feqJ {x y : Int64} (q : ¬ x = y) : ifCond.holds .eq (lcmpW x y) = false ∧ ifCond.holds .ne (lcmpW x y) = true := by
  rcases cl_tri x y with r | r | r
  · rw [cl_lt r]; decide
  · exact absurd r q
  · rw [cl_gt r]; decide
theorem w_dupX2 {tb : Tables} [Ours tb] {target : State} {g : JFrame} (h : At T m c below) (hx : tb.exec = Jvm.exec) (hg : g.method = m) {x y z : Value} {rest : List Value} (hd : decode c.code g.pc = .ok (.dup_x2, 1)) (hs : g.stack = x :: y :: z :: rest) (hc : x.category = 1) (hc1 : y.category = 1) (hc2 : z.category = 1)
    (hr : Steps tb e below (T.setTop { g with pc := g.pc + 1, stack := x :: y :: z :: x :: rest }) target) : Steps tb e below (T.setTop g) target := by
  subst hg
  jvm_step h [h.top, hx, hd, hs, hc, hc1, hc2]
  exact hr
end Core
section Arith
theorem rem_rng (x y : Int32) (d : Int) (hy : y.toInt = d) (hd : 0 < d) : 0 ≤ ((x &&& (2147483647 : Int32)) % y).toInt ∧ ((x &&& (2147483647 : Int32)) % y).toInt < d := by
  have h1 := c_mask x 2147483647 31 (by decide) (by decide)
  have h2 := (c_irem (x &&& 2147483647) y d hy).1 (by omega)
  rw [h2]
  exact ⟨Int.emod_nonneg _ (by omega), Int.emod_lt_of_pos _ hd⟩
theorem byte_idem (x : Int32) : x.toInt8.toInt32.toInt8.toInt32 = x.toInt8.toInt32 := by
  have h1 := c_i2b x
  have h2 := c_i2b x.toInt8.toInt32
  apply Int32.toInt_inj.mp
  omega
theorem si_len (L : List Int32) (j v : Int32) : (si L j v).length = L.length := by simp [si]
theorem gi_same (L : List Int32) (j v : Int32) (h0 : 0 ≤ j.toInt) (h1 : j.toInt < L.length) : gi (si L j v) j = v := by
  have q : j.toNatClampNeg < L.length := by simp only [Int32.toNatClampNeg]; omega
  simp [gi, si, q]
theorem gi_other (L : List Int32) (i j v : Int32) (h0 : 0 ≤ i.toInt) (h1 : 0 ≤ j.toInt) (hne : i.toInt ≠ j.toInt) : gi (si L j v) i = gi L i := by
  have q : j.toNatClampNeg ≠ i.toNatClampNeg := by simp only [Int32.toNatClampNeg]; omega
  simp [gi, si, List.getElem?_set, q]
theorem add_c {x k : Int32} {z : Int} (hz : k.toInt = z) (h0 : -2147483648 ≤ x.toInt + z) (h1 : x.toInt + z < 2147483648) : (x + k).toInt = x.toInt + z := by
  have h := c_iadd x k
  have r := rng32 (x + k)
  omega
theorem sub_c {x k : Int32} {z : Int} (hz : k.toInt = z) (h0 : -2147483648 ≤ x.toInt - z) (h1 : x.toInt - z < 2147483648) : (x - k).toInt = x.toInt - z := by
  have h := c_isub x k
  have r := rng32 (x - k)
  omega
theorem two_st (L : List Int32) (p q x y : Int32) (p0 : 0 ≤ p.toInt) (p1 : p.toInt < L.length) (q0 : 0 ≤ q.toInt) (q1 : q.toInt < L.length) (ne : p.toInt ≠ q.toInt) : gi (si (si L p x) q y) p = x ∧ gi (si (si L p x) q y) q = y :=
  ⟨by rw [gi_other _ _ _ _ p0 q0 ne]; exact gi_same L p x p0 p1, gi_same _ q y q0 (by rw [si_len]; exact q1)⟩
end Arith

def minF (a b : Int32) : Int32 := if b < a then b else a
def maxF (a b : Int64) : Int64 := if a < b then b else a
def leftF (rs ow : Int64) (rd : Int32) : Int64 := if rd = (0 : Int32) then ow else ow + rs
def sp2 (R O : Int64) (sp : Int32) : Int64 × Int64 × Int32 := if O < (0 : Int64) then (maxF R (0 : Int64), (0 : Int64), (1 : Int32)) else if R < (0 : Int64) then (maxF R (0 : Int64), (0 : Int64), (1 : Int32)) else (R, O, sp)
def spendF (rs ow : Int64) (rd sp : Int32) (n : Int64) : Int64 × Int64 × Int32 := if ow - n < (0 : Int64) then (if rd = (0 : Int32) then sp2 rs (ow - n) sp else sp2 (rs + (ow - n)) (0 : Int64) sp) else sp2 rs (ow - n) sp
def spOk (x : Int64 × Int64 × Int32) : Int32 := if x.2.2 = (0 : Int32) then (1 : Int32) else (0 : Int32)
def autoF (len pas c : Int32) : Int64 := ((((minF c (256 : Int32)).toInt64) + (pas.toInt64)) * ((len.toInt64) + (1 : Int64))) + (1024 : Int64)
def backF (len : Int32) : Int64 := (33 : Int64) * ((len.toInt64) + (1 : Int64))
theorem sp2_bool (R O : Int64) (sp : Int32) (h : sp = 0 ∨ sp = 1) : (sp2 R O sp).2.2 = 0 ∨ (sp2 R O sp).2.2 = 1 := by
  unfold sp2; split
  · exact Or.inr rfl
  · split
    · exact Or.inr rfl
    · exact h
theorem spend_bool (rs ow : Int64) (rd sp : Int32) (n : Int64) (h : sp = 0 ∨ sp = 1) : (spendF rs ow rd sp n).2.2 = 0 ∨ (spendF rs ow rd sp n).2.2 = 1 := by
  unfold spendF; split
  · split <;> exact sp2_bool _ _ _ h
  · exact sp2_bool _ _ _ h
theorem d_jdk_29_method_69_code_0 : decode jdk_29_method_69_code 0 = .ok (.iload_n 0, 1) := by decide +kernel
theorem d_jdk_29_method_69_code_1 : decode jdk_29_method_69_code 1 = .ok (.iload_n 1, 1) := by decide +kernel
theorem d_jdk_29_method_69_code_2 : decode jdk_29_method_69_code 2 = .ok (.if_icmp .gt 7, 3) := by decide +kernel
theorem d_jdk_29_method_69_code_5 : decode jdk_29_method_69_code 5 = .ok (.iload_n 0, 1) := by decide +kernel
theorem d_jdk_29_method_69_code_6 : decode jdk_29_method_69_code 6 = .ok (.goto 4, 3) := by decide +kernel
theorem d_jdk_29_method_69_code_9 : decode jdk_29_method_69_code 9 = .ok (.iload_n 1, 1) := by decide +kernel
theorem d_jdk_29_method_69_code_10 : decode jdk_29_method_69_code 10 = .ok (.ireturn, 1) := by decide +kernel
def QMi (Z : State) (n0 : Nat) (h0 : Heap) (p1 : Int32) (p2 : Int32) (v : Option Value) (h : Heap) : Prop := v = some (.int (minF p1 p2)) ∧ h = h0
theorem ef_Mi (m : MethodId) (p1 : Int32) (p2 : Int32) : entryFrame m #[(.int p1), (.int p2)] 2 = mkF m 0 #[.val (.int p1), .val (.int p2)] [] := by first | (simp [entryFrame, mkF, argsToLocals, Value.category, maxLocals]; done) | rfl
set_option maxRecDepth 65536 in
set_option maxHeartbeats 40000000 in
theorem rm_Mi (l : Launch) (Z : State) (a0 : Array Value) (hw : ∀ d ∈ tables_1, d.before a0 Z = true) (n0 : Nat) (h0 : Heap) (p1 : Int32) (p2 : Int32) (Z0 : n0 ≤ h0.size)  :
    WCon l Z n0 h0 (⟨"java/lang/Math", "min", "(II)I"⟩ : MethodName) jdk_29_method_69_code 2 (some .int) [] ({ frames := 0, cells := 0, slots := 0, locals := 0 } : Room) #[(.int p1), (.int p2)] (QMi Z n0 h0 p1 p2) := by
  refine WCon.of (by first | exact plainFor_of_name (by decide +kernel) | decide +kernel) Z0 ?_
  intro p e s m below meth c T hx hZ hby hml hown hnm hret S
  refine WGo.cast (ef_Mi m p1 p2) ?_
  show WGo _ _ _ _ _ _ _ _ T (mkF m 0 #[.val (.int p1), .val (.int p2)] [])
  refine WGo.st (fun _ q => XS.iloadN S.here hx rfl (hb hby d_jdk_29_method_69_code_0) rfl q) ?_
  show WGo _ _ _ _ _ _ _ _ T (mkF m 1 #[.val (.int p1), .val (.int p2)] [(.int p1)])
  refine WGo.st (fun _ q => XS.iloadN S.here hx rfl (hb hby d_jdk_29_method_69_code_1) rfl q) ?_
  show WGo _ _ _ _ _ _ _ _ T (mkF m 2 #[.val (.int p1), .val (.int p2)] [(.int p2), (.int p1)])
  by_cases c2 : p2 < p1
  · refine WGo.st (fun _ q => XS.icmpYes S.here hx rfl (pc0 := 2) (pc' := 9) rfl (hb hby d_jdk_29_method_69_code_2) rfl (tlt c2).2.2.1 (by decide) (by decide) q) ?_
    show WGo _ _ _ _ _ _ _ _ T (mkF m 9 #[.val (.int p1), .val (.int p2)] [])
    refine WGo.st (fun _ q => XS.iloadN S.here hx rfl (hb hby d_jdk_29_method_69_code_9) rfl q) ?_
    show WGo _ _ _ _ _ _ _ _ T (mkF m 10 #[.val (.int p1), .val (.int p2)] [(.int p2)])
    refine w_retI S hret (hb hby d_jdk_29_method_69_code_10) (by decide) (by decide) ?_
    exact ⟨by simp [minF, *], rfl⟩
  · refine WGo.st (fun _ q => XS.icmpNo S.here hx rfl (hb hby d_jdk_29_method_69_code_2) rfl (flt c2).2.2.1 q) ?_
    show WGo _ _ _ _ _ _ _ _ T (mkF m 5 #[.val (.int p1), .val (.int p2)] [])
    refine WGo.st (fun _ q => XS.iloadN S.here hx rfl (hb hby d_jdk_29_method_69_code_5) rfl q) ?_
    show WGo _ _ _ _ _ _ _ _ T (mkF m 6 #[.val (.int p1), .val (.int p2)] [(.int p1)])
    refine WGo.st (fun _ q => XS.goto S.here hx rfl (pc0 := 6) (pc' := 10) rfl (hb hby d_jdk_29_method_69_code_6) (by decide) (by decide) q) ?_
    show WGo _ _ _ _ _ _ _ _ T (mkF m 10 #[.val (.int p1), .val (.int p2)] [(.int p1)])
    refine w_retI S hret (hb hby d_jdk_29_method_69_code_10) (by decide) (by decide) ?_
    exact ⟨by simp [minF, *], rfl⟩
theorem d_jdk_29_method_66_code_0 : decode jdk_29_method_66_code 0 = .ok (.lload_n 0, 1) := by decide +kernel
theorem d_jdk_29_method_66_code_1 : decode jdk_29_method_66_code 1 = .ok (.lload_n 2, 1) := by decide +kernel
theorem d_jdk_29_method_66_code_2 : decode jdk_29_method_66_code 2 = .ok (.lcmp, 1) := by decide +kernel
theorem d_jdk_29_method_66_code_3 : decode jdk_29_method_66_code 3 = .ok (.ifCond .lt 7, 3) := by decide +kernel
theorem d_jdk_29_method_66_code_6 : decode jdk_29_method_66_code 6 = .ok (.lload_n 0, 1) := by decide +kernel
theorem d_jdk_29_method_66_code_7 : decode jdk_29_method_66_code 7 = .ok (.goto 4, 3) := by decide +kernel
theorem d_jdk_29_method_66_code_10 : decode jdk_29_method_66_code 10 = .ok (.lload_n 2, 1) := by decide +kernel
theorem d_jdk_29_method_66_code_11 : decode jdk_29_method_66_code 11 = .ok (.lreturn, 1) := by decide +kernel
def QMx (Z : State) (n0 : Nat) (h0 : Heap) (p1 : Int64) (p2 : Int64) (v : Option Value) (h : Heap) : Prop := v = some (.long (maxF p1 p2)) ∧ h = h0
theorem ef_Mx (m : MethodId) (p1 : Int64) (p2 : Int64) : entryFrame m #[(.long p1), (.long p2)] 4 = mkF m 0 #[.val (.long p1), .second, .val (.long p2), .second] [] := by first | (simp [entryFrame, mkF, argsToLocals, Value.category, maxLocals]; done) | rfl
set_option maxRecDepth 65536 in
set_option maxHeartbeats 40000000 in
theorem rm_Mx (l : Launch) (Z : State) (a0 : Array Value) (hw : ∀ d ∈ tables_1, d.before a0 Z = true) (n0 : Nat) (h0 : Heap) (p1 : Int64) (p2 : Int64) (Z0 : n0 ≤ h0.size)  :
    WCon l Z n0 h0 (⟨"java/lang/Math", "max", "(JJ)J"⟩ : MethodName) jdk_29_method_66_code 4 (some .long) [] ({ frames := 0, cells := 0, slots := 0, locals := 0 } : Room) #[(.long p1), (.long p2)] (QMx Z n0 h0 p1 p2) := by
  refine WCon.of (by first | exact plainFor_of_name (by decide +kernel) | decide +kernel) Z0 ?_
  intro p e s m below meth c T hx hZ hby hml hown hnm hret S
  refine WGo.cast (ef_Mx m p1 p2) ?_
  show WGo _ _ _ _ _ _ _ _ T (mkF m 0 #[.val (.long p1), .second, .val (.long p2), .second] [])
  refine WGo.st (fun _ q => XS.lloadN S.here hx rfl (hb hby d_jdk_29_method_66_code_0) rfl q) ?_
  show WGo _ _ _ _ _ _ _ _ T (mkF m 1 #[.val (.long p1), .second, .val (.long p2), .second] [(.long p1)])
  refine WGo.st (fun _ q => XS.lloadN S.here hx rfl (hb hby d_jdk_29_method_66_code_1) rfl q) ?_
  show WGo _ _ _ _ _ _ _ _ T (mkF m 2 #[.val (.long p1), .second, .val (.long p2), .second] [(.long p2), (.long p1)])
  refine WGo.st (fun _ q => XS.lcmp S.here hx rfl (hb hby d_jdk_29_method_66_code_2) rfl q) ?_
  show WGo _ _ _ _ _ _ _ _ T (mkF m 3 #[.val (.long p1), .second, .val (.long p2), .second] [(.int (lcmpW p1 p2))])
  by_cases c3 : p1 < p2
  · refine WGo.st (fun _ q => XS.ifYes S.here hx rfl (pc0 := 3) (pc' := 10) rfl (hb hby d_jdk_29_method_66_code_3) rfl (tltJ c3).1 (by decide) (by decide) q) ?_
    show WGo _ _ _ _ _ _ _ _ T (mkF m 10 #[.val (.long p1), .second, .val (.long p2), .second] [])
    refine WGo.st (fun _ q => XS.lloadN S.here hx rfl (hb hby d_jdk_29_method_66_code_10) rfl q) ?_
    show WGo _ _ _ _ _ _ _ _ T (mkF m 11 #[.val (.long p1), .second, .val (.long p2), .second] [(.long p2)])
    refine w_retJ S hret (hb hby d_jdk_29_method_66_code_11) (by decide) (by decide) ?_
    exact ⟨by simp [maxF, *], rfl⟩
  · refine WGo.st (fun _ q => XS.ifNo S.here hx rfl (hb hby d_jdk_29_method_66_code_3) rfl (fltJ c3).1 q) ?_
    show WGo _ _ _ _ _ _ _ _ T (mkF m 6 #[.val (.long p1), .second, .val (.long p2), .second] [])
    refine WGo.st (fun _ q => XS.lloadN S.here hx rfl (hb hby d_jdk_29_method_66_code_6) rfl q) ?_
    show WGo _ _ _ _ _ _ _ _ T (mkF m 7 #[.val (.long p1), .second, .val (.long p2), .second] [(.long p1)])
    refine WGo.st (fun _ q => XS.goto S.here hx rfl (pc0 := 7) (pc' := 11) rfl (hb hby d_jdk_29_method_66_code_7) (by decide) (by decide) q) ?_
    show WGo _ _ _ _ _ _ _ _ T (mkF m 11 #[.val (.long p1), .second, .val (.long p2), .second] [(.long p1)])
    refine w_retJ S hret (hb hby d_jdk_29_method_66_code_11) (by decide) (by decide) ?_
    exact ⟨by simp [maxF, *], rfl⟩
theorem d_prog_49_method_1_code_0 : decode prog_49_method_1_code 0 = .ok (.aload_n 0, 1) := by decide +kernel
theorem d_prog_49_method_1_code_1 : decode prog_49_method_1_code 1 = .ok (.invokespecial 1, 3) := by decide +kernel
theorem d_prog_49_method_1_code_4 : decode prog_49_method_1_code 4 = .ok (.aload_n 0, 1) := by decide +kernel
theorem d_prog_49_method_1_code_5 : decode prog_49_method_1_code 5 = .ok (.lload_n 1, 1) := by decide +kernel
theorem d_prog_49_method_1_code_6 : decode prog_49_method_1_code 6 = .ok (.putfield 7, 3) := by decide +kernel
theorem d_prog_49_method_1_code_9 : decode prog_49_method_1_code 9 = .ok (.return_, 1) := by decide +kernel
def QI (Z : State) (n0 : Nat) (h0 : Heap) (a1 : Addr) (p2 : Int64) (v : Option Value) (h : Heap) : Prop := v = none ∧ Keep h0 h [a1] ∧ Exa Z h a1 "com/example/assay_shapes/assayshapes/RegexBudget" ∧ Fld Z h a1 "com/example/assay_shapes/assayshapes/RegexBudget" "mReserve" "J" (.long p2) ∧ Fld Z h a1 "com/example/assay_shapes/assayshapes/RegexBudget" "mOwn" "J" (.long (0 : Int64)) ∧ Fld Z h a1 "com/example/assay_shapes/assayshapes/RegexBudget" "mReserved" "Z" (.int (0 : Int32)) ∧ Fld Z h a1 "com/example/assay_shapes/assayshapes/RegexBudget" "mSpent" "Z" (.int (0 : Int32))
theorem ef_I (m : MethodId) (a1 : Addr) (p2 : Int64) : entryFrame m #[(.ref a1), (.long p2)] 3 = mkF m 0 #[.val (.ref a1), .val (.long p2), .second] [] := by first | (simp [entryFrame, mkF, argsToLocals, Value.category, maxLocals]; done) | rfl
set_option maxRecDepth 65536 in
set_option maxHeartbeats 40000000 in
theorem rm_I (l : Launch) (Z : State) (a0 : Array Value) (hw : ∀ d ∈ tables_1, d.before a0 Z = true) (n0 : Nat) (h0 : Heap) (a1 : Addr) (p2 : Int64) (Z0 : n0 ≤ h0.size) (g1 : n0 ≤ a1) (E1 : Exa Z h0 a1 "com/example/assay_shapes/assayshapes/RegexBudget") (F_mReserve : Fld Z h0 a1 "com/example/assay_shapes/assayshapes/RegexBudget" "mReserve" "J" (.long (0 : Int64))) (F_mOwn : Fld Z h0 a1 "com/example/assay_shapes/assayshapes/RegexBudget" "mOwn" "J" (.long (0 : Int64))) (F_mReserved : Fld Z h0 a1 "com/example/assay_shapes/assayshapes/RegexBudget" "mReserved" "Z" (.int (0 : Int32))) (F_mSpent : Fld Z h0 a1 "com/example/assay_shapes/assayshapes/RegexBudget" "mSpent" "Z" (.int (0 : Int32))) :
    WCon l Z n0 h0 (⟨"com/example/assay_shapes/assayshapes/RegexBudget", "<init>", "(J)V"⟩ : MethodName) prog_49_method_1_code 3 none [] ({ frames := 1, cells := 0, slots := 0, locals := 12 } : Room) #[(.ref a1), (.long p2)] (QI Z n0 h0 a1 p2) := by
  refine WCon.of (by first | exact plainFor_of_name (by decide +kernel) | decide +kernel) Z0 ?_
  intro p e s m below meth c T hx hZ hby hml hown hnm hret S
  refine WGo.cast (ef_I m a1 p2) ?_
  show WGo _ _ _ _ _ _ _ _ T (mkF m 0 #[.val (.ref a1), .val (.long p2), .second] [])
  refine WGo.st (fun _ q => XS.aloadN S.here hx rfl (hb hby d_prog_49_method_1_code_0) rfl rfl q) ?_
  show WGo _ _ _ _ _ _ _ _ T (mkF m 1 #[.val (.ref a1), .val (.long p2), .second] [(.ref a1)])
  refine w_objinit S hown (hw _ (List.mem_of_getElem? (i := 8) rfl)) (hw _ (List.mem_of_getElem? (i := 9) rfl)) (hw _ (List.mem_of_getElem? (i := 10) rfl)) rfl (by rw [hml]; rfl) rfl (hb hby d_prog_49_method_1_code_1) (by decide) (W := 0) (by show 2 * 0 + _ ≤ _; exact Nat.le_of_eq rfl) (by decide) ?_
  intro T1 S2
  show WGo _ _ _ _ _ _ _ _ T1 (mkF m 4 #[.val (.ref a1), .val (.long p2), .second] [])
  refine WGo.st (fun _ q => XS.aloadN S2.here hx rfl (hb hby d_prog_49_method_1_code_4) rfl rfl q) ?_
  show WGo _ _ _ _ _ _ _ _ T1 (mkF m 5 #[.val (.ref a1), .val (.long p2), .second] [(.ref a1)])
  refine WGo.st (fun _ q => XS.lloadN S2.here hx rfl (hb hby d_prog_49_method_1_code_5) rfl q) ?_
  show WGo _ _ _ _ _ _ _ _ T1 (mkF m 6 #[.val (.ref a1), .val (.long p2), .second] [(.long p2), (.ref a1)])
  refine w_putfield S2 hown (hw _ (List.mem_of_getElem? (i := 11) rfl)) Via.refl F_mReserve E1 (Or.inl (hw _ (List.mem_of_getElem? (i := 12) rfl))) (hw _ (List.mem_of_getElem? (i := 3) rfl)) g1 (ty := .long) (by decide) rfl rfl rfl rfl (hb hby d_prog_49_method_1_code_6) ?_
  intro T3 h4 S5 W7 K6
  have P8 := Keep.trans (Keep.refl h0 [a1]) K6 (allS (Or.inl (List.mem_of_getElem? (i := 0) rfl)) all0)
  have f9 := Exa.keep E1 K6
  have f10 : Fld Z h4 a1 "com/example/assay_shapes/assayshapes/RegexBudget" "mReserve" "J" (.long p2) := Fld.same W7 F_mReserve
  have f11 := Fld.other W7 F_mOwn (Or.inr (slot_ne (a0 := a0) (C := "com/example/assay_shapes/assayshapes/RegexBudget") (Or.inl (hw _ (List.mem_of_getElem? (i := 19) rfl))) (Or.inl (hw _ (List.mem_of_getElem? (i := 12) rfl))) (by decide) (t := .long) (by decide) (t' := .long) (by decide)))
  have f12 := Fld.other W7 F_mReserved (Or.inr (slot_ne (a0 := a0) (C := "com/example/assay_shapes/assayshapes/RegexBudget") (Or.inl (hw _ (List.mem_of_getElem? (i := 21) rfl))) (Or.inl (hw _ (List.mem_of_getElem? (i := 12) rfl))) (by decide) (t := .boolean) (by decide) (t' := .long) (by decide)))
  have f13 := Fld.other W7 F_mSpent (Or.inr (slot_ne (a0 := a0) (C := "com/example/assay_shapes/assayshapes/RegexBudget") (Or.inl (hw _ (List.mem_of_getElem? (i := 27) rfl))) (Or.inl (hw _ (List.mem_of_getElem? (i := 12) rfl))) (by decide) (t := .boolean) (by decide) (t' := .long) (by decide)))
  show WGo _ _ _ _ _ _ _ _ T3 (mkF m 9 #[.val (.ref a1), .val (.long p2), .second] [])
  refine w_retV S5 hret (hb hby d_prog_49_method_1_code_9) (by decide) (by decide) ?_
  exact ⟨rfl, P8, f9, f10, f11, f12, f13⟩
theorem d_prog_49_method_4_code_0 : decode prog_49_method_4_code 0 = .ok (.aload_n 0, 1) := by decide +kernel
theorem d_prog_49_method_4_code_1 : decode prog_49_method_4_code 1 = .ok (.lload_n 1, 1) := by decide +kernel
theorem d_prog_49_method_4_code_2 : decode prog_49_method_4_code 2 = .ok (.putfield 27, 3) := by decide +kernel
theorem d_prog_49_method_4_code_5 : decode prog_49_method_4_code 5 = .ok (.aload_n 0, 1) := by decide +kernel
theorem d_prog_49_method_4_code_6 : decode prog_49_method_4_code 6 = .ok (.iload_n 3, 1) := by decide +kernel
theorem d_prog_49_method_4_code_7 : decode prog_49_method_4_code 7 = .ok (.putfield 30, 3) := by decide +kernel
theorem d_prog_49_method_4_code_10 : decode prog_49_method_4_code 10 = .ok (.aload_n 0, 1) := by decide +kernel
theorem d_prog_49_method_4_code_11 : decode prog_49_method_4_code 11 = .ok (.iconst 0, 1) := by decide +kernel
theorem d_prog_49_method_4_code_12 : decode prog_49_method_4_code 12 = .ok (.putfield 34, 3) := by decide +kernel
theorem d_prog_49_method_4_code_15 : decode prog_49_method_4_code 15 = .ok (.return_, 1) := by decide +kernel
def QB (Z : State) (n0 : Nat) (h0 : Heap) (a1 : Addr) (rs : Int64) (ow : Int64) (rd : Int32) (sp : Int32) (p2 : Int64) (p3 : Int32) (v : Option Value) (h : Heap) : Prop := v = none ∧ Keep h0 h [a1] ∧ Exa Z h a1 "com/example/assay_shapes/assayshapes/RegexBudget" ∧ Fld Z h a1 "com/example/assay_shapes/assayshapes/RegexBudget" "mReserve" "J" (.long rs) ∧ Fld Z h a1 "com/example/assay_shapes/assayshapes/RegexBudget" "mOwn" "J" (.long p2) ∧ Fld Z h a1 "com/example/assay_shapes/assayshapes/RegexBudget" "mReserved" "Z" (.int p3) ∧ Fld Z h a1 "com/example/assay_shapes/assayshapes/RegexBudget" "mSpent" "Z" (.int (0 : Int32))
theorem ef_B (m : MethodId) (a1 : Addr) (p2 : Int64) (p3 : Int32) : entryFrame m #[(.ref a1), (.long p2), (.int p3)] 4 = mkF m 0 #[.val (.ref a1), .val (.long p2), .second, .val (.int p3)] [] := by first | (simp [entryFrame, mkF, argsToLocals, Value.category, maxLocals]; done) | rfl
set_option maxRecDepth 65536 in
set_option maxHeartbeats 40000000 in
theorem rm_B (l : Launch) (Z : State) (a0 : Array Value) (hw : ∀ d ∈ tables_1, d.before a0 Z = true) (n0 : Nat) (h0 : Heap) (a1 : Addr) (rs : Int64) (ow : Int64) (rd : Int32) (sp : Int32) (p2 : Int64) (p3 : Int32) (Z0 : n0 ≤ h0.size) (g1 : n0 ≤ a1) (E1 : Exa Z h0 a1 "com/example/assay_shapes/assayshapes/RegexBudget") (F_mReserve : Fld Z h0 a1 "com/example/assay_shapes/assayshapes/RegexBudget" "mReserve" "J" (.long rs)) (F_mOwn : Fld Z h0 a1 "com/example/assay_shapes/assayshapes/RegexBudget" "mOwn" "J" (.long ow)) (F_mReserved : Fld Z h0 a1 "com/example/assay_shapes/assayshapes/RegexBudget" "mReserved" "Z" (.int rd)) (F_mSpent : Fld Z h0 a1 "com/example/assay_shapes/assayshapes/RegexBudget" "mSpent" "Z" (.int sp)) (hz : p3 = 0 ∨ p3 = 1) :
    WCon l Z n0 h0 (⟨"com/example/assay_shapes/assayshapes/RegexBudget", "begin", "(JZ)V"⟩ : MethodName) prog_49_method_4_code 4 none [] ({ frames := 0, cells := 0, slots := 0, locals := 0 } : Room) #[(.ref a1), (.long p2), (.int p3)] (QB Z n0 h0 a1 rs ow rd sp p2 p3) := by
  refine WCon.of (by first | exact plainFor_of_name (by decide +kernel) | decide +kernel) Z0 ?_
  intro p e s m below meth c T hx hZ hby hml hown hnm hret S
  refine WGo.cast (ef_B m a1 p2 p3) ?_
  show WGo _ _ _ _ _ _ _ _ T (mkF m 0 #[.val (.ref a1), .val (.long p2), .second, .val (.int p3)] [])
  refine WGo.st (fun _ q => XS.aloadN S.here hx rfl (hb hby d_prog_49_method_4_code_0) rfl rfl q) ?_
  show WGo _ _ _ _ _ _ _ _ T (mkF m 1 #[.val (.ref a1), .val (.long p2), .second, .val (.int p3)] [(.ref a1)])
  refine WGo.st (fun _ q => XS.lloadN S.here hx rfl (hb hby d_prog_49_method_4_code_1) rfl q) ?_
  show WGo _ _ _ _ _ _ _ _ T (mkF m 2 #[.val (.ref a1), .val (.long p2), .second, .val (.int p3)] [(.long p2), (.ref a1)])
  refine w_putfield S hown (hw _ (List.mem_of_getElem? (i := 18) rfl)) Via.refl F_mOwn E1 (Or.inl (hw _ (List.mem_of_getElem? (i := 19) rfl))) (hw _ (List.mem_of_getElem? (i := 3) rfl)) g1 (ty := .long) (by decide) rfl rfl rfl rfl (hb hby d_prog_49_method_4_code_2) ?_
  intro T1 h2 S3 W5 K4
  have P6 := Keep.trans (Keep.refl h0 [a1]) K4 (allS (Or.inl (List.mem_of_getElem? (i := 0) rfl)) all0)
  have f7 := Exa.keep E1 K4
  have f8 := Fld.other W5 F_mReserve (Or.inr (slot_ne (a0 := a0) (C := "com/example/assay_shapes/assayshapes/RegexBudget") (Or.inl (hw _ (List.mem_of_getElem? (i := 12) rfl))) (Or.inl (hw _ (List.mem_of_getElem? (i := 19) rfl))) (by decide) (t := .long) (by decide) (t' := .long) (by decide)))
  have f9 : Fld Z h2 a1 "com/example/assay_shapes/assayshapes/RegexBudget" "mOwn" "J" (.long p2) := Fld.same W5 F_mOwn
  have f10 := Fld.other W5 F_mReserved (Or.inr (slot_ne (a0 := a0) (C := "com/example/assay_shapes/assayshapes/RegexBudget") (Or.inl (hw _ (List.mem_of_getElem? (i := 21) rfl))) (Or.inl (hw _ (List.mem_of_getElem? (i := 19) rfl))) (by decide) (t := .boolean) (by decide) (t' := .long) (by decide)))
  have f11 := Fld.other W5 F_mSpent (Or.inr (slot_ne (a0 := a0) (C := "com/example/assay_shapes/assayshapes/RegexBudget") (Or.inl (hw _ (List.mem_of_getElem? (i := 27) rfl))) (Or.inl (hw _ (List.mem_of_getElem? (i := 19) rfl))) (by decide) (t := .boolean) (by decide) (t' := .long) (by decide)))
  show WGo _ _ _ _ _ _ _ _ T1 (mkF m 5 #[.val (.ref a1), .val (.long p2), .second, .val (.int p3)] [])
  refine WGo.st (fun _ q => XS.aloadN S3.here hx rfl (hb hby d_prog_49_method_4_code_5) rfl rfl q) ?_
  show WGo _ _ _ _ _ _ _ _ T1 (mkF m 6 #[.val (.ref a1), .val (.long p2), .second, .val (.int p3)] [(.ref a1)])
  refine WGo.st (fun _ q => XS.iloadN S3.here hx rfl (hb hby d_prog_49_method_4_code_6) rfl q) ?_
  show WGo _ _ _ _ _ _ _ _ T1 (mkF m 7 #[.val (.ref a1), .val (.long p2), .second, .val (.int p3)] [(.int p3), (.ref a1)])
  refine w_putfield S3 hown (hw _ (List.mem_of_getElem? (i := 20) rfl)) Via.refl f10 f7 (Or.inl (hw _ (List.mem_of_getElem? (i := 21) rfl))) (hw _ (List.mem_of_getElem? (i := 3) rfl)) g1 (ty := .boolean) (by decide) (by rcases hz with rfl | rfl <;> rfl) (by rcases hz with rfl | rfl <;> rfl) rfl rfl (hb hby d_prog_49_method_4_code_7) ?_
  intro T12 h13 S14 W16 K15
  have P17 := Keep.trans P6 K15 (allS (Or.inl (List.mem_of_getElem? (i := 0) rfl)) all0)
  have f18 := Exa.keep f7 K15
  have f19 := Fld.other W16 f8 (Or.inr (slot_ne (a0 := a0) (C := "com/example/assay_shapes/assayshapes/RegexBudget") (Or.inl (hw _ (List.mem_of_getElem? (i := 12) rfl))) (Or.inl (hw _ (List.mem_of_getElem? (i := 21) rfl))) (by decide) (t := .long) (by decide) (t' := .boolean) (by decide)))
  have f20 := Fld.other W16 f9 (Or.inr (slot_ne (a0 := a0) (C := "com/example/assay_shapes/assayshapes/RegexBudget") (Or.inl (hw _ (List.mem_of_getElem? (i := 19) rfl))) (Or.inl (hw _ (List.mem_of_getElem? (i := 21) rfl))) (by decide) (t := .long) (by decide) (t' := .boolean) (by decide)))
  have f21 : Fld Z h13 a1 "com/example/assay_shapes/assayshapes/RegexBudget" "mReserved" "Z" (.int p3) := Fld.same W16 f10
  have f22 := Fld.other W16 f11 (Or.inr (slot_ne (a0 := a0) (C := "com/example/assay_shapes/assayshapes/RegexBudget") (Or.inl (hw _ (List.mem_of_getElem? (i := 27) rfl))) (Or.inl (hw _ (List.mem_of_getElem? (i := 21) rfl))) (by decide) (t := .boolean) (by decide) (t' := .boolean) (by decide)))
  show WGo _ _ _ _ _ _ _ _ T12 (mkF m 10 #[.val (.ref a1), .val (.long p2), .second, .val (.int p3)] [])
  refine WGo.st (fun _ q => XS.aloadN S14.here hx rfl (hb hby d_prog_49_method_4_code_10) rfl rfl q) ?_
  show WGo _ _ _ _ _ _ _ _ T12 (mkF m 11 #[.val (.ref a1), .val (.long p2), .second, .val (.int p3)] [(.ref a1)])
  refine WGo.st (fun _ q => XS.iconst S14.here hx rfl (hb hby d_prog_49_method_4_code_11) q) ?_
  show WGo _ _ _ _ _ _ _ _ T12 (mkF m 12 #[.val (.ref a1), .val (.long p2), .second, .val (.int p3)] [(.int (0 : Int32)), (.ref a1)])
  refine w_putfield S14 hown (hw _ (List.mem_of_getElem? (i := 26) rfl)) Via.refl f22 f18 (Or.inl (hw _ (List.mem_of_getElem? (i := 27) rfl))) (hw _ (List.mem_of_getElem? (i := 3) rfl)) g1 (ty := .boolean) (by decide) rfl rfl rfl rfl (hb hby d_prog_49_method_4_code_12) ?_
  intro T23 h24 S25 W27 K26
  have P28 := Keep.trans P17 K26 (allS (Or.inl (List.mem_of_getElem? (i := 0) rfl)) all0)
  have f29 := Exa.keep f18 K26
  have f30 := Fld.other W27 f19 (Or.inr (slot_ne (a0 := a0) (C := "com/example/assay_shapes/assayshapes/RegexBudget") (Or.inl (hw _ (List.mem_of_getElem? (i := 12) rfl))) (Or.inl (hw _ (List.mem_of_getElem? (i := 27) rfl))) (by decide) (t := .long) (by decide) (t' := .boolean) (by decide)))
  have f31 := Fld.other W27 f20 (Or.inr (slot_ne (a0 := a0) (C := "com/example/assay_shapes/assayshapes/RegexBudget") (Or.inl (hw _ (List.mem_of_getElem? (i := 19) rfl))) (Or.inl (hw _ (List.mem_of_getElem? (i := 27) rfl))) (by decide) (t := .long) (by decide) (t' := .boolean) (by decide)))
  have f32 := Fld.other W27 f21 (Or.inr (slot_ne (a0 := a0) (C := "com/example/assay_shapes/assayshapes/RegexBudget") (Or.inl (hw _ (List.mem_of_getElem? (i := 21) rfl))) (Or.inl (hw _ (List.mem_of_getElem? (i := 27) rfl))) (by decide) (t := .boolean) (by decide) (t' := .boolean) (by decide)))
  have f33 : Fld Z h24 a1 "com/example/assay_shapes/assayshapes/RegexBudget" "mSpent" "Z" (.int (0 : Int32)) := Fld.same W27 f22
  show WGo _ _ _ _ _ _ _ _ T23 (mkF m 15 #[.val (.ref a1), .val (.long p2), .second, .val (.int p3)] [])
  refine w_retV S25 hret (hb hby d_prog_49_method_4_code_15) (by decide) (by decide) ?_
  exact ⟨rfl, P28, f29, f30, f31, f32, f33⟩
theorem d_prog_49_method_3_code_0 : decode prog_49_method_3_code 0 = .ok (.aload_n 0, 1) := by decide +kernel
theorem d_prog_49_method_3_code_1 : decode prog_49_method_3_code 1 = .ok (.ldc2_w 25, 3) := by decide +kernel
theorem d_prog_49_method_3_code_4 : decode prog_49_method_3_code 4 = .ok (.iload_n 1, 1) := by decide +kernel
theorem d_prog_49_method_3_code_5 : decode prog_49_method_3_code 5 = .ok (.i2l, 1) := by decide +kernel
theorem d_prog_49_method_3_code_6 : decode prog_49_method_3_code 6 = .ok (.lconst 1, 1) := by decide +kernel
theorem d_prog_49_method_3_code_7 : decode prog_49_method_3_code 7 = .ok (.ladd, 1) := by decide +kernel
theorem d_prog_49_method_3_code_8 : decode prog_49_method_3_code 8 = .ok (.lmul, 1) := by decide +kernel
theorem d_prog_49_method_3_code_9 : decode prog_49_method_3_code 9 = .ok (.iconst 1, 1) := by decide +kernel
theorem d_prog_49_method_3_code_10 : decode prog_49_method_3_code 10 = .ok (.invokevirtual 21, 3) := by decide +kernel
theorem d_prog_49_method_3_code_13 : decode prog_49_method_3_code 13 = .ok (.return_, 1) := by decide +kernel
def QT (Z : State) (n0 : Nat) (h0 : Heap) (a1 : Addr) (rs : Int64) (ow : Int64) (rd : Int32) (sp : Int32) (p2 : Int32) (v : Option Value) (h : Heap) : Prop := v = none ∧ Keep h0 h [a1] ∧ Exa Z h a1 "com/example/assay_shapes/assayshapes/RegexBudget" ∧ Fld Z h a1 "com/example/assay_shapes/assayshapes/RegexBudget" "mReserve" "J" (.long rs) ∧ Fld Z h a1 "com/example/assay_shapes/assayshapes/RegexBudget" "mOwn" "J" (.long (backF p2)) ∧ Fld Z h a1 "com/example/assay_shapes/assayshapes/RegexBudget" "mReserved" "Z" (.int (1 : Int32)) ∧ Fld Z h a1 "com/example/assay_shapes/assayshapes/RegexBudget" "mSpent" "Z" (.int (0 : Int32))
theorem ef_T (m : MethodId) (a1 : Addr) (p2 : Int32) : entryFrame m #[(.ref a1), (.int p2)] 2 = mkF m 0 #[.val (.ref a1), .val (.int p2)] [] := by first | (simp [entryFrame, mkF, argsToLocals, Value.category, maxLocals]; done) | rfl
set_option maxRecDepth 65536 in
set_option maxHeartbeats 40000000 in
theorem rm_T (l : Launch) (Z : State) (a0 : Array Value) (hw : ∀ d ∈ tables_1, d.before a0 Z = true) (n0 : Nat) (h0 : Heap) (a1 : Addr) (rs : Int64) (ow : Int64) (rd : Int32) (sp : Int32) (p2 : Int32) (Z0 : n0 ≤ h0.size) (g1 : n0 ≤ a1) (E1 : Exa Z h0 a1 "com/example/assay_shapes/assayshapes/RegexBudget") (F_mReserve : Fld Z h0 a1 "com/example/assay_shapes/assayshapes/RegexBudget" "mReserve" "J" (.long rs)) (F_mOwn : Fld Z h0 a1 "com/example/assay_shapes/assayshapes/RegexBudget" "mOwn" "J" (.long ow)) (F_mReserved : Fld Z h0 a1 "com/example/assay_shapes/assayshapes/RegexBudget" "mReserved" "Z" (.int rd)) (F_mSpent : Fld Z h0 a1 "com/example/assay_shapes/assayshapes/RegexBudget" "mSpent" "Z" (.int sp)) :
    WCon l Z n0 h0 (⟨"com/example/assay_shapes/assayshapes/RegexBudget", "beginBacktracking", "(I)V"⟩ : MethodName) prog_49_method_3_code 2 none [] ({ frames := 1, cells := 0, slots := 0, locals := 15 } : Room) #[(.ref a1), (.int p2)] (QT Z n0 h0 a1 rs ow rd sp p2) := by
  refine WCon.of (by first | exact plainFor_of_name (by decide +kernel) | decide +kernel) Z0 ?_
  intro p e s m below meth c T hx hZ hby hml hown hnm hret S
  refine WGo.cast (ef_T m a1 p2) ?_
  show WGo _ _ _ _ _ _ _ _ T (mkF m 0 #[.val (.ref a1), .val (.int p2)] [])
  refine WGo.st (fun _ q => XS.aloadN S.here hx rfl (hb hby d_prog_49_method_3_code_0) rfl rfl q) ?_
  show WGo _ _ _ _ _ _ _ _ T (mkF m 1 #[.val (.ref a1), .val (.int p2)] [(.ref a1)])
  refine w_ldc2 S hown (hw _ (List.mem_of_getElem? (i := 34) rfl)) rfl (hb hby d_prog_49_method_3_code_1) ?_
  show WGo _ _ _ _ _ _ _ _ T (mkF m 4 #[.val (.ref a1), .val (.int p2)] [(.long (33 : Int64)), (.ref a1)])
  refine WGo.st (fun _ q => XS.iloadN S.here hx rfl (hb hby d_prog_49_method_3_code_4) rfl q) ?_
  show WGo _ _ _ _ _ _ _ _ T (mkF m 5 #[.val (.ref a1), .val (.int p2)] [(.int p2), (.long (33 : Int64)), (.ref a1)])
  refine WGo.st (fun _ q => XS.i2l S.here hx rfl (hb hby d_prog_49_method_3_code_5) rfl q) ?_
  show WGo _ _ _ _ _ _ _ _ T (mkF m 6 #[.val (.ref a1), .val (.int p2)] [(.long (p2.toInt64)), (.long (33 : Int64)), (.ref a1)])
  refine WGo.st (fun _ q => XS.lconst S.here hx rfl (hb hby d_prog_49_method_3_code_6) q) ?_
  show WGo _ _ _ _ _ _ _ _ T (mkF m 7 #[.val (.ref a1), .val (.int p2)] [(.long (1 : Int64)), (.long (p2.toInt64)), (.long (33 : Int64)), (.ref a1)])
  refine WGo.st (fun _ q => XS.ladd S.here hx rfl (hb hby d_prog_49_method_3_code_7) rfl q) ?_
  show WGo _ _ _ _ _ _ _ _ T (mkF m 8 #[.val (.ref a1), .val (.int p2)] [(.long ((p2.toInt64) + (1 : Int64))), (.long (33 : Int64)), (.ref a1)])
  refine WGo.st (fun _ q => XS.lmul S.here hx rfl (hb hby d_prog_49_method_3_code_8) rfl q) ?_
  show WGo _ _ _ _ _ _ _ _ T (mkF m 9 #[.val (.ref a1), .val (.int p2)] [(.long ((33 : Int64) * ((p2.toInt64) + (1 : Int64)))), (.ref a1)])
  refine WGo.st (fun _ q => XS.iconst S.here hx rfl (hb hby d_prog_49_method_3_code_9) q) ?_
  show WGo _ _ _ _ _ _ _ _ T (mkF m 10 #[.val (.ref a1), .val (.int p2)] [(.int (1 : Int32)), (.long ((33 : Int64) * ((p2.toInt64) + (1 : Int64)))), (.ref a1)])
  refine w_private S (y := (⟨"com/example/assay_shapes/assayshapes/RegexBudget", "begin", "(JZ)V"⟩ : MethodName)) (z := (⟨"com/example/assay_shapes/assayshapes/RegexBudget", "spend", "(J)Z"⟩ : MethodName)) hown (hw _ (List.mem_of_getElem? (i := 35) rfl)) (hw _ (List.mem_of_getElem? (i := 36) rfl)) (hw _ (List.mem_of_getElem? (i := 37) rfl)) (hw _ (List.mem_of_getElem? (i := 4) rfl)) (hw _ (List.mem_of_getElem? (i := 38) rfl)) (hw _ (List.mem_of_getElem? (i := 16) rfl)) rfl (by decide) E1 (rm_B l Z a0 hw n0 h0 a1 rs ow rd sp ((33 : Int64) * ((p2.toInt64) + (1 : Int64))) (1 : Int32) S.ge g1 E1 F_mReserve F_mOwn F_mReserved F_mSpent (by decide)) (W := 0) (by decide) (by decide) (by decide) (by decide) rfl (by rw [hml]; rfl) (argsL := [(.long ((33 : Int64) * ((p2.toInt64) + (1 : Int64)))), (.int (1 : Int32))]) (rest := []) (ps := [.long, .boolean]) (rt := none) (by decide) rfl rfl rfl (by show 2 * 0 + _ ≤ _; exact Nat.le_of_eq rfl) (hb hby d_prog_49_method_3_code_10) ?_
  intro T1 h3 w4 S2 q5
  obtain ⟨q5a, q5K, q5f0, q5f1, q5f2, q5f3, q5f4⟩ := q5
  subst q5a
  have P6 := Keep.trans (Keep.refl h0 [a1]) q5K (allS (Or.inl (List.mem_of_getElem? (i := 0) rfl)) all0)
  show WGo _ _ _ _ _ _ _ _ T1 (mkF m 13 #[.val (.ref a1), .val (.int p2)] [])
  refine w_retV S2 hret (hb hby d_prog_49_method_3_code_13) (by decide) (by decide) ?_
  exact ⟨rfl, P6, q5f0, q5f1, q5f2, q5f3, q5f4⟩
theorem d_prog_49_method_2_code_0 : decode prog_49_method_2_code 0 = .ok (.iload_n 3, 1) := by decide +kernel
theorem d_prog_49_method_2_code_1 : decode prog_49_method_2_code 1 = .ok (.sipush 256, 3) := by decide +kernel
theorem d_prog_49_method_2_code_4 : decode prog_49_method_2_code 4 = .ok (.invokestatic 13, 3) := by decide +kernel
theorem d_prog_49_method_2_code_7 : decode prog_49_method_2_code 7 = .ok (.i2l, 1) := by decide +kernel
theorem d_prog_49_method_2_code_8 : decode prog_49_method_2_code 8 = .ok (.lstore 4, 2) := by decide +kernel
theorem d_prog_49_method_2_code_10 : decode prog_49_method_2_code 10 = .ok (.aload_n 0, 1) := by decide +kernel
theorem d_prog_49_method_2_code_11 : decode prog_49_method_2_code 11 = .ok (.lload 4, 2) := by decide +kernel
theorem d_prog_49_method_2_code_13 : decode prog_49_method_2_code 13 = .ok (.iload_n 2, 1) := by decide +kernel
theorem d_prog_49_method_2_code_14 : decode prog_49_method_2_code 14 = .ok (.i2l, 1) := by decide +kernel
theorem d_prog_49_method_2_code_15 : decode prog_49_method_2_code 15 = .ok (.ladd, 1) := by decide +kernel
theorem d_prog_49_method_2_code_16 : decode prog_49_method_2_code 16 = .ok (.iload_n 1, 1) := by decide +kernel
theorem d_prog_49_method_2_code_17 : decode prog_49_method_2_code 17 = .ok (.i2l, 1) := by decide +kernel
theorem d_prog_49_method_2_code_18 : decode prog_49_method_2_code 18 = .ok (.lconst 1, 1) := by decide +kernel
theorem d_prog_49_method_2_code_19 : decode prog_49_method_2_code 19 = .ok (.ladd, 1) := by decide +kernel
theorem d_prog_49_method_2_code_20 : decode prog_49_method_2_code 20 = .ok (.lmul, 1) := by decide +kernel
theorem d_prog_49_method_2_code_21 : decode prog_49_method_2_code 21 = .ok (.ldc2_w 19, 3) := by decide +kernel
theorem d_prog_49_method_2_code_24 : decode prog_49_method_2_code 24 = .ok (.ladd, 1) := by decide +kernel
theorem d_prog_49_method_2_code_25 : decode prog_49_method_2_code 25 = .ok (.iconst 0, 1) := by decide +kernel
theorem d_prog_49_method_2_code_26 : decode prog_49_method_2_code 26 = .ok (.invokevirtual 21, 3) := by decide +kernel
theorem d_prog_49_method_2_code_29 : decode prog_49_method_2_code 29 = .ok (.return_, 1) := by decide +kernel
def QA (Z : State) (n0 : Nat) (h0 : Heap) (a1 : Addr) (rs : Int64) (ow : Int64) (rd : Int32) (sp : Int32) (p2 : Int32) (p3 : Int32) (p4 : Int32) (v : Option Value) (h : Heap) : Prop := v = none ∧ Keep h0 h [a1] ∧ Exa Z h a1 "com/example/assay_shapes/assayshapes/RegexBudget" ∧ Fld Z h a1 "com/example/assay_shapes/assayshapes/RegexBudget" "mReserve" "J" (.long rs) ∧ Fld Z h a1 "com/example/assay_shapes/assayshapes/RegexBudget" "mOwn" "J" (.long (autoF p2 p3 p4)) ∧ Fld Z h a1 "com/example/assay_shapes/assayshapes/RegexBudget" "mReserved" "Z" (.int (0 : Int32)) ∧ Fld Z h a1 "com/example/assay_shapes/assayshapes/RegexBudget" "mSpent" "Z" (.int (0 : Int32))
theorem ef_A (m : MethodId) (a1 : Addr) (p2 : Int32) (p3 : Int32) (p4 : Int32) : entryFrame m #[(.ref a1), (.int p2), (.int p3), (.int p4)] 6 = mkF m 0 #[.val (.ref a1), .val (.int p2), .val (.int p3), .val (.int p4), .unset, .unset] [] := by first | (simp [entryFrame, mkF, argsToLocals, Value.category, maxLocals]; done) | rfl
set_option maxRecDepth 65536 in
set_option maxHeartbeats 40000000 in
theorem rm_A (l : Launch) (Z : State) (a0 : Array Value) (hw : ∀ d ∈ tables_1, d.before a0 Z = true) (n0 : Nat) (h0 : Heap) (a1 : Addr) (rs : Int64) (ow : Int64) (rd : Int32) (sp : Int32) (p2 : Int32) (p3 : Int32) (p4 : Int32) (Z0 : n0 ≤ h0.size) (g1 : n0 ≤ a1) (E1 : Exa Z h0 a1 "com/example/assay_shapes/assayshapes/RegexBudget") (F_mReserve : Fld Z h0 a1 "com/example/assay_shapes/assayshapes/RegexBudget" "mReserve" "J" (.long rs)) (F_mOwn : Fld Z h0 a1 "com/example/assay_shapes/assayshapes/RegexBudget" "mOwn" "J" (.long ow)) (F_mReserved : Fld Z h0 a1 "com/example/assay_shapes/assayshapes/RegexBudget" "mReserved" "Z" (.int rd)) (F_mSpent : Fld Z h0 a1 "com/example/assay_shapes/assayshapes/RegexBudget" "mSpent" "Z" (.int sp)) :
    WCon l Z n0 h0 (⟨"com/example/assay_shapes/assayshapes/RegexBudget", "beginAutomaton", "(III)V"⟩ : MethodName) prog_49_method_2_code 6 none [] ({ frames := 1, cells := 0, slots := 0, locals := 15 } : Room) #[(.ref a1), (.int p2), (.int p3), (.int p4)] (QA Z n0 h0 a1 rs ow rd sp p2 p3 p4) := by
  refine WCon.of (by first | exact plainFor_of_name (by decide +kernel) | decide +kernel) Z0 ?_
  intro p e s m below meth c T hx hZ hby hml hown hnm hret S
  refine WGo.cast (ef_A m a1 p2 p3 p4) ?_
  show WGo _ _ _ _ _ _ _ _ T (mkF m 0 #[.val (.ref a1), .val (.int p2), .val (.int p3), .val (.int p4), .unset, .unset] [])
  refine WGo.st (fun _ q => XS.iloadN S.here hx rfl (hb hby d_prog_49_method_2_code_0) rfl q) ?_
  show WGo _ _ _ _ _ _ _ _ T (mkF m 1 #[.val (.ref a1), .val (.int p2), .val (.int p3), .val (.int p4), .unset, .unset] [(.int p4)])
  refine WGo.st (fun _ q => XS.sipush S.here hx rfl (hb hby d_prog_49_method_2_code_1) q) ?_
  show WGo _ _ _ _ _ _ _ _ T (mkF m 4 #[.val (.ref a1), .val (.int p2), .val (.int p3), .val (.int p4), .unset, .unset] [(.int (256 : Int32)), (.int p4)])
  refine w_static S (y := (⟨"java/lang/Math", "min", "(II)I"⟩ : MethodName)) hown (hw _ (List.mem_of_getElem? (i := 55) rfl)) (hw _ (List.mem_of_getElem? (i := 56) rfl)) (hw _ (List.mem_of_getElem? (i := 24) rfl)) (hw _ (List.mem_of_getElem? (i := 57) rfl)) (by decide) (rm_Mi l Z a0 hw n0 h0 p4 (256 : Int32) S.ge) (W := 0) (by decide) (by decide) (by decide) (by decide) rfl (by rw [hml]; rfl) (argsL := [(.int p4), (.int (256 : Int32))]) (rest := []) (ps := [.int, .int]) (rt := (some .int)) (by decide) rfl rfl rfl (by show 2 * 0 + _ ≤ _; exact Nat.le_of_eq rfl) (hb hby d_prog_49_method_2_code_4) ?_
  intro T1 h3 w4 S2 q5
  obtain ⟨q5a, q5b⟩ := q5
  subst q5a
  replace q5b := Eq.symm q5b
  subst q5b
  show WGo _ _ _ _ _ _ _ _ T1 (mkF m 7 #[.val (.ref a1), .val (.int p2), .val (.int p3), .val (.int p4), .unset, .unset] [(.int (minF p4 (256 : Int32)))])
  refine WGo.st (fun _ q => XS.i2l S2.here hx rfl (hb hby d_prog_49_method_2_code_7) rfl q) ?_
  show WGo _ _ _ _ _ _ _ _ T1 (mkF m 8 #[.val (.ref a1), .val (.int p2), .val (.int p3), .val (.int p4), .unset, .unset] [(.long ((minF p4 (256 : Int32)).toInt64))])
  refine WGo.st (fun _ q => XS.lstore S2.here hx rfl (hb hby d_prog_49_method_2_code_8) rfl (l' := #[.val (.ref a1), .val (.int p2), .val (.int p3), .val (.int p4), .val (.long ((minF p4 (256 : Int32)).toInt64)), .second]) rfl q) ?_
  show WGo _ _ _ _ _ _ _ _ T1 (mkF m 10 #[.val (.ref a1), .val (.int p2), .val (.int p3), .val (.int p4), .val (.long ((minF p4 (256 : Int32)).toInt64)), .second] [])
  refine WGo.st (fun _ q => XS.aloadN S2.here hx rfl (hb hby d_prog_49_method_2_code_10) rfl rfl q) ?_
  show WGo _ _ _ _ _ _ _ _ T1 (mkF m 11 #[.val (.ref a1), .val (.int p2), .val (.int p3), .val (.int p4), .val (.long ((minF p4 (256 : Int32)).toInt64)), .second] [(.ref a1)])
  refine WGo.st (fun _ q => XS.lload S2.here hx rfl (hb hby d_prog_49_method_2_code_11) rfl q) ?_
  show WGo _ _ _ _ _ _ _ _ T1 (mkF m 13 #[.val (.ref a1), .val (.int p2), .val (.int p3), .val (.int p4), .val (.long ((minF p4 (256 : Int32)).toInt64)), .second] [(.long ((minF p4 (256 : Int32)).toInt64)), (.ref a1)])
  refine WGo.st (fun _ q => XS.iloadN S2.here hx rfl (hb hby d_prog_49_method_2_code_13) rfl q) ?_
  show WGo _ _ _ _ _ _ _ _ T1 (mkF m 14 #[.val (.ref a1), .val (.int p2), .val (.int p3), .val (.int p4), .val (.long ((minF p4 (256 : Int32)).toInt64)), .second] [(.int p3), (.long ((minF p4 (256 : Int32)).toInt64)), (.ref a1)])
  refine WGo.st (fun _ q => XS.i2l S2.here hx rfl (hb hby d_prog_49_method_2_code_14) rfl q) ?_
  show WGo _ _ _ _ _ _ _ _ T1 (mkF m 15 #[.val (.ref a1), .val (.int p2), .val (.int p3), .val (.int p4), .val (.long ((minF p4 (256 : Int32)).toInt64)), .second] [(.long (p3.toInt64)), (.long ((minF p4 (256 : Int32)).toInt64)), (.ref a1)])
  refine WGo.st (fun _ q => XS.ladd S2.here hx rfl (hb hby d_prog_49_method_2_code_15) rfl q) ?_
  show WGo _ _ _ _ _ _ _ _ T1 (mkF m 16 #[.val (.ref a1), .val (.int p2), .val (.int p3), .val (.int p4), .val (.long ((minF p4 (256 : Int32)).toInt64)), .second] [(.long (((minF p4 (256 : Int32)).toInt64) + (p3.toInt64))), (.ref a1)])
  refine WGo.st (fun _ q => XS.iloadN S2.here hx rfl (hb hby d_prog_49_method_2_code_16) rfl q) ?_
  show WGo _ _ _ _ _ _ _ _ T1 (mkF m 17 #[.val (.ref a1), .val (.int p2), .val (.int p3), .val (.int p4), .val (.long ((minF p4 (256 : Int32)).toInt64)), .second] [(.int p2), (.long (((minF p4 (256 : Int32)).toInt64) + (p3.toInt64))), (.ref a1)])
  refine WGo.st (fun _ q => XS.i2l S2.here hx rfl (hb hby d_prog_49_method_2_code_17) rfl q) ?_
  show WGo _ _ _ _ _ _ _ _ T1 (mkF m 18 #[.val (.ref a1), .val (.int p2), .val (.int p3), .val (.int p4), .val (.long ((minF p4 (256 : Int32)).toInt64)), .second] [(.long (p2.toInt64)), (.long (((minF p4 (256 : Int32)).toInt64) + (p3.toInt64))), (.ref a1)])
  refine WGo.st (fun _ q => XS.lconst S2.here hx rfl (hb hby d_prog_49_method_2_code_18) q) ?_
  show WGo _ _ _ _ _ _ _ _ T1 (mkF m 19 #[.val (.ref a1), .val (.int p2), .val (.int p3), .val (.int p4), .val (.long ((minF p4 (256 : Int32)).toInt64)), .second] [(.long (1 : Int64)), (.long (p2.toInt64)), (.long (((minF p4 (256 : Int32)).toInt64) + (p3.toInt64))), (.ref a1)])
  refine WGo.st (fun _ q => XS.ladd S2.here hx rfl (hb hby d_prog_49_method_2_code_19) rfl q) ?_
  show WGo _ _ _ _ _ _ _ _ T1 (mkF m 20 #[.val (.ref a1), .val (.int p2), .val (.int p3), .val (.int p4), .val (.long ((minF p4 (256 : Int32)).toInt64)), .second] [(.long ((p2.toInt64) + (1 : Int64))), (.long (((minF p4 (256 : Int32)).toInt64) + (p3.toInt64))), (.ref a1)])
  refine WGo.st (fun _ q => XS.lmul S2.here hx rfl (hb hby d_prog_49_method_2_code_20) rfl q) ?_
  show WGo _ _ _ _ _ _ _ _ T1 (mkF m 21 #[.val (.ref a1), .val (.int p2), .val (.int p3), .val (.int p4), .val (.long ((minF p4 (256 : Int32)).toInt64)), .second] [(.long ((((minF p4 (256 : Int32)).toInt64) + (p3.toInt64)) * ((p2.toInt64) + (1 : Int64)))), (.ref a1)])
  refine w_ldc2 S2 hown (hw _ (List.mem_of_getElem? (i := 58) rfl)) rfl (hb hby d_prog_49_method_2_code_21) ?_
  show WGo _ _ _ _ _ _ _ _ T1 (mkF m 24 #[.val (.ref a1), .val (.int p2), .val (.int p3), .val (.int p4), .val (.long ((minF p4 (256 : Int32)).toInt64)), .second] [(.long (1024 : Int64)), (.long ((((minF p4 (256 : Int32)).toInt64) + (p3.toInt64)) * ((p2.toInt64) + (1 : Int64)))), (.ref a1)])
  refine WGo.st (fun _ q => XS.ladd S2.here hx rfl (hb hby d_prog_49_method_2_code_24) rfl q) ?_
  show WGo _ _ _ _ _ _ _ _ T1 (mkF m 25 #[.val (.ref a1), .val (.int p2), .val (.int p3), .val (.int p4), .val (.long ((minF p4 (256 : Int32)).toInt64)), .second] [(.long (((((minF p4 (256 : Int32)).toInt64) + (p3.toInt64)) * ((p2.toInt64) + (1 : Int64))) + (1024 : Int64))), (.ref a1)])
  refine WGo.st (fun _ q => XS.iconst S2.here hx rfl (hb hby d_prog_49_method_2_code_25) q) ?_
  show WGo _ _ _ _ _ _ _ _ T1 (mkF m 26 #[.val (.ref a1), .val (.int p2), .val (.int p3), .val (.int p4), .val (.long ((minF p4 (256 : Int32)).toInt64)), .second] [(.int (0 : Int32)), (.long (((((minF p4 (256 : Int32)).toInt64) + (p3.toInt64)) * ((p2.toInt64) + (1 : Int64))) + (1024 : Int64))), (.ref a1)])
  refine w_private S2 (y := (⟨"com/example/assay_shapes/assayshapes/RegexBudget", "begin", "(JZ)V"⟩ : MethodName)) (z := (⟨"com/example/assay_shapes/assayshapes/RegexBudget", "spend", "(J)Z"⟩ : MethodName)) hown (hw _ (List.mem_of_getElem? (i := 35) rfl)) (hw _ (List.mem_of_getElem? (i := 36) rfl)) (hw _ (List.mem_of_getElem? (i := 37) rfl)) (hw _ (List.mem_of_getElem? (i := 4) rfl)) (hw _ (List.mem_of_getElem? (i := 38) rfl)) (hw _ (List.mem_of_getElem? (i := 16) rfl)) rfl (by decide) E1 (rm_B l Z a0 hw n0 h0 a1 rs ow rd sp (((((minF p4 (256 : Int32)).toInt64) + (p3.toInt64)) * ((p2.toInt64) + (1 : Int64))) + (1024 : Int64)) (0 : Int32) S2.ge g1 E1 F_mReserve F_mOwn F_mReserved F_mSpent (by decide)) (W := 0) (by decide) (by decide) (by decide) (by decide) rfl (by rw [hml]; rfl) (argsL := [(.long (((((minF p4 (256 : Int32)).toInt64) + (p3.toInt64)) * ((p2.toInt64) + (1 : Int64))) + (1024 : Int64))), (.int (0 : Int32))]) (rest := []) (ps := [.long, .boolean]) (rt := none) (by decide) rfl rfl rfl (by show 2 * 0 + _ ≤ _; exact Nat.le_of_eq rfl) (hb hby d_prog_49_method_2_code_26) ?_
  intro T6 h8 w9 S7 q10
  obtain ⟨q10a, q10K, q10f0, q10f1, q10f2, q10f3, q10f4⟩ := q10
  subst q10a
  have P11 := Keep.trans (Keep.refl h0 [a1]) q10K (allS (Or.inl (List.mem_of_getElem? (i := 0) rfl)) all0)
  show WGo _ _ _ _ _ _ _ _ T6 (mkF m 29 #[.val (.ref a1), .val (.int p2), .val (.int p3), .val (.int p4), .val (.long ((minF p4 (256 : Int32)).toInt64)), .second] [])
  refine w_retV S7 hret (hb hby d_prog_49_method_2_code_29) (by decide) (by decide) ?_
  exact ⟨rfl, P11, q10f0, q10f1, q10f2, q10f3, q10f4⟩
theorem d_prog_49_method_5_code_0 : decode prog_49_method_5_code 0 = .ok (.aload_n 0, 1) := by decide +kernel
theorem d_prog_49_method_5_code_1 : decode prog_49_method_5_code 1 = .ok (.getfield 30, 3) := by decide +kernel
theorem d_prog_49_method_5_code_4 : decode prog_49_method_5_code 4 = .ok (.ifCond .eq 15, 3) := by decide +kernel
theorem d_prog_49_method_5_code_7 : decode prog_49_method_5_code 7 = .ok (.aload_n 0, 1) := by decide +kernel
theorem d_prog_49_method_5_code_8 : decode prog_49_method_5_code 8 = .ok (.getfield 27, 3) := by decide +kernel
theorem d_prog_49_method_5_code_11 : decode prog_49_method_5_code 11 = .ok (.aload_n 0, 1) := by decide +kernel
theorem d_prog_49_method_5_code_12 : decode prog_49_method_5_code 12 = .ok (.getfield 7, 3) := by decide +kernel
theorem d_prog_49_method_5_code_15 : decode prog_49_method_5_code 15 = .ok (.ladd, 1) := by decide +kernel
theorem d_prog_49_method_5_code_16 : decode prog_49_method_5_code 16 = .ok (.goto 7, 3) := by decide +kernel
theorem d_prog_49_method_5_code_19 : decode prog_49_method_5_code 19 = .ok (.aload_n 0, 1) := by decide +kernel
theorem d_prog_49_method_5_code_20 : decode prog_49_method_5_code 20 = .ok (.getfield 27, 3) := by decide +kernel
theorem d_prog_49_method_5_code_23 : decode prog_49_method_5_code 23 = .ok (.lreturn, 1) := by decide +kernel
def QL (Z : State) (n0 : Nat) (h0 : Heap) (a1 : Addr) (rs : Int64) (ow : Int64) (rd : Int32) (sp : Int32) (v : Option Value) (h : Heap) : Prop := v = some (.long (leftF rs ow rd)) ∧ h = h0
theorem ef_L (m : MethodId) (a1 : Addr) : entryFrame m #[(.ref a1)] 1 = mkF m 0 #[.val (.ref a1)] [] := by first | (simp [entryFrame, mkF, argsToLocals, Value.category, maxLocals]; done) | rfl
set_option maxRecDepth 65536 in
set_option maxHeartbeats 40000000 in
theorem rm_L (l : Launch) (Z : State) (a0 : Array Value) (hw : ∀ d ∈ tables_1, d.before a0 Z = true) (n0 : Nat) (h0 : Heap) (a1 : Addr) (rs : Int64) (ow : Int64) (rd : Int32) (sp : Int32) (Z0 : n0 ≤ h0.size) (E1 : Exa Z h0 a1 "com/example/assay_shapes/assayshapes/RegexBudget") (F_mReserve : Fld Z h0 a1 "com/example/assay_shapes/assayshapes/RegexBudget" "mReserve" "J" (.long rs)) (F_mOwn : Fld Z h0 a1 "com/example/assay_shapes/assayshapes/RegexBudget" "mOwn" "J" (.long ow)) (F_mReserved : Fld Z h0 a1 "com/example/assay_shapes/assayshapes/RegexBudget" "mReserved" "Z" (.int rd)) (F_mSpent : Fld Z h0 a1 "com/example/assay_shapes/assayshapes/RegexBudget" "mSpent" "Z" (.int sp)) :
    WCon l Z n0 h0 (⟨"com/example/assay_shapes/assayshapes/RegexBudget", "left", "()J"⟩ : MethodName) prog_49_method_5_code 1 (some .long) [] ({ frames := 0, cells := 0, slots := 0, locals := 0 } : Room) #[(.ref a1)] (QL Z n0 h0 a1 rs ow rd sp) := by
  refine WCon.of (by first | exact plainFor_of_name (by decide +kernel) | decide +kernel) Z0 ?_
  intro p e s m below meth c T hx hZ hby hml hown hnm hret S
  refine WGo.cast (ef_L m a1) ?_
  show WGo _ _ _ _ _ _ _ _ T (mkF m 0 #[.val (.ref a1)] [])
  refine WGo.st (fun _ q => XS.aloadN S.here hx rfl (hb hby d_prog_49_method_5_code_0) rfl rfl q) ?_
  show WGo _ _ _ _ _ _ _ _ T (mkF m 1 #[.val (.ref a1)] [(.ref a1)])
  refine w_getfield S hown (hw _ (List.mem_of_getElem? (i := 20) rfl)) Via.refl F_mReserved rfl rfl (hb hby d_prog_49_method_5_code_1) ?_
  intro T1 S2
  show WGo _ _ _ _ _ _ _ _ T1 (mkF m 4 #[.val (.ref a1)] [(.int rd)])
  by_cases c4 : rd = (0 : Int32)
  · refine WGo.st (fun _ q => XS.ifYes S2.here hx rfl (pc0 := 4) (pc' := 19) rfl (hb hby d_prog_49_method_5_code_4) rfl ((if0 _ _).trans (teq c4).1) (by decide) (by decide) q) ?_
    show WGo _ _ _ _ _ _ _ _ T1 (mkF m 19 #[.val (.ref a1)] [])
    refine WGo.st (fun _ q => XS.aloadN S2.here hx rfl (hb hby d_prog_49_method_5_code_19) rfl rfl q) ?_
    show WGo _ _ _ _ _ _ _ _ T1 (mkF m 20 #[.val (.ref a1)] [(.ref a1)])
    refine w_getfield S2 hown (hw _ (List.mem_of_getElem? (i := 18) rfl)) Via.refl F_mOwn rfl rfl (hb hby d_prog_49_method_5_code_20) ?_
    intro T3 S4
    show WGo _ _ _ _ _ _ _ _ T3 (mkF m 23 #[.val (.ref a1)] [(.long ow)])
    refine w_retJ S4 hret (hb hby d_prog_49_method_5_code_23) (by decide) (by decide) ?_
    exact ⟨by simp [leftF, *], rfl⟩
  · refine WGo.st (fun _ q => XS.ifNo S2.here hx rfl (hb hby d_prog_49_method_5_code_4) rfl ((if0 _ _).trans (feq c4).1) q) ?_
    show WGo _ _ _ _ _ _ _ _ T1 (mkF m 7 #[.val (.ref a1)] [])
    refine WGo.st (fun _ q => XS.aloadN S2.here hx rfl (hb hby d_prog_49_method_5_code_7) rfl rfl q) ?_
    show WGo _ _ _ _ _ _ _ _ T1 (mkF m 8 #[.val (.ref a1)] [(.ref a1)])
    refine w_getfield S2 hown (hw _ (List.mem_of_getElem? (i := 18) rfl)) Via.refl F_mOwn rfl rfl (hb hby d_prog_49_method_5_code_8) ?_
    intro T5 S6
    show WGo _ _ _ _ _ _ _ _ T5 (mkF m 11 #[.val (.ref a1)] [(.long ow)])
    refine WGo.st (fun _ q => XS.aloadN S6.here hx rfl (hb hby d_prog_49_method_5_code_11) rfl rfl q) ?_
    show WGo _ _ _ _ _ _ _ _ T5 (mkF m 12 #[.val (.ref a1)] [(.ref a1), (.long ow)])
    refine w_getfield S6 hown (hw _ (List.mem_of_getElem? (i := 11) rfl)) Via.refl F_mReserve rfl rfl (hb hby d_prog_49_method_5_code_12) ?_
    intro T7 S8
    show WGo _ _ _ _ _ _ _ _ T7 (mkF m 15 #[.val (.ref a1)] [(.long rs), (.long ow)])
    refine WGo.st (fun _ q => XS.ladd S8.here hx rfl (hb hby d_prog_49_method_5_code_15) rfl q) ?_
    show WGo _ _ _ _ _ _ _ _ T7 (mkF m 16 #[.val (.ref a1)] [(.long (ow + rs))])
    refine WGo.st (fun _ q => XS.goto S8.here hx rfl (pc0 := 16) (pc' := 23) rfl (hb hby d_prog_49_method_5_code_16) (by decide) (by decide) q) ?_
    show WGo _ _ _ _ _ _ _ _ T7 (mkF m 23 #[.val (.ref a1)] [(.long (ow + rs))])
    refine w_retJ S8 hret (hb hby d_prog_49_method_5_code_23) (by decide) (by decide) ?_
    exact ⟨by simp [leftF, *], rfl⟩
theorem d_prog_49_method_7_code_0 : decode prog_49_method_7_code 0 = .ok (.aload_n 0, 1) := by decide +kernel
theorem d_prog_49_method_7_code_1 : decode prog_49_method_7_code 1 = .ok (.getfield 34, 3) := by decide +kernel
theorem d_prog_49_method_7_code_4 : decode prog_49_method_7_code 4 = .ok (.ireturn, 1) := by decide +kernel
def QS (Z : State) (n0 : Nat) (h0 : Heap) (a1 : Addr) (rs : Int64) (ow : Int64) (rd : Int32) (sp : Int32) (v : Option Value) (h : Heap) : Prop := v = some (.int sp) ∧ h = h0
theorem ef_S (m : MethodId) (a1 : Addr) : entryFrame m #[(.ref a1)] 1 = mkF m 0 #[.val (.ref a1)] [] := by first | (simp [entryFrame, mkF, argsToLocals, Value.category, maxLocals]; done) | rfl
set_option maxRecDepth 65536 in
set_option maxHeartbeats 40000000 in
theorem rm_S (l : Launch) (Z : State) (a0 : Array Value) (hw : ∀ d ∈ tables_1, d.before a0 Z = true) (n0 : Nat) (h0 : Heap) (a1 : Addr) (rs : Int64) (ow : Int64) (rd : Int32) (sp : Int32) (Z0 : n0 ≤ h0.size) (E1 : Exa Z h0 a1 "com/example/assay_shapes/assayshapes/RegexBudget") (F_mReserve : Fld Z h0 a1 "com/example/assay_shapes/assayshapes/RegexBudget" "mReserve" "J" (.long rs)) (F_mOwn : Fld Z h0 a1 "com/example/assay_shapes/assayshapes/RegexBudget" "mOwn" "J" (.long ow)) (F_mReserved : Fld Z h0 a1 "com/example/assay_shapes/assayshapes/RegexBudget" "mReserved" "Z" (.int rd)) (F_mSpent : Fld Z h0 a1 "com/example/assay_shapes/assayshapes/RegexBudget" "mSpent" "Z" (.int sp)) (hz : sp = 0 ∨ sp = 1) :
    WCon l Z n0 h0 (⟨"com/example/assay_shapes/assayshapes/RegexBudget", "isSpent", "()Z"⟩ : MethodName) prog_49_method_7_code 1 (some .boolean) [] ({ frames := 0, cells := 0, slots := 0, locals := 0 } : Room) #[(.ref a1)] (QS Z n0 h0 a1 rs ow rd sp) := by
  refine WCon.of (by first | exact plainFor_of_name (by decide +kernel) | decide +kernel) Z0 ?_
  intro p e s m below meth c T hx hZ hby hml hown hnm hret S
  refine WGo.cast (ef_S m a1) ?_
  show WGo _ _ _ _ _ _ _ _ T (mkF m 0 #[.val (.ref a1)] [])
  refine WGo.st (fun _ q => XS.aloadN S.here hx rfl (hb hby d_prog_49_method_7_code_0) rfl rfl q) ?_
  show WGo _ _ _ _ _ _ _ _ T (mkF m 1 #[.val (.ref a1)] [(.ref a1)])
  refine w_getfield S hown (hw _ (List.mem_of_getElem? (i := 26) rfl)) Via.refl F_mSpent rfl rfl (hb hby d_prog_49_method_7_code_1) ?_
  intro T1 S2
  show WGo _ _ _ _ _ _ _ _ T1 (mkF m 4 #[.val (.ref a1)] [(.int sp)])
  refine w_retZ S2 hret (hb hby d_prog_49_method_7_code_4) hz (by decide) (by decide) ?_
  exact ⟨rfl, rfl⟩
theorem d_prog_49_method_6_code_0 : decode prog_49_method_6_code 0 = .ok (.aload_n 0, 1) := by decide +kernel
theorem d_prog_49_method_6_code_1 : decode prog_49_method_6_code 1 = .ok (.dup, 1) := by decide +kernel
theorem d_prog_49_method_6_code_2 : decode prog_49_method_6_code 2 = .ok (.getfield 27, 3) := by decide +kernel
theorem d_prog_49_method_6_code_5 : decode prog_49_method_6_code 5 = .ok (.lload_n 1, 1) := by decide +kernel
theorem d_prog_49_method_6_code_6 : decode prog_49_method_6_code 6 = .ok (.lsub, 1) := by decide +kernel
theorem d_prog_49_method_6_code_7 : decode prog_49_method_6_code 7 = .ok (.putfield 27, 3) := by decide +kernel
theorem d_prog_49_method_6_code_10 : decode prog_49_method_6_code 10 = .ok (.aload_n 0, 1) := by decide +kernel
theorem d_prog_49_method_6_code_11 : decode prog_49_method_6_code 11 = .ok (.getfield 27, 3) := by decide +kernel
theorem d_prog_49_method_6_code_14 : decode prog_49_method_6_code 14 = .ok (.lconst 0, 1) := by decide +kernel
theorem d_prog_49_method_6_code_15 : decode prog_49_method_6_code 15 = .ok (.lcmp, 1) := by decide +kernel
theorem d_prog_49_method_6_code_16 : decode prog_49_method_6_code 16 = .ok (.ifCond .ge 28, 3) := by decide +kernel
theorem d_prog_49_method_6_code_19 : decode prog_49_method_6_code 19 = .ok (.aload_n 0, 1) := by decide +kernel
theorem d_prog_49_method_6_code_20 : decode prog_49_method_6_code 20 = .ok (.getfield 30, 3) := by decide +kernel
theorem d_prog_49_method_6_code_23 : decode prog_49_method_6_code 23 = .ok (.ifCond .eq 21, 3) := by decide +kernel
theorem d_prog_49_method_6_code_26 : decode prog_49_method_6_code 26 = .ok (.aload_n 0, 1) := by decide +kernel
theorem d_prog_49_method_6_code_27 : decode prog_49_method_6_code 27 = .ok (.dup, 1) := by decide +kernel
theorem d_prog_49_method_6_code_28 : decode prog_49_method_6_code 28 = .ok (.getfield 7, 3) := by decide +kernel
theorem d_prog_49_method_6_code_31 : decode prog_49_method_6_code 31 = .ok (.aload_n 0, 1) := by decide +kernel
theorem d_prog_49_method_6_code_32 : decode prog_49_method_6_code 32 = .ok (.getfield 27, 3) := by decide +kernel
theorem d_prog_49_method_6_code_35 : decode prog_49_method_6_code 35 = .ok (.ladd, 1) := by decide +kernel
theorem d_prog_49_method_6_code_36 : decode prog_49_method_6_code 36 = .ok (.putfield 7, 3) := by decide +kernel
theorem d_prog_49_method_6_code_39 : decode prog_49_method_6_code 39 = .ok (.aload_n 0, 1) := by decide +kernel
theorem d_prog_49_method_6_code_40 : decode prog_49_method_6_code 40 = .ok (.lconst 0, 1) := by decide +kernel
theorem d_prog_49_method_6_code_41 : decode prog_49_method_6_code 41 = .ok (.putfield 27, 3) := by decide +kernel
theorem d_prog_49_method_6_code_44 : decode prog_49_method_6_code 44 = .ok (.aload_n 0, 1) := by decide +kernel
theorem d_prog_49_method_6_code_45 : decode prog_49_method_6_code 45 = .ok (.getfield 27, 3) := by decide +kernel
theorem d_prog_49_method_6_code_48 : decode prog_49_method_6_code 48 = .ok (.lconst 0, 1) := by decide +kernel
theorem d_prog_49_method_6_code_49 : decode prog_49_method_6_code 49 = .ok (.lcmp, 1) := by decide +kernel
theorem d_prog_49_method_6_code_50 : decode prog_49_method_6_code 50 = .ok (.ifCond .lt 12, 3) := by decide +kernel
theorem d_prog_49_method_6_code_53 : decode prog_49_method_6_code 53 = .ok (.aload_n 0, 1) := by decide +kernel
theorem d_prog_49_method_6_code_54 : decode prog_49_method_6_code 54 = .ok (.getfield 7, 3) := by decide +kernel
theorem d_prog_49_method_6_code_57 : decode prog_49_method_6_code 57 = .ok (.lconst 0, 1) := by decide +kernel
theorem d_prog_49_method_6_code_58 : decode prog_49_method_6_code 58 = .ok (.lcmp, 1) := by decide +kernel
theorem d_prog_49_method_6_code_59 : decode prog_49_method_6_code 59 = .ok (.ifCond .ge 25, 3) := by decide +kernel
theorem d_prog_49_method_6_code_62 : decode prog_49_method_6_code 62 = .ok (.aload_n 0, 1) := by decide +kernel
theorem d_prog_49_method_6_code_63 : decode prog_49_method_6_code 63 = .ok (.lconst 0, 1) := by decide +kernel
theorem d_prog_49_method_6_code_64 : decode prog_49_method_6_code 64 = .ok (.putfield 27, 3) := by decide +kernel
theorem d_prog_49_method_6_code_67 : decode prog_49_method_6_code 67 = .ok (.aload_n 0, 1) := by decide +kernel
theorem d_prog_49_method_6_code_68 : decode prog_49_method_6_code 68 = .ok (.aload_n 0, 1) := by decide +kernel
theorem d_prog_49_method_6_code_69 : decode prog_49_method_6_code 69 = .ok (.getfield 7, 3) := by decide +kernel
theorem d_prog_49_method_6_code_72 : decode prog_49_method_6_code 72 = .ok (.lconst 0, 1) := by decide +kernel
theorem d_prog_49_method_6_code_73 : decode prog_49_method_6_code 73 = .ok (.invokestatic 37, 3) := by decide +kernel
theorem d_prog_49_method_6_code_76 : decode prog_49_method_6_code 76 = .ok (.putfield 7, 3) := by decide +kernel
theorem d_prog_49_method_6_code_79 : decode prog_49_method_6_code 79 = .ok (.aload_n 0, 1) := by decide +kernel
theorem d_prog_49_method_6_code_80 : decode prog_49_method_6_code 80 = .ok (.iconst 1, 1) := by decide +kernel
theorem d_prog_49_method_6_code_81 : decode prog_49_method_6_code 81 = .ok (.putfield 34, 3) := by decide +kernel
theorem d_prog_49_method_6_code_84 : decode prog_49_method_6_code 84 = .ok (.aload_n 0, 1) := by decide +kernel
theorem d_prog_49_method_6_code_85 : decode prog_49_method_6_code 85 = .ok (.getfield 34, 3) := by decide +kernel
theorem d_prog_49_method_6_code_88 : decode prog_49_method_6_code 88 = .ok (.ifCond .ne 7, 3) := by decide +kernel
theorem d_prog_49_method_6_code_91 : decode prog_49_method_6_code 91 = .ok (.iconst 1, 1) := by decide +kernel
theorem d_prog_49_method_6_code_92 : decode prog_49_method_6_code 92 = .ok (.goto 4, 3) := by decide +kernel
theorem d_prog_49_method_6_code_95 : decode prog_49_method_6_code 95 = .ok (.iconst 0, 1) := by decide +kernel
theorem d_prog_49_method_6_code_96 : decode prog_49_method_6_code 96 = .ok (.ireturn, 1) := by decide +kernel
def QP (Z : State) (n0 : Nat) (h0 : Heap) (a1 : Addr) (rs : Int64) (ow : Int64) (rd : Int32) (sp : Int32) (p2 : Int64) (v : Option Value) (h : Heap) : Prop := v = some (.int (spOk (spendF rs ow rd sp p2))) ∧ Keep h0 h [a1] ∧ Exa Z h a1 "com/example/assay_shapes/assayshapes/RegexBudget" ∧ Fld Z h a1 "com/example/assay_shapes/assayshapes/RegexBudget" "mReserve" "J" (.long (spendF rs ow rd sp p2).1) ∧ Fld Z h a1 "com/example/assay_shapes/assayshapes/RegexBudget" "mOwn" "J" (.long (spendF rs ow rd sp p2).2.1) ∧ Fld Z h a1 "com/example/assay_shapes/assayshapes/RegexBudget" "mReserved" "Z" (.int rd) ∧ Fld Z h a1 "com/example/assay_shapes/assayshapes/RegexBudget" "mSpent" "Z" (.int (spendF rs ow rd sp p2).2.2)
theorem ef_P (m : MethodId) (a1 : Addr) (p2 : Int64) : entryFrame m #[(.ref a1), (.long p2)] 3 = mkF m 0 #[.val (.ref a1), .val (.long p2), .second] [] := by first | (simp [entryFrame, mkF, argsToLocals, Value.category, maxLocals]; done) | rfl
set_option maxRecDepth 65536 in
set_option maxHeartbeats 40000000 in
theorem rm_P (l : Launch) (Z : State) (a0 : Array Value) (hw : ∀ d ∈ tables_1, d.before a0 Z = true) (n0 : Nat) (h0 : Heap) (a1 : Addr) (rs : Int64) (ow : Int64) (rd : Int32) (sp : Int32) (p2 : Int64) (Z0 : n0 ≤ h0.size) (g1 : n0 ≤ a1) (E1 : Exa Z h0 a1 "com/example/assay_shapes/assayshapes/RegexBudget") (F_mReserve : Fld Z h0 a1 "com/example/assay_shapes/assayshapes/RegexBudget" "mReserve" "J" (.long rs)) (F_mOwn : Fld Z h0 a1 "com/example/assay_shapes/assayshapes/RegexBudget" "mOwn" "J" (.long ow)) (F_mReserved : Fld Z h0 a1 "com/example/assay_shapes/assayshapes/RegexBudget" "mReserved" "Z" (.int rd)) (F_mSpent : Fld Z h0 a1 "com/example/assay_shapes/assayshapes/RegexBudget" "mSpent" "Z" (.int sp)) (hz : sp = 0 ∨ sp = 1) :
    WCon l Z n0 h0 (⟨"com/example/assay_shapes/assayshapes/RegexBudget", "spend", "(J)Z"⟩ : MethodName) prog_49_method_6_code 3 (some .boolean) [] ({ frames := 1, cells := 0, slots := 0, locals := 18 } : Room) #[(.ref a1), (.long p2)] (QP Z n0 h0 a1 rs ow rd sp p2) := by
  refine WCon.of (by first | exact plainFor_of_name (by decide +kernel) | decide +kernel) Z0 ?_
  intro p e s m below meth c T hx hZ hby hml hown hnm hret S
  refine WGo.cast (ef_P m a1 p2) ?_
  show WGo _ _ _ _ _ _ _ _ T (mkF m 0 #[.val (.ref a1), .val (.long p2), .second] [])
  refine WGo.st (fun _ q => XS.aloadN S.here hx rfl (hb hby d_prog_49_method_6_code_0) rfl rfl q) ?_
  show WGo _ _ _ _ _ _ _ _ T (mkF m 1 #[.val (.ref a1), .val (.long p2), .second] [(.ref a1)])
  refine WGo.st (fun _ q => XS.dup S.here hx rfl (hb hby d_prog_49_method_6_code_1) rfl rfl q) ?_
  show WGo _ _ _ _ _ _ _ _ T (mkF m 2 #[.val (.ref a1), .val (.long p2), .second] [(.ref a1), (.ref a1)])
  refine w_getfield S hown (hw _ (List.mem_of_getElem? (i := 18) rfl)) Via.refl F_mOwn rfl rfl (hb hby d_prog_49_method_6_code_2) ?_
  intro T1 S2
  show WGo _ _ _ _ _ _ _ _ T1 (mkF m 5 #[.val (.ref a1), .val (.long p2), .second] [(.long ow), (.ref a1)])
  refine WGo.st (fun _ q => XS.lloadN S2.here hx rfl (hb hby d_prog_49_method_6_code_5) rfl q) ?_
  show WGo _ _ _ _ _ _ _ _ T1 (mkF m 6 #[.val (.ref a1), .val (.long p2), .second] [(.long p2), (.long ow), (.ref a1)])
  refine WGo.st (fun _ q => XS.lsub S2.here hx rfl (hb hby d_prog_49_method_6_code_6) rfl q) ?_
  show WGo _ _ _ _ _ _ _ _ T1 (mkF m 7 #[.val (.ref a1), .val (.long p2), .second] [(.long (ow - p2)), (.ref a1)])
  refine w_putfield S2 hown (hw _ (List.mem_of_getElem? (i := 18) rfl)) Via.refl F_mOwn E1 (Or.inl (hw _ (List.mem_of_getElem? (i := 19) rfl))) (hw _ (List.mem_of_getElem? (i := 3) rfl)) g1 (ty := .long) (by decide) rfl rfl rfl rfl (hb hby d_prog_49_method_6_code_7) ?_
  intro T3 h4 S5 W7 K6
  have P8 := Keep.trans (Keep.refl h0 [a1]) K6 (allS (Or.inl (List.mem_of_getElem? (i := 0) rfl)) all0)
  have f9 := Exa.keep E1 K6
  have f10 := Fld.other W7 F_mReserve (Or.inr (slot_ne (a0 := a0) (C := "com/example/assay_shapes/assayshapes/RegexBudget") (Or.inl (hw _ (List.mem_of_getElem? (i := 12) rfl))) (Or.inl (hw _ (List.mem_of_getElem? (i := 19) rfl))) (by decide) (t := .long) (by decide) (t' := .long) (by decide)))
  have f11 : Fld Z h4 a1 "com/example/assay_shapes/assayshapes/RegexBudget" "mOwn" "J" (.long (ow - p2)) := Fld.same W7 F_mOwn
  have f12 := Fld.other W7 F_mReserved (Or.inr (slot_ne (a0 := a0) (C := "com/example/assay_shapes/assayshapes/RegexBudget") (Or.inl (hw _ (List.mem_of_getElem? (i := 21) rfl))) (Or.inl (hw _ (List.mem_of_getElem? (i := 19) rfl))) (by decide) (t := .boolean) (by decide) (t' := .long) (by decide)))
  have f13 := Fld.other W7 F_mSpent (Or.inr (slot_ne (a0 := a0) (C := "com/example/assay_shapes/assayshapes/RegexBudget") (Or.inl (hw _ (List.mem_of_getElem? (i := 27) rfl))) (Or.inl (hw _ (List.mem_of_getElem? (i := 19) rfl))) (by decide) (t := .boolean) (by decide) (t' := .long) (by decide)))
  show WGo _ _ _ _ _ _ _ _ T3 (mkF m 10 #[.val (.ref a1), .val (.long p2), .second] [])
  refine WGo.st (fun _ q => XS.aloadN S5.here hx rfl (hb hby d_prog_49_method_6_code_10) rfl rfl q) ?_
  show WGo _ _ _ _ _ _ _ _ T3 (mkF m 11 #[.val (.ref a1), .val (.long p2), .second] [(.ref a1)])
  refine w_getfield S5 hown (hw _ (List.mem_of_getElem? (i := 18) rfl)) Via.refl f11 rfl rfl (hb hby d_prog_49_method_6_code_11) ?_
  intro T14 S15
  show WGo _ _ _ _ _ _ _ _ T14 (mkF m 14 #[.val (.ref a1), .val (.long p2), .second] [(.long (ow - p2))])
  refine WGo.st (fun _ q => XS.lconst S15.here hx rfl (hb hby d_prog_49_method_6_code_14) q) ?_
  show WGo _ _ _ _ _ _ _ _ T14 (mkF m 15 #[.val (.ref a1), .val (.long p2), .second] [(.long (0 : Int64)), (.long (ow - p2))])
  refine WGo.st (fun _ q => XS.lcmp S15.here hx rfl (hb hby d_prog_49_method_6_code_15) rfl q) ?_
  show WGo _ _ _ _ _ _ _ _ T14 (mkF m 16 #[.val (.ref a1), .val (.long p2), .second] [(.int (lcmpW (ow - p2) (0 : Int64)))])
  by_cases c16 : (ow - p2) < (0 : Int64)
  · refine WGo.st (fun _ q => XS.ifNo S15.here hx rfl (hb hby d_prog_49_method_6_code_16) rfl (tltJ c16).2 q) ?_
    show WGo _ _ _ _ _ _ _ _ T14 (mkF m 19 #[.val (.ref a1), .val (.long p2), .second] [])
    refine WGo.st (fun _ q => XS.aloadN S15.here hx rfl (hb hby d_prog_49_method_6_code_19) rfl rfl q) ?_
    show WGo _ _ _ _ _ _ _ _ T14 (mkF m 20 #[.val (.ref a1), .val (.long p2), .second] [(.ref a1)])
    refine w_getfield S15 hown (hw _ (List.mem_of_getElem? (i := 20) rfl)) Via.refl f12 rfl rfl (hb hby d_prog_49_method_6_code_20) ?_
    intro T16 S17
    show WGo _ _ _ _ _ _ _ _ T16 (mkF m 23 #[.val (.ref a1), .val (.long p2), .second] [(.int rd)])
    by_cases c23 : rd = (0 : Int32)
    · refine WGo.st (fun _ q => XS.ifYes S17.here hx rfl (pc0 := 23) (pc' := 44) rfl (hb hby d_prog_49_method_6_code_23) rfl ((if0 _ _).trans (teq c23).1) (by decide) (by decide) q) ?_
      show WGo _ _ _ _ _ _ _ _ T16 (mkF m 44 #[.val (.ref a1), .val (.long p2), .second] [])
      refine WGo.st (fun _ q => XS.aloadN S17.here hx rfl (hb hby d_prog_49_method_6_code_44) rfl rfl q) ?_
      show WGo _ _ _ _ _ _ _ _ T16 (mkF m 45 #[.val (.ref a1), .val (.long p2), .second] [(.ref a1)])
      refine w_getfield S17 hown (hw _ (List.mem_of_getElem? (i := 18) rfl)) Via.refl f11 rfl rfl (hb hby d_prog_49_method_6_code_45) ?_
      intro T18 S19
      show WGo _ _ _ _ _ _ _ _ T18 (mkF m 48 #[.val (.ref a1), .val (.long p2), .second] [(.long (ow - p2))])
      refine WGo.st (fun _ q => XS.lconst S19.here hx rfl (hb hby d_prog_49_method_6_code_48) q) ?_
      show WGo _ _ _ _ _ _ _ _ T18 (mkF m 49 #[.val (.ref a1), .val (.long p2), .second] [(.long (0 : Int64)), (.long (ow - p2))])
      refine WGo.st (fun _ q => XS.lcmp S19.here hx rfl (hb hby d_prog_49_method_6_code_49) rfl q) ?_
      show WGo _ _ _ _ _ _ _ _ T18 (mkF m 50 #[.val (.ref a1), .val (.long p2), .second] [(.int (lcmpW (ow - p2) (0 : Int64)))])
      by_cases c50 : (ow - p2) < (0 : Int64)
      · refine WGo.st (fun _ q => XS.ifYes S19.here hx rfl (pc0 := 50) (pc' := 62) rfl (hb hby d_prog_49_method_6_code_50) rfl (tltJ c50).1 (by decide) (by decide) q) ?_
        show WGo _ _ _ _ _ _ _ _ T18 (mkF m 62 #[.val (.ref a1), .val (.long p2), .second] [])
        refine WGo.st (fun _ q => XS.aloadN S19.here hx rfl (hb hby d_prog_49_method_6_code_62) rfl rfl q) ?_
        show WGo _ _ _ _ _ _ _ _ T18 (mkF m 63 #[.val (.ref a1), .val (.long p2), .second] [(.ref a1)])
        refine WGo.st (fun _ q => XS.lconst S19.here hx rfl (hb hby d_prog_49_method_6_code_63) q) ?_
        show WGo _ _ _ _ _ _ _ _ T18 (mkF m 64 #[.val (.ref a1), .val (.long p2), .second] [(.long (0 : Int64)), (.ref a1)])
        refine w_putfield S19 hown (hw _ (List.mem_of_getElem? (i := 18) rfl)) Via.refl f11 f9 (Or.inl (hw _ (List.mem_of_getElem? (i := 19) rfl))) (hw _ (List.mem_of_getElem? (i := 3) rfl)) g1 (ty := .long) (by decide) rfl rfl rfl rfl (hb hby d_prog_49_method_6_code_64) ?_
        intro T20 h21 S22 W24 K23
        have P25 := Keep.trans P8 K23 (allS (Or.inl (List.mem_of_getElem? (i := 0) rfl)) all0)
        have f26 := Exa.keep f9 K23
        have f27 := Fld.other W24 f10 (Or.inr (slot_ne (a0 := a0) (C := "com/example/assay_shapes/assayshapes/RegexBudget") (Or.inl (hw _ (List.mem_of_getElem? (i := 12) rfl))) (Or.inl (hw _ (List.mem_of_getElem? (i := 19) rfl))) (by decide) (t := .long) (by decide) (t' := .long) (by decide)))
        have f28 : Fld Z h21 a1 "com/example/assay_shapes/assayshapes/RegexBudget" "mOwn" "J" (.long (0 : Int64)) := Fld.same W24 f11
        have f29 := Fld.other W24 f12 (Or.inr (slot_ne (a0 := a0) (C := "com/example/assay_shapes/assayshapes/RegexBudget") (Or.inl (hw _ (List.mem_of_getElem? (i := 21) rfl))) (Or.inl (hw _ (List.mem_of_getElem? (i := 19) rfl))) (by decide) (t := .boolean) (by decide) (t' := .long) (by decide)))
        have f30 := Fld.other W24 f13 (Or.inr (slot_ne (a0 := a0) (C := "com/example/assay_shapes/assayshapes/RegexBudget") (Or.inl (hw _ (List.mem_of_getElem? (i := 27) rfl))) (Or.inl (hw _ (List.mem_of_getElem? (i := 19) rfl))) (by decide) (t := .boolean) (by decide) (t' := .long) (by decide)))
        show WGo _ _ _ _ _ _ _ _ T20 (mkF m 67 #[.val (.ref a1), .val (.long p2), .second] [])
        refine WGo.st (fun _ q => XS.aloadN S22.here hx rfl (hb hby d_prog_49_method_6_code_67) rfl rfl q) ?_
        show WGo _ _ _ _ _ _ _ _ T20 (mkF m 68 #[.val (.ref a1), .val (.long p2), .second] [(.ref a1)])
        refine WGo.st (fun _ q => XS.aloadN S22.here hx rfl (hb hby d_prog_49_method_6_code_68) rfl rfl q) ?_
        show WGo _ _ _ _ _ _ _ _ T20 (mkF m 69 #[.val (.ref a1), .val (.long p2), .second] [(.ref a1), (.ref a1)])
        refine w_getfield S22 hown (hw _ (List.mem_of_getElem? (i := 11) rfl)) Via.refl f27 rfl rfl (hb hby d_prog_49_method_6_code_69) ?_
        intro T31 S32
        show WGo _ _ _ _ _ _ _ _ T31 (mkF m 72 #[.val (.ref a1), .val (.long p2), .second] [(.long rs), (.ref a1)])
        refine WGo.st (fun _ q => XS.lconst S32.here hx rfl (hb hby d_prog_49_method_6_code_72) q) ?_
        show WGo _ _ _ _ _ _ _ _ T31 (mkF m 73 #[.val (.ref a1), .val (.long p2), .second] [(.long (0 : Int64)), (.long rs), (.ref a1)])
        refine w_static S32 (y := (⟨"java/lang/Math", "max", "(JJ)J"⟩ : MethodName)) hown (hw _ (List.mem_of_getElem? (i := 22) rfl)) (hw _ (List.mem_of_getElem? (i := 23) rfl)) (hw _ (List.mem_of_getElem? (i := 24) rfl)) (hw _ (List.mem_of_getElem? (i := 25) rfl)) (by decide) (rm_Mx l Z a0 hw n0 h21 rs (0 : Int64) S32.ge) (W := 1) (by decide) (by decide) (by decide) (by decide) rfl (by rw [hml]; rfl) (argsL := [(.long rs), (.long (0 : Int64))]) (rest := [(.ref a1)]) (ps := [.long, .long]) (rt := (some .long)) (by decide) rfl rfl rfl (by show 2 * 0 + _ ≤ _; exact Nat.le_of_eq rfl) (hb hby d_prog_49_method_6_code_73) ?_
        intro T33 h35 w36 S34 q37
        obtain ⟨q37a, q37b⟩ := q37
        subst q37a
        replace q37b := Eq.symm q37b
        subst q37b
        show WGo _ _ _ _ _ _ _ _ T33 (mkF m 76 #[.val (.ref a1), .val (.long p2), .second] [(.long (maxF rs (0 : Int64))), (.ref a1)])
        refine w_putfield S34 hown (hw _ (List.mem_of_getElem? (i := 11) rfl)) Via.refl f27 f26 (Or.inl (hw _ (List.mem_of_getElem? (i := 12) rfl))) (hw _ (List.mem_of_getElem? (i := 3) rfl)) g1 (ty := .long) (by decide) rfl rfl rfl rfl (hb hby d_prog_49_method_6_code_76) ?_
        intro T38 h39 S40 W42 K41
        have P43 := Keep.trans P25 K41 (allS (Or.inl (List.mem_of_getElem? (i := 0) rfl)) all0)
        have f44 := Exa.keep f26 K41
        have f45 : Fld Z h39 a1 "com/example/assay_shapes/assayshapes/RegexBudget" "mReserve" "J" (.long (maxF rs (0 : Int64))) := Fld.same W42 f27
        have f46 := Fld.other W42 f28 (Or.inr (slot_ne (a0 := a0) (C := "com/example/assay_shapes/assayshapes/RegexBudget") (Or.inl (hw _ (List.mem_of_getElem? (i := 19) rfl))) (Or.inl (hw _ (List.mem_of_getElem? (i := 12) rfl))) (by decide) (t := .long) (by decide) (t' := .long) (by decide)))
        have f47 := Fld.other W42 f29 (Or.inr (slot_ne (a0 := a0) (C := "com/example/assay_shapes/assayshapes/RegexBudget") (Or.inl (hw _ (List.mem_of_getElem? (i := 21) rfl))) (Or.inl (hw _ (List.mem_of_getElem? (i := 12) rfl))) (by decide) (t := .boolean) (by decide) (t' := .long) (by decide)))
        have f48 := Fld.other W42 f30 (Or.inr (slot_ne (a0 := a0) (C := "com/example/assay_shapes/assayshapes/RegexBudget") (Or.inl (hw _ (List.mem_of_getElem? (i := 27) rfl))) (Or.inl (hw _ (List.mem_of_getElem? (i := 12) rfl))) (by decide) (t := .boolean) (by decide) (t' := .long) (by decide)))
        show WGo _ _ _ _ _ _ _ _ T38 (mkF m 79 #[.val (.ref a1), .val (.long p2), .second] [])
        refine WGo.st (fun _ q => XS.aloadN S40.here hx rfl (hb hby d_prog_49_method_6_code_79) rfl rfl q) ?_
        show WGo _ _ _ _ _ _ _ _ T38 (mkF m 80 #[.val (.ref a1), .val (.long p2), .second] [(.ref a1)])
        refine WGo.st (fun _ q => XS.iconst S40.here hx rfl (hb hby d_prog_49_method_6_code_80) q) ?_
        show WGo _ _ _ _ _ _ _ _ T38 (mkF m 81 #[.val (.ref a1), .val (.long p2), .second] [(.int (1 : Int32)), (.ref a1)])
        refine w_putfield S40 hown (hw _ (List.mem_of_getElem? (i := 26) rfl)) Via.refl f48 f44 (Or.inl (hw _ (List.mem_of_getElem? (i := 27) rfl))) (hw _ (List.mem_of_getElem? (i := 3) rfl)) g1 (ty := .boolean) (by decide) rfl rfl rfl rfl (hb hby d_prog_49_method_6_code_81) ?_
        intro T49 h50 S51 W53 K52
        have P54 := Keep.trans P43 K52 (allS (Or.inl (List.mem_of_getElem? (i := 0) rfl)) all0)
        have f55 := Exa.keep f44 K52
        have f56 := Fld.other W53 f45 (Or.inr (slot_ne (a0 := a0) (C := "com/example/assay_shapes/assayshapes/RegexBudget") (Or.inl (hw _ (List.mem_of_getElem? (i := 12) rfl))) (Or.inl (hw _ (List.mem_of_getElem? (i := 27) rfl))) (by decide) (t := .long) (by decide) (t' := .boolean) (by decide)))
        have f57 := Fld.other W53 f46 (Or.inr (slot_ne (a0 := a0) (C := "com/example/assay_shapes/assayshapes/RegexBudget") (Or.inl (hw _ (List.mem_of_getElem? (i := 19) rfl))) (Or.inl (hw _ (List.mem_of_getElem? (i := 27) rfl))) (by decide) (t := .long) (by decide) (t' := .boolean) (by decide)))
        have f58 := Fld.other W53 f47 (Or.inr (slot_ne (a0 := a0) (C := "com/example/assay_shapes/assayshapes/RegexBudget") (Or.inl (hw _ (List.mem_of_getElem? (i := 21) rfl))) (Or.inl (hw _ (List.mem_of_getElem? (i := 27) rfl))) (by decide) (t := .boolean) (by decide) (t' := .boolean) (by decide)))
        have f59 : Fld Z h50 a1 "com/example/assay_shapes/assayshapes/RegexBudget" "mSpent" "Z" (.int (1 : Int32)) := Fld.same W53 f48
        show WGo _ _ _ _ _ _ _ _ T49 (mkF m 84 #[.val (.ref a1), .val (.long p2), .second] [])
        refine WGo.st (fun _ q => XS.aloadN S51.here hx rfl (hb hby d_prog_49_method_6_code_84) rfl rfl q) ?_
        show WGo _ _ _ _ _ _ _ _ T49 (mkF m 85 #[.val (.ref a1), .val (.long p2), .second] [(.ref a1)])
        refine w_getfield S51 hown (hw _ (List.mem_of_getElem? (i := 26) rfl)) Via.refl f59 rfl rfl (hb hby d_prog_49_method_6_code_85) ?_
        intro T60 S61
        show WGo _ _ _ _ _ _ _ _ T60 (mkF m 88 #[.val (.ref a1), .val (.long p2), .second] [(.int (1 : Int32))])
        refine WGo.st (fun _ q => XS.ifYes S61.here hx rfl (pc0 := 88) (pc' := 95) rfl (hb hby d_prog_49_method_6_code_88) rfl ((if0 _ _).trans (feq (by decide : ¬ ((1 : Int32) = (0 : Int32)))).2) (by decide) (by decide) q) ?_
        show WGo _ _ _ _ _ _ _ _ T60 (mkF m 95 #[.val (.ref a1), .val (.long p2), .second] [])
        refine WGo.st (fun _ q => XS.iconst S61.here hx rfl (hb hby d_prog_49_method_6_code_95) q) ?_
        show WGo _ _ _ _ _ _ _ _ T60 (mkF m 96 #[.val (.ref a1), .val (.long p2), .second] [(.int (0 : Int32))])
        refine w_retZ S61 hret (hb hby d_prog_49_method_6_code_96) (by decide) (by decide) (by decide) ?_
        first
          | exact absurd c16 c50
          | exact absurd c50 c16
          | (have hS : spendF rs ow rd sp p2 = ((maxF rs (0 : Int64)), (0 : Int64), (1 : Int32)) := by simp [spendF, sp2, *]
             unfold QP
             rw [hS]
             exact ⟨by simp [spOk, *], P54, f55, f56, f57, f58, f59⟩)
      · refine WGo.st (fun _ q => XS.ifNo S19.here hx rfl (hb hby d_prog_49_method_6_code_50) rfl (fltJ c50).1 q) ?_
        show WGo _ _ _ _ _ _ _ _ T18 (mkF m 53 #[.val (.ref a1), .val (.long p2), .second] [])
        refine WGo.st (fun _ q => XS.aloadN S19.here hx rfl (hb hby d_prog_49_method_6_code_53) rfl rfl q) ?_
        show WGo _ _ _ _ _ _ _ _ T18 (mkF m 54 #[.val (.ref a1), .val (.long p2), .second] [(.ref a1)])
        refine w_getfield S19 hown (hw _ (List.mem_of_getElem? (i := 11) rfl)) Via.refl f10 rfl rfl (hb hby d_prog_49_method_6_code_54) ?_
        intro T62 S63
        show WGo _ _ _ _ _ _ _ _ T62 (mkF m 57 #[.val (.ref a1), .val (.long p2), .second] [(.long rs)])
        refine WGo.st (fun _ q => XS.lconst S63.here hx rfl (hb hby d_prog_49_method_6_code_57) q) ?_
        show WGo _ _ _ _ _ _ _ _ T62 (mkF m 58 #[.val (.ref a1), .val (.long p2), .second] [(.long (0 : Int64)), (.long rs)])
        refine WGo.st (fun _ q => XS.lcmp S63.here hx rfl (hb hby d_prog_49_method_6_code_58) rfl q) ?_
        show WGo _ _ _ _ _ _ _ _ T62 (mkF m 59 #[.val (.ref a1), .val (.long p2), .second] [(.int (lcmpW rs (0 : Int64)))])
        by_cases c59 : rs < (0 : Int64)
        · refine WGo.st (fun _ q => XS.ifNo S63.here hx rfl (hb hby d_prog_49_method_6_code_59) rfl (tltJ c59).2 q) ?_
          show WGo _ _ _ _ _ _ _ _ T62 (mkF m 62 #[.val (.ref a1), .val (.long p2), .second] [])
          refine WGo.st (fun _ q => XS.aloadN S63.here hx rfl (hb hby d_prog_49_method_6_code_62) rfl rfl q) ?_
          show WGo _ _ _ _ _ _ _ _ T62 (mkF m 63 #[.val (.ref a1), .val (.long p2), .second] [(.ref a1)])
          refine WGo.st (fun _ q => XS.lconst S63.here hx rfl (hb hby d_prog_49_method_6_code_63) q) ?_
          show WGo _ _ _ _ _ _ _ _ T62 (mkF m 64 #[.val (.ref a1), .val (.long p2), .second] [(.long (0 : Int64)), (.ref a1)])
          refine w_putfield S63 hown (hw _ (List.mem_of_getElem? (i := 18) rfl)) Via.refl f11 f9 (Or.inl (hw _ (List.mem_of_getElem? (i := 19) rfl))) (hw _ (List.mem_of_getElem? (i := 3) rfl)) g1 (ty := .long) (by decide) rfl rfl rfl rfl (hb hby d_prog_49_method_6_code_64) ?_
          intro T64 h65 S66 W68 K67
          have P69 := Keep.trans P8 K67 (allS (Or.inl (List.mem_of_getElem? (i := 0) rfl)) all0)
          have f70 := Exa.keep f9 K67
          have f71 := Fld.other W68 f10 (Or.inr (slot_ne (a0 := a0) (C := "com/example/assay_shapes/assayshapes/RegexBudget") (Or.inl (hw _ (List.mem_of_getElem? (i := 12) rfl))) (Or.inl (hw _ (List.mem_of_getElem? (i := 19) rfl))) (by decide) (t := .long) (by decide) (t' := .long) (by decide)))
          have f72 : Fld Z h65 a1 "com/example/assay_shapes/assayshapes/RegexBudget" "mOwn" "J" (.long (0 : Int64)) := Fld.same W68 f11
          have f73 := Fld.other W68 f12 (Or.inr (slot_ne (a0 := a0) (C := "com/example/assay_shapes/assayshapes/RegexBudget") (Or.inl (hw _ (List.mem_of_getElem? (i := 21) rfl))) (Or.inl (hw _ (List.mem_of_getElem? (i := 19) rfl))) (by decide) (t := .boolean) (by decide) (t' := .long) (by decide)))
          have f74 := Fld.other W68 f13 (Or.inr (slot_ne (a0 := a0) (C := "com/example/assay_shapes/assayshapes/RegexBudget") (Or.inl (hw _ (List.mem_of_getElem? (i := 27) rfl))) (Or.inl (hw _ (List.mem_of_getElem? (i := 19) rfl))) (by decide) (t := .boolean) (by decide) (t' := .long) (by decide)))
          show WGo _ _ _ _ _ _ _ _ T64 (mkF m 67 #[.val (.ref a1), .val (.long p2), .second] [])
          refine WGo.st (fun _ q => XS.aloadN S66.here hx rfl (hb hby d_prog_49_method_6_code_67) rfl rfl q) ?_
          show WGo _ _ _ _ _ _ _ _ T64 (mkF m 68 #[.val (.ref a1), .val (.long p2), .second] [(.ref a1)])
          refine WGo.st (fun _ q => XS.aloadN S66.here hx rfl (hb hby d_prog_49_method_6_code_68) rfl rfl q) ?_
          show WGo _ _ _ _ _ _ _ _ T64 (mkF m 69 #[.val (.ref a1), .val (.long p2), .second] [(.ref a1), (.ref a1)])
          refine w_getfield S66 hown (hw _ (List.mem_of_getElem? (i := 11) rfl)) Via.refl f71 rfl rfl (hb hby d_prog_49_method_6_code_69) ?_
          intro T75 S76
          show WGo _ _ _ _ _ _ _ _ T75 (mkF m 72 #[.val (.ref a1), .val (.long p2), .second] [(.long rs), (.ref a1)])
          refine WGo.st (fun _ q => XS.lconst S76.here hx rfl (hb hby d_prog_49_method_6_code_72) q) ?_
          show WGo _ _ _ _ _ _ _ _ T75 (mkF m 73 #[.val (.ref a1), .val (.long p2), .second] [(.long (0 : Int64)), (.long rs), (.ref a1)])
          refine w_static S76 (y := (⟨"java/lang/Math", "max", "(JJ)J"⟩ : MethodName)) hown (hw _ (List.mem_of_getElem? (i := 22) rfl)) (hw _ (List.mem_of_getElem? (i := 23) rfl)) (hw _ (List.mem_of_getElem? (i := 24) rfl)) (hw _ (List.mem_of_getElem? (i := 25) rfl)) (by decide) (rm_Mx l Z a0 hw n0 h65 rs (0 : Int64) S76.ge) (W := 1) (by decide) (by decide) (by decide) (by decide) rfl (by rw [hml]; rfl) (argsL := [(.long rs), (.long (0 : Int64))]) (rest := [(.ref a1)]) (ps := [.long, .long]) (rt := (some .long)) (by decide) rfl rfl rfl (by show 2 * 0 + _ ≤ _; exact Nat.le_of_eq rfl) (hb hby d_prog_49_method_6_code_73) ?_
          intro T77 h79 w80 S78 q81
          obtain ⟨q81a, q81b⟩ := q81
          subst q81a
          replace q81b := Eq.symm q81b
          subst q81b
          show WGo _ _ _ _ _ _ _ _ T77 (mkF m 76 #[.val (.ref a1), .val (.long p2), .second] [(.long (maxF rs (0 : Int64))), (.ref a1)])
          refine w_putfield S78 hown (hw _ (List.mem_of_getElem? (i := 11) rfl)) Via.refl f71 f70 (Or.inl (hw _ (List.mem_of_getElem? (i := 12) rfl))) (hw _ (List.mem_of_getElem? (i := 3) rfl)) g1 (ty := .long) (by decide) rfl rfl rfl rfl (hb hby d_prog_49_method_6_code_76) ?_
          intro T82 h83 S84 W86 K85
          have P87 := Keep.trans P69 K85 (allS (Or.inl (List.mem_of_getElem? (i := 0) rfl)) all0)
          have f88 := Exa.keep f70 K85
          have f89 : Fld Z h83 a1 "com/example/assay_shapes/assayshapes/RegexBudget" "mReserve" "J" (.long (maxF rs (0 : Int64))) := Fld.same W86 f71
          have f90 := Fld.other W86 f72 (Or.inr (slot_ne (a0 := a0) (C := "com/example/assay_shapes/assayshapes/RegexBudget") (Or.inl (hw _ (List.mem_of_getElem? (i := 19) rfl))) (Or.inl (hw _ (List.mem_of_getElem? (i := 12) rfl))) (by decide) (t := .long) (by decide) (t' := .long) (by decide)))
          have f91 := Fld.other W86 f73 (Or.inr (slot_ne (a0 := a0) (C := "com/example/assay_shapes/assayshapes/RegexBudget") (Or.inl (hw _ (List.mem_of_getElem? (i := 21) rfl))) (Or.inl (hw _ (List.mem_of_getElem? (i := 12) rfl))) (by decide) (t := .boolean) (by decide) (t' := .long) (by decide)))
          have f92 := Fld.other W86 f74 (Or.inr (slot_ne (a0 := a0) (C := "com/example/assay_shapes/assayshapes/RegexBudget") (Or.inl (hw _ (List.mem_of_getElem? (i := 27) rfl))) (Or.inl (hw _ (List.mem_of_getElem? (i := 12) rfl))) (by decide) (t := .boolean) (by decide) (t' := .long) (by decide)))
          show WGo _ _ _ _ _ _ _ _ T82 (mkF m 79 #[.val (.ref a1), .val (.long p2), .second] [])
          refine WGo.st (fun _ q => XS.aloadN S84.here hx rfl (hb hby d_prog_49_method_6_code_79) rfl rfl q) ?_
          show WGo _ _ _ _ _ _ _ _ T82 (mkF m 80 #[.val (.ref a1), .val (.long p2), .second] [(.ref a1)])
          refine WGo.st (fun _ q => XS.iconst S84.here hx rfl (hb hby d_prog_49_method_6_code_80) q) ?_
          show WGo _ _ _ _ _ _ _ _ T82 (mkF m 81 #[.val (.ref a1), .val (.long p2), .second] [(.int (1 : Int32)), (.ref a1)])
          refine w_putfield S84 hown (hw _ (List.mem_of_getElem? (i := 26) rfl)) Via.refl f92 f88 (Or.inl (hw _ (List.mem_of_getElem? (i := 27) rfl))) (hw _ (List.mem_of_getElem? (i := 3) rfl)) g1 (ty := .boolean) (by decide) rfl rfl rfl rfl (hb hby d_prog_49_method_6_code_81) ?_
          intro T93 h94 S95 W97 K96
          have P98 := Keep.trans P87 K96 (allS (Or.inl (List.mem_of_getElem? (i := 0) rfl)) all0)
          have f99 := Exa.keep f88 K96
          have f100 := Fld.other W97 f89 (Or.inr (slot_ne (a0 := a0) (C := "com/example/assay_shapes/assayshapes/RegexBudget") (Or.inl (hw _ (List.mem_of_getElem? (i := 12) rfl))) (Or.inl (hw _ (List.mem_of_getElem? (i := 27) rfl))) (by decide) (t := .long) (by decide) (t' := .boolean) (by decide)))
          have f101 := Fld.other W97 f90 (Or.inr (slot_ne (a0 := a0) (C := "com/example/assay_shapes/assayshapes/RegexBudget") (Or.inl (hw _ (List.mem_of_getElem? (i := 19) rfl))) (Or.inl (hw _ (List.mem_of_getElem? (i := 27) rfl))) (by decide) (t := .long) (by decide) (t' := .boolean) (by decide)))
          have f102 := Fld.other W97 f91 (Or.inr (slot_ne (a0 := a0) (C := "com/example/assay_shapes/assayshapes/RegexBudget") (Or.inl (hw _ (List.mem_of_getElem? (i := 21) rfl))) (Or.inl (hw _ (List.mem_of_getElem? (i := 27) rfl))) (by decide) (t := .boolean) (by decide) (t' := .boolean) (by decide)))
          have f103 : Fld Z h94 a1 "com/example/assay_shapes/assayshapes/RegexBudget" "mSpent" "Z" (.int (1 : Int32)) := Fld.same W97 f92
          show WGo _ _ _ _ _ _ _ _ T93 (mkF m 84 #[.val (.ref a1), .val (.long p2), .second] [])
          refine WGo.st (fun _ q => XS.aloadN S95.here hx rfl (hb hby d_prog_49_method_6_code_84) rfl rfl q) ?_
          show WGo _ _ _ _ _ _ _ _ T93 (mkF m 85 #[.val (.ref a1), .val (.long p2), .second] [(.ref a1)])
          refine w_getfield S95 hown (hw _ (List.mem_of_getElem? (i := 26) rfl)) Via.refl f103 rfl rfl (hb hby d_prog_49_method_6_code_85) ?_
          intro T104 S105
          show WGo _ _ _ _ _ _ _ _ T104 (mkF m 88 #[.val (.ref a1), .val (.long p2), .second] [(.int (1 : Int32))])
          refine WGo.st (fun _ q => XS.ifYes S105.here hx rfl (pc0 := 88) (pc' := 95) rfl (hb hby d_prog_49_method_6_code_88) rfl ((if0 _ _).trans (feq (by decide : ¬ ((1 : Int32) = (0 : Int32)))).2) (by decide) (by decide) q) ?_
          show WGo _ _ _ _ _ _ _ _ T104 (mkF m 95 #[.val (.ref a1), .val (.long p2), .second] [])
          refine WGo.st (fun _ q => XS.iconst S105.here hx rfl (hb hby d_prog_49_method_6_code_95) q) ?_
          show WGo _ _ _ _ _ _ _ _ T104 (mkF m 96 #[.val (.ref a1), .val (.long p2), .second] [(.int (0 : Int32))])
          refine w_retZ S105 hret (hb hby d_prog_49_method_6_code_96) (by decide) (by decide) (by decide) ?_
          first
            | exact absurd c16 c50
            | exact absurd c50 c16
            | (have hS : spendF rs ow rd sp p2 = ((maxF rs (0 : Int64)), (0 : Int64), (1 : Int32)) := by simp [spendF, sp2, *]
               unfold QP
               rw [hS]
               exact ⟨by simp [spOk, *], P98, f99, f100, f101, f102, f103⟩)
        · refine WGo.st (fun _ q => XS.ifYes S63.here hx rfl (pc0 := 59) (pc' := 84) rfl (hb hby d_prog_49_method_6_code_59) rfl (fltJ c59).2 (by decide) (by decide) q) ?_
          show WGo _ _ _ _ _ _ _ _ T62 (mkF m 84 #[.val (.ref a1), .val (.long p2), .second] [])
          refine WGo.st (fun _ q => XS.aloadN S63.here hx rfl (hb hby d_prog_49_method_6_code_84) rfl rfl q) ?_
          show WGo _ _ _ _ _ _ _ _ T62 (mkF m 85 #[.val (.ref a1), .val (.long p2), .second] [(.ref a1)])
          refine w_getfield S63 hown (hw _ (List.mem_of_getElem? (i := 26) rfl)) Via.refl f13 rfl rfl (hb hby d_prog_49_method_6_code_85) ?_
          intro T106 S107
          show WGo _ _ _ _ _ _ _ _ T106 (mkF m 88 #[.val (.ref a1), .val (.long p2), .second] [(.int sp)])
          by_cases c88 : sp = (0 : Int32)
          · refine WGo.st (fun _ q => XS.ifNo S107.here hx rfl (hb hby d_prog_49_method_6_code_88) rfl ((if0 _ _).trans (teq c88).2) q) ?_
            show WGo _ _ _ _ _ _ _ _ T106 (mkF m 91 #[.val (.ref a1), .val (.long p2), .second] [])
            refine WGo.st (fun _ q => XS.iconst S107.here hx rfl (hb hby d_prog_49_method_6_code_91) q) ?_
            show WGo _ _ _ _ _ _ _ _ T106 (mkF m 92 #[.val (.ref a1), .val (.long p2), .second] [(.int (1 : Int32))])
            refine WGo.st (fun _ q => XS.goto S107.here hx rfl (pc0 := 92) (pc' := 96) rfl (hb hby d_prog_49_method_6_code_92) (by decide) (by decide) q) ?_
            show WGo _ _ _ _ _ _ _ _ T106 (mkF m 96 #[.val (.ref a1), .val (.long p2), .second] [(.int (1 : Int32))])
            refine w_retZ S107 hret (hb hby d_prog_49_method_6_code_96) (by decide) (by decide) (by decide) ?_
            first
              | exact absurd c16 c50
              | exact absurd c50 c16
              | (have hS : spendF rs ow rd sp p2 = (rs, (ow - p2), sp) := by simp [spendF, sp2, *]
                 unfold QP
                 rw [hS]
                 exact ⟨by simp [spOk, *], P8, f9, f10, f11, f12, f13⟩)
          · refine WGo.st (fun _ q => XS.ifYes S107.here hx rfl (pc0 := 88) (pc' := 95) rfl (hb hby d_prog_49_method_6_code_88) rfl ((if0 _ _).trans (feq c88).2) (by decide) (by decide) q) ?_
            show WGo _ _ _ _ _ _ _ _ T106 (mkF m 95 #[.val (.ref a1), .val (.long p2), .second] [])
            refine WGo.st (fun _ q => XS.iconst S107.here hx rfl (hb hby d_prog_49_method_6_code_95) q) ?_
            show WGo _ _ _ _ _ _ _ _ T106 (mkF m 96 #[.val (.ref a1), .val (.long p2), .second] [(.int (0 : Int32))])
            refine w_retZ S107 hret (hb hby d_prog_49_method_6_code_96) (by decide) (by decide) (by decide) ?_
            first
              | exact absurd c16 c50
              | exact absurd c50 c16
              | (have hS : spendF rs ow rd sp p2 = (rs, (ow - p2), sp) := by simp [spendF, sp2, *]
                 unfold QP
                 rw [hS]
                 exact ⟨by simp [spOk, *], P8, f9, f10, f11, f12, f13⟩)
    · refine WGo.st (fun _ q => XS.ifNo S17.here hx rfl (hb hby d_prog_49_method_6_code_23) rfl ((if0 _ _).trans (feq c23).1) q) ?_
      show WGo _ _ _ _ _ _ _ _ T16 (mkF m 26 #[.val (.ref a1), .val (.long p2), .second] [])
      refine WGo.st (fun _ q => XS.aloadN S17.here hx rfl (hb hby d_prog_49_method_6_code_26) rfl rfl q) ?_
      show WGo _ _ _ _ _ _ _ _ T16 (mkF m 27 #[.val (.ref a1), .val (.long p2), .second] [(.ref a1)])
      refine WGo.st (fun _ q => XS.dup S17.here hx rfl (hb hby d_prog_49_method_6_code_27) rfl rfl q) ?_
      show WGo _ _ _ _ _ _ _ _ T16 (mkF m 28 #[.val (.ref a1), .val (.long p2), .second] [(.ref a1), (.ref a1)])
      refine w_getfield S17 hown (hw _ (List.mem_of_getElem? (i := 11) rfl)) Via.refl f10 rfl rfl (hb hby d_prog_49_method_6_code_28) ?_
      intro T108 S109
      show WGo _ _ _ _ _ _ _ _ T108 (mkF m 31 #[.val (.ref a1), .val (.long p2), .second] [(.long rs), (.ref a1)])
      refine WGo.st (fun _ q => XS.aloadN S109.here hx rfl (hb hby d_prog_49_method_6_code_31) rfl rfl q) ?_
      show WGo _ _ _ _ _ _ _ _ T108 (mkF m 32 #[.val (.ref a1), .val (.long p2), .second] [(.ref a1), (.long rs), (.ref a1)])
      refine w_getfield S109 hown (hw _ (List.mem_of_getElem? (i := 18) rfl)) Via.refl f11 rfl rfl (hb hby d_prog_49_method_6_code_32) ?_
      intro T110 S111
      show WGo _ _ _ _ _ _ _ _ T110 (mkF m 35 #[.val (.ref a1), .val (.long p2), .second] [(.long (ow - p2)), (.long rs), (.ref a1)])
      refine WGo.st (fun _ q => XS.ladd S111.here hx rfl (hb hby d_prog_49_method_6_code_35) rfl q) ?_
      show WGo _ _ _ _ _ _ _ _ T110 (mkF m 36 #[.val (.ref a1), .val (.long p2), .second] [(.long (rs + (ow - p2))), (.ref a1)])
      refine w_putfield S111 hown (hw _ (List.mem_of_getElem? (i := 11) rfl)) Via.refl f10 f9 (Or.inl (hw _ (List.mem_of_getElem? (i := 12) rfl))) (hw _ (List.mem_of_getElem? (i := 3) rfl)) g1 (ty := .long) (by decide) rfl rfl rfl rfl (hb hby d_prog_49_method_6_code_36) ?_
      intro T112 h113 S114 W116 K115
      have P117 := Keep.trans P8 K115 (allS (Or.inl (List.mem_of_getElem? (i := 0) rfl)) all0)
      have f118 := Exa.keep f9 K115
      have f119 : Fld Z h113 a1 "com/example/assay_shapes/assayshapes/RegexBudget" "mReserve" "J" (.long (rs + (ow - p2))) := Fld.same W116 f10
      have f120 := Fld.other W116 f11 (Or.inr (slot_ne (a0 := a0) (C := "com/example/assay_shapes/assayshapes/RegexBudget") (Or.inl (hw _ (List.mem_of_getElem? (i := 19) rfl))) (Or.inl (hw _ (List.mem_of_getElem? (i := 12) rfl))) (by decide) (t := .long) (by decide) (t' := .long) (by decide)))
      have f121 := Fld.other W116 f12 (Or.inr (slot_ne (a0 := a0) (C := "com/example/assay_shapes/assayshapes/RegexBudget") (Or.inl (hw _ (List.mem_of_getElem? (i := 21) rfl))) (Or.inl (hw _ (List.mem_of_getElem? (i := 12) rfl))) (by decide) (t := .boolean) (by decide) (t' := .long) (by decide)))
      have f122 := Fld.other W116 f13 (Or.inr (slot_ne (a0 := a0) (C := "com/example/assay_shapes/assayshapes/RegexBudget") (Or.inl (hw _ (List.mem_of_getElem? (i := 27) rfl))) (Or.inl (hw _ (List.mem_of_getElem? (i := 12) rfl))) (by decide) (t := .boolean) (by decide) (t' := .long) (by decide)))
      show WGo _ _ _ _ _ _ _ _ T112 (mkF m 39 #[.val (.ref a1), .val (.long p2), .second] [])
      refine WGo.st (fun _ q => XS.aloadN S114.here hx rfl (hb hby d_prog_49_method_6_code_39) rfl rfl q) ?_
      show WGo _ _ _ _ _ _ _ _ T112 (mkF m 40 #[.val (.ref a1), .val (.long p2), .second] [(.ref a1)])
      refine WGo.st (fun _ q => XS.lconst S114.here hx rfl (hb hby d_prog_49_method_6_code_40) q) ?_
      show WGo _ _ _ _ _ _ _ _ T112 (mkF m 41 #[.val (.ref a1), .val (.long p2), .second] [(.long (0 : Int64)), (.ref a1)])
      refine w_putfield S114 hown (hw _ (List.mem_of_getElem? (i := 18) rfl)) Via.refl f120 f118 (Or.inl (hw _ (List.mem_of_getElem? (i := 19) rfl))) (hw _ (List.mem_of_getElem? (i := 3) rfl)) g1 (ty := .long) (by decide) rfl rfl rfl rfl (hb hby d_prog_49_method_6_code_41) ?_
      intro T123 h124 S125 W127 K126
      have P128 := Keep.trans P117 K126 (allS (Or.inl (List.mem_of_getElem? (i := 0) rfl)) all0)
      have f129 := Exa.keep f118 K126
      have f130 := Fld.other W127 f119 (Or.inr (slot_ne (a0 := a0) (C := "com/example/assay_shapes/assayshapes/RegexBudget") (Or.inl (hw _ (List.mem_of_getElem? (i := 12) rfl))) (Or.inl (hw _ (List.mem_of_getElem? (i := 19) rfl))) (by decide) (t := .long) (by decide) (t' := .long) (by decide)))
      have f131 : Fld Z h124 a1 "com/example/assay_shapes/assayshapes/RegexBudget" "mOwn" "J" (.long (0 : Int64)) := Fld.same W127 f120
      have f132 := Fld.other W127 f121 (Or.inr (slot_ne (a0 := a0) (C := "com/example/assay_shapes/assayshapes/RegexBudget") (Or.inl (hw _ (List.mem_of_getElem? (i := 21) rfl))) (Or.inl (hw _ (List.mem_of_getElem? (i := 19) rfl))) (by decide) (t := .boolean) (by decide) (t' := .long) (by decide)))
      have f133 := Fld.other W127 f122 (Or.inr (slot_ne (a0 := a0) (C := "com/example/assay_shapes/assayshapes/RegexBudget") (Or.inl (hw _ (List.mem_of_getElem? (i := 27) rfl))) (Or.inl (hw _ (List.mem_of_getElem? (i := 19) rfl))) (by decide) (t := .boolean) (by decide) (t' := .long) (by decide)))
      show WGo _ _ _ _ _ _ _ _ T123 (mkF m 44 #[.val (.ref a1), .val (.long p2), .second] [])
      refine WGo.st (fun _ q => XS.aloadN S125.here hx rfl (hb hby d_prog_49_method_6_code_44) rfl rfl q) ?_
      show WGo _ _ _ _ _ _ _ _ T123 (mkF m 45 #[.val (.ref a1), .val (.long p2), .second] [(.ref a1)])
      refine w_getfield S125 hown (hw _ (List.mem_of_getElem? (i := 18) rfl)) Via.refl f131 rfl rfl (hb hby d_prog_49_method_6_code_45) ?_
      intro T134 S135
      show WGo _ _ _ _ _ _ _ _ T134 (mkF m 48 #[.val (.ref a1), .val (.long p2), .second] [(.long (0 : Int64))])
      refine WGo.st (fun _ q => XS.lconst S135.here hx rfl (hb hby d_prog_49_method_6_code_48) q) ?_
      show WGo _ _ _ _ _ _ _ _ T134 (mkF m 49 #[.val (.ref a1), .val (.long p2), .second] [(.long (0 : Int64)), (.long (0 : Int64))])
      refine WGo.st (fun _ q => XS.lcmp S135.here hx rfl (hb hby d_prog_49_method_6_code_49) rfl q) ?_
      show WGo _ _ _ _ _ _ _ _ T134 (mkF m 50 #[.val (.ref a1), .val (.long p2), .second] [(.int (lcmpW (0 : Int64) (0 : Int64)))])
      refine WGo.st (fun _ q => XS.ifNo S135.here hx rfl (hb hby d_prog_49_method_6_code_50) rfl (fltJ (by decide : ¬ ((0 : Int64) < (0 : Int64)))).1 q) ?_
      show WGo _ _ _ _ _ _ _ _ T134 (mkF m 53 #[.val (.ref a1), .val (.long p2), .second] [])
      refine WGo.st (fun _ q => XS.aloadN S135.here hx rfl (hb hby d_prog_49_method_6_code_53) rfl rfl q) ?_
      show WGo _ _ _ _ _ _ _ _ T134 (mkF m 54 #[.val (.ref a1), .val (.long p2), .second] [(.ref a1)])
      refine w_getfield S135 hown (hw _ (List.mem_of_getElem? (i := 11) rfl)) Via.refl f130 rfl rfl (hb hby d_prog_49_method_6_code_54) ?_
      intro T136 S137
      show WGo _ _ _ _ _ _ _ _ T136 (mkF m 57 #[.val (.ref a1), .val (.long p2), .second] [(.long (rs + (ow - p2)))])
      refine WGo.st (fun _ q => XS.lconst S137.here hx rfl (hb hby d_prog_49_method_6_code_57) q) ?_
      show WGo _ _ _ _ _ _ _ _ T136 (mkF m 58 #[.val (.ref a1), .val (.long p2), .second] [(.long (0 : Int64)), (.long (rs + (ow - p2)))])
      refine WGo.st (fun _ q => XS.lcmp S137.here hx rfl (hb hby d_prog_49_method_6_code_58) rfl q) ?_
      show WGo _ _ _ _ _ _ _ _ T136 (mkF m 59 #[.val (.ref a1), .val (.long p2), .second] [(.int (lcmpW (rs + (ow - p2)) (0 : Int64)))])
      by_cases c59 : (rs + (ow - p2)) < (0 : Int64)
      · refine WGo.st (fun _ q => XS.ifNo S137.here hx rfl (hb hby d_prog_49_method_6_code_59) rfl (tltJ c59).2 q) ?_
        show WGo _ _ _ _ _ _ _ _ T136 (mkF m 62 #[.val (.ref a1), .val (.long p2), .second] [])
        refine WGo.st (fun _ q => XS.aloadN S137.here hx rfl (hb hby d_prog_49_method_6_code_62) rfl rfl q) ?_
        show WGo _ _ _ _ _ _ _ _ T136 (mkF m 63 #[.val (.ref a1), .val (.long p2), .second] [(.ref a1)])
        refine WGo.st (fun _ q => XS.lconst S137.here hx rfl (hb hby d_prog_49_method_6_code_63) q) ?_
        show WGo _ _ _ _ _ _ _ _ T136 (mkF m 64 #[.val (.ref a1), .val (.long p2), .second] [(.long (0 : Int64)), (.ref a1)])
        refine w_putfield S137 hown (hw _ (List.mem_of_getElem? (i := 18) rfl)) Via.refl f131 f129 (Or.inl (hw _ (List.mem_of_getElem? (i := 19) rfl))) (hw _ (List.mem_of_getElem? (i := 3) rfl)) g1 (ty := .long) (by decide) rfl rfl rfl rfl (hb hby d_prog_49_method_6_code_64) ?_
        intro T138 h139 S140 W142 K141
        have P143 := Keep.trans P128 K141 (allS (Or.inl (List.mem_of_getElem? (i := 0) rfl)) all0)
        have f144 := Exa.keep f129 K141
        have f145 := Fld.other W142 f130 (Or.inr (slot_ne (a0 := a0) (C := "com/example/assay_shapes/assayshapes/RegexBudget") (Or.inl (hw _ (List.mem_of_getElem? (i := 12) rfl))) (Or.inl (hw _ (List.mem_of_getElem? (i := 19) rfl))) (by decide) (t := .long) (by decide) (t' := .long) (by decide)))
        have f146 : Fld Z h139 a1 "com/example/assay_shapes/assayshapes/RegexBudget" "mOwn" "J" (.long (0 : Int64)) := Fld.same W142 f131
        have f147 := Fld.other W142 f132 (Or.inr (slot_ne (a0 := a0) (C := "com/example/assay_shapes/assayshapes/RegexBudget") (Or.inl (hw _ (List.mem_of_getElem? (i := 21) rfl))) (Or.inl (hw _ (List.mem_of_getElem? (i := 19) rfl))) (by decide) (t := .boolean) (by decide) (t' := .long) (by decide)))
        have f148 := Fld.other W142 f133 (Or.inr (slot_ne (a0 := a0) (C := "com/example/assay_shapes/assayshapes/RegexBudget") (Or.inl (hw _ (List.mem_of_getElem? (i := 27) rfl))) (Or.inl (hw _ (List.mem_of_getElem? (i := 19) rfl))) (by decide) (t := .boolean) (by decide) (t' := .long) (by decide)))
        show WGo _ _ _ _ _ _ _ _ T138 (mkF m 67 #[.val (.ref a1), .val (.long p2), .second] [])
        refine WGo.st (fun _ q => XS.aloadN S140.here hx rfl (hb hby d_prog_49_method_6_code_67) rfl rfl q) ?_
        show WGo _ _ _ _ _ _ _ _ T138 (mkF m 68 #[.val (.ref a1), .val (.long p2), .second] [(.ref a1)])
        refine WGo.st (fun _ q => XS.aloadN S140.here hx rfl (hb hby d_prog_49_method_6_code_68) rfl rfl q) ?_
        show WGo _ _ _ _ _ _ _ _ T138 (mkF m 69 #[.val (.ref a1), .val (.long p2), .second] [(.ref a1), (.ref a1)])
        refine w_getfield S140 hown (hw _ (List.mem_of_getElem? (i := 11) rfl)) Via.refl f145 rfl rfl (hb hby d_prog_49_method_6_code_69) ?_
        intro T149 S150
        show WGo _ _ _ _ _ _ _ _ T149 (mkF m 72 #[.val (.ref a1), .val (.long p2), .second] [(.long (rs + (ow - p2))), (.ref a1)])
        refine WGo.st (fun _ q => XS.lconst S150.here hx rfl (hb hby d_prog_49_method_6_code_72) q) ?_
        show WGo _ _ _ _ _ _ _ _ T149 (mkF m 73 #[.val (.ref a1), .val (.long p2), .second] [(.long (0 : Int64)), (.long (rs + (ow - p2))), (.ref a1)])
        refine w_static S150 (y := (⟨"java/lang/Math", "max", "(JJ)J"⟩ : MethodName)) hown (hw _ (List.mem_of_getElem? (i := 22) rfl)) (hw _ (List.mem_of_getElem? (i := 23) rfl)) (hw _ (List.mem_of_getElem? (i := 24) rfl)) (hw _ (List.mem_of_getElem? (i := 25) rfl)) (by decide) (rm_Mx l Z a0 hw n0 h139 (rs + (ow - p2)) (0 : Int64) S150.ge) (W := 1) (by decide) (by decide) (by decide) (by decide) rfl (by rw [hml]; rfl) (argsL := [(.long (rs + (ow - p2))), (.long (0 : Int64))]) (rest := [(.ref a1)]) (ps := [.long, .long]) (rt := (some .long)) (by decide) rfl rfl rfl (by show 2 * 0 + _ ≤ _; exact Nat.le_of_eq rfl) (hb hby d_prog_49_method_6_code_73) ?_
        intro T151 h153 w154 S152 q155
        obtain ⟨q155a, q155b⟩ := q155
        subst q155a
        replace q155b := Eq.symm q155b
        subst q155b
        show WGo _ _ _ _ _ _ _ _ T151 (mkF m 76 #[.val (.ref a1), .val (.long p2), .second] [(.long (maxF (rs + (ow - p2)) (0 : Int64))), (.ref a1)])
        refine w_putfield S152 hown (hw _ (List.mem_of_getElem? (i := 11) rfl)) Via.refl f145 f144 (Or.inl (hw _ (List.mem_of_getElem? (i := 12) rfl))) (hw _ (List.mem_of_getElem? (i := 3) rfl)) g1 (ty := .long) (by decide) rfl rfl rfl rfl (hb hby d_prog_49_method_6_code_76) ?_
        intro T156 h157 S158 W160 K159
        have P161 := Keep.trans P143 K159 (allS (Or.inl (List.mem_of_getElem? (i := 0) rfl)) all0)
        have f162 := Exa.keep f144 K159
        have f163 : Fld Z h157 a1 "com/example/assay_shapes/assayshapes/RegexBudget" "mReserve" "J" (.long (maxF (rs + (ow - p2)) (0 : Int64))) := Fld.same W160 f145
        have f164 := Fld.other W160 f146 (Or.inr (slot_ne (a0 := a0) (C := "com/example/assay_shapes/assayshapes/RegexBudget") (Or.inl (hw _ (List.mem_of_getElem? (i := 19) rfl))) (Or.inl (hw _ (List.mem_of_getElem? (i := 12) rfl))) (by decide) (t := .long) (by decide) (t' := .long) (by decide)))
        have f165 := Fld.other W160 f147 (Or.inr (slot_ne (a0 := a0) (C := "com/example/assay_shapes/assayshapes/RegexBudget") (Or.inl (hw _ (List.mem_of_getElem? (i := 21) rfl))) (Or.inl (hw _ (List.mem_of_getElem? (i := 12) rfl))) (by decide) (t := .boolean) (by decide) (t' := .long) (by decide)))
        have f166 := Fld.other W160 f148 (Or.inr (slot_ne (a0 := a0) (C := "com/example/assay_shapes/assayshapes/RegexBudget") (Or.inl (hw _ (List.mem_of_getElem? (i := 27) rfl))) (Or.inl (hw _ (List.mem_of_getElem? (i := 12) rfl))) (by decide) (t := .boolean) (by decide) (t' := .long) (by decide)))
        show WGo _ _ _ _ _ _ _ _ T156 (mkF m 79 #[.val (.ref a1), .val (.long p2), .second] [])
        refine WGo.st (fun _ q => XS.aloadN S158.here hx rfl (hb hby d_prog_49_method_6_code_79) rfl rfl q) ?_
        show WGo _ _ _ _ _ _ _ _ T156 (mkF m 80 #[.val (.ref a1), .val (.long p2), .second] [(.ref a1)])
        refine WGo.st (fun _ q => XS.iconst S158.here hx rfl (hb hby d_prog_49_method_6_code_80) q) ?_
        show WGo _ _ _ _ _ _ _ _ T156 (mkF m 81 #[.val (.ref a1), .val (.long p2), .second] [(.int (1 : Int32)), (.ref a1)])
        refine w_putfield S158 hown (hw _ (List.mem_of_getElem? (i := 26) rfl)) Via.refl f166 f162 (Or.inl (hw _ (List.mem_of_getElem? (i := 27) rfl))) (hw _ (List.mem_of_getElem? (i := 3) rfl)) g1 (ty := .boolean) (by decide) rfl rfl rfl rfl (hb hby d_prog_49_method_6_code_81) ?_
        intro T167 h168 S169 W171 K170
        have P172 := Keep.trans P161 K170 (allS (Or.inl (List.mem_of_getElem? (i := 0) rfl)) all0)
        have f173 := Exa.keep f162 K170
        have f174 := Fld.other W171 f163 (Or.inr (slot_ne (a0 := a0) (C := "com/example/assay_shapes/assayshapes/RegexBudget") (Or.inl (hw _ (List.mem_of_getElem? (i := 12) rfl))) (Or.inl (hw _ (List.mem_of_getElem? (i := 27) rfl))) (by decide) (t := .long) (by decide) (t' := .boolean) (by decide)))
        have f175 := Fld.other W171 f164 (Or.inr (slot_ne (a0 := a0) (C := "com/example/assay_shapes/assayshapes/RegexBudget") (Or.inl (hw _ (List.mem_of_getElem? (i := 19) rfl))) (Or.inl (hw _ (List.mem_of_getElem? (i := 27) rfl))) (by decide) (t := .long) (by decide) (t' := .boolean) (by decide)))
        have f176 := Fld.other W171 f165 (Or.inr (slot_ne (a0 := a0) (C := "com/example/assay_shapes/assayshapes/RegexBudget") (Or.inl (hw _ (List.mem_of_getElem? (i := 21) rfl))) (Or.inl (hw _ (List.mem_of_getElem? (i := 27) rfl))) (by decide) (t := .boolean) (by decide) (t' := .boolean) (by decide)))
        have f177 : Fld Z h168 a1 "com/example/assay_shapes/assayshapes/RegexBudget" "mSpent" "Z" (.int (1 : Int32)) := Fld.same W171 f166
        show WGo _ _ _ _ _ _ _ _ T167 (mkF m 84 #[.val (.ref a1), .val (.long p2), .second] [])
        refine WGo.st (fun _ q => XS.aloadN S169.here hx rfl (hb hby d_prog_49_method_6_code_84) rfl rfl q) ?_
        show WGo _ _ _ _ _ _ _ _ T167 (mkF m 85 #[.val (.ref a1), .val (.long p2), .second] [(.ref a1)])
        refine w_getfield S169 hown (hw _ (List.mem_of_getElem? (i := 26) rfl)) Via.refl f177 rfl rfl (hb hby d_prog_49_method_6_code_85) ?_
        intro T178 S179
        show WGo _ _ _ _ _ _ _ _ T178 (mkF m 88 #[.val (.ref a1), .val (.long p2), .second] [(.int (1 : Int32))])
        refine WGo.st (fun _ q => XS.ifYes S179.here hx rfl (pc0 := 88) (pc' := 95) rfl (hb hby d_prog_49_method_6_code_88) rfl ((if0 _ _).trans (feq (by decide : ¬ ((1 : Int32) = (0 : Int32)))).2) (by decide) (by decide) q) ?_
        show WGo _ _ _ _ _ _ _ _ T178 (mkF m 95 #[.val (.ref a1), .val (.long p2), .second] [])
        refine WGo.st (fun _ q => XS.iconst S179.here hx rfl (hb hby d_prog_49_method_6_code_95) q) ?_
        show WGo _ _ _ _ _ _ _ _ T178 (mkF m 96 #[.val (.ref a1), .val (.long p2), .second] [(.int (0 : Int32))])
        refine w_retZ S179 hret (hb hby d_prog_49_method_6_code_96) (by decide) (by decide) (by decide) ?_
        first
          | exact absurd c16 c50
          | exact absurd c50 c16
          | (have hS : spendF rs ow rd sp p2 = ((maxF (rs + (ow - p2)) (0 : Int64)), (0 : Int64), (1 : Int32)) := by simp [spendF, sp2, *]
             unfold QP
             rw [hS]
             exact ⟨by simp [spOk, *], P172, f173, f174, f175, f176, f177⟩)
      · refine WGo.st (fun _ q => XS.ifYes S137.here hx rfl (pc0 := 59) (pc' := 84) rfl (hb hby d_prog_49_method_6_code_59) rfl (fltJ c59).2 (by decide) (by decide) q) ?_
        show WGo _ _ _ _ _ _ _ _ T136 (mkF m 84 #[.val (.ref a1), .val (.long p2), .second] [])
        refine WGo.st (fun _ q => XS.aloadN S137.here hx rfl (hb hby d_prog_49_method_6_code_84) rfl rfl q) ?_
        show WGo _ _ _ _ _ _ _ _ T136 (mkF m 85 #[.val (.ref a1), .val (.long p2), .second] [(.ref a1)])
        refine w_getfield S137 hown (hw _ (List.mem_of_getElem? (i := 26) rfl)) Via.refl f133 rfl rfl (hb hby d_prog_49_method_6_code_85) ?_
        intro T180 S181
        show WGo _ _ _ _ _ _ _ _ T180 (mkF m 88 #[.val (.ref a1), .val (.long p2), .second] [(.int sp)])
        by_cases c88 : sp = (0 : Int32)
        · refine WGo.st (fun _ q => XS.ifNo S181.here hx rfl (hb hby d_prog_49_method_6_code_88) rfl ((if0 _ _).trans (teq c88).2) q) ?_
          show WGo _ _ _ _ _ _ _ _ T180 (mkF m 91 #[.val (.ref a1), .val (.long p2), .second] [])
          refine WGo.st (fun _ q => XS.iconst S181.here hx rfl (hb hby d_prog_49_method_6_code_91) q) ?_
          show WGo _ _ _ _ _ _ _ _ T180 (mkF m 92 #[.val (.ref a1), .val (.long p2), .second] [(.int (1 : Int32))])
          refine WGo.st (fun _ q => XS.goto S181.here hx rfl (pc0 := 92) (pc' := 96) rfl (hb hby d_prog_49_method_6_code_92) (by decide) (by decide) q) ?_
          show WGo _ _ _ _ _ _ _ _ T180 (mkF m 96 #[.val (.ref a1), .val (.long p2), .second] [(.int (1 : Int32))])
          refine w_retZ S181 hret (hb hby d_prog_49_method_6_code_96) (by decide) (by decide) (by decide) ?_
          first
            | exact absurd c16 c50
            | exact absurd c50 c16
            | (have hS : spendF rs ow rd sp p2 = ((rs + (ow - p2)), (0 : Int64), sp) := by simp [spendF, sp2, *]
               unfold QP
               rw [hS]
               exact ⟨by simp [spOk, *], P128, f129, f130, f131, f132, f133⟩)
        · refine WGo.st (fun _ q => XS.ifYes S181.here hx rfl (pc0 := 88) (pc' := 95) rfl (hb hby d_prog_49_method_6_code_88) rfl ((if0 _ _).trans (feq c88).2) (by decide) (by decide) q) ?_
          show WGo _ _ _ _ _ _ _ _ T180 (mkF m 95 #[.val (.ref a1), .val (.long p2), .second] [])
          refine WGo.st (fun _ q => XS.iconst S181.here hx rfl (hb hby d_prog_49_method_6_code_95) q) ?_
          show WGo _ _ _ _ _ _ _ _ T180 (mkF m 96 #[.val (.ref a1), .val (.long p2), .second] [(.int (0 : Int32))])
          refine w_retZ S181 hret (hb hby d_prog_49_method_6_code_96) (by decide) (by decide) (by decide) ?_
          first
            | exact absurd c16 c50
            | exact absurd c50 c16
            | (have hS : spendF rs ow rd sp p2 = ((rs + (ow - p2)), (0 : Int64), sp) := by simp [spendF, sp2, *]
               unfold QP
               rw [hS]
               exact ⟨by simp [spOk, *], P128, f129, f130, f131, f132, f133⟩)
  · refine WGo.st (fun _ q => XS.ifYes S15.here hx rfl (pc0 := 16) (pc' := 44) rfl (hb hby d_prog_49_method_6_code_16) rfl (fltJ c16).2 (by decide) (by decide) q) ?_
    show WGo _ _ _ _ _ _ _ _ T14 (mkF m 44 #[.val (.ref a1), .val (.long p2), .second] [])
    refine WGo.st (fun _ q => XS.aloadN S15.here hx rfl (hb hby d_prog_49_method_6_code_44) rfl rfl q) ?_
    show WGo _ _ _ _ _ _ _ _ T14 (mkF m 45 #[.val (.ref a1), .val (.long p2), .second] [(.ref a1)])
    refine w_getfield S15 hown (hw _ (List.mem_of_getElem? (i := 18) rfl)) Via.refl f11 rfl rfl (hb hby d_prog_49_method_6_code_45) ?_
    intro T182 S183
    show WGo _ _ _ _ _ _ _ _ T182 (mkF m 48 #[.val (.ref a1), .val (.long p2), .second] [(.long (ow - p2))])
    refine WGo.st (fun _ q => XS.lconst S183.here hx rfl (hb hby d_prog_49_method_6_code_48) q) ?_
    show WGo _ _ _ _ _ _ _ _ T182 (mkF m 49 #[.val (.ref a1), .val (.long p2), .second] [(.long (0 : Int64)), (.long (ow - p2))])
    refine WGo.st (fun _ q => XS.lcmp S183.here hx rfl (hb hby d_prog_49_method_6_code_49) rfl q) ?_
    show WGo _ _ _ _ _ _ _ _ T182 (mkF m 50 #[.val (.ref a1), .val (.long p2), .second] [(.int (lcmpW (ow - p2) (0 : Int64)))])
    by_cases c50 : (ow - p2) < (0 : Int64)
    · refine WGo.st (fun _ q => XS.ifYes S183.here hx rfl (pc0 := 50) (pc' := 62) rfl (hb hby d_prog_49_method_6_code_50) rfl (tltJ c50).1 (by decide) (by decide) q) ?_
      show WGo _ _ _ _ _ _ _ _ T182 (mkF m 62 #[.val (.ref a1), .val (.long p2), .second] [])
      refine WGo.st (fun _ q => XS.aloadN S183.here hx rfl (hb hby d_prog_49_method_6_code_62) rfl rfl q) ?_
      show WGo _ _ _ _ _ _ _ _ T182 (mkF m 63 #[.val (.ref a1), .val (.long p2), .second] [(.ref a1)])
      refine WGo.st (fun _ q => XS.lconst S183.here hx rfl (hb hby d_prog_49_method_6_code_63) q) ?_
      show WGo _ _ _ _ _ _ _ _ T182 (mkF m 64 #[.val (.ref a1), .val (.long p2), .second] [(.long (0 : Int64)), (.ref a1)])
      refine w_putfield S183 hown (hw _ (List.mem_of_getElem? (i := 18) rfl)) Via.refl f11 f9 (Or.inl (hw _ (List.mem_of_getElem? (i := 19) rfl))) (hw _ (List.mem_of_getElem? (i := 3) rfl)) g1 (ty := .long) (by decide) rfl rfl rfl rfl (hb hby d_prog_49_method_6_code_64) ?_
      intro T184 h185 S186 W188 K187
      have P189 := Keep.trans P8 K187 (allS (Or.inl (List.mem_of_getElem? (i := 0) rfl)) all0)
      have f190 := Exa.keep f9 K187
      have f191 := Fld.other W188 f10 (Or.inr (slot_ne (a0 := a0) (C := "com/example/assay_shapes/assayshapes/RegexBudget") (Or.inl (hw _ (List.mem_of_getElem? (i := 12) rfl))) (Or.inl (hw _ (List.mem_of_getElem? (i := 19) rfl))) (by decide) (t := .long) (by decide) (t' := .long) (by decide)))
      have f192 : Fld Z h185 a1 "com/example/assay_shapes/assayshapes/RegexBudget" "mOwn" "J" (.long (0 : Int64)) := Fld.same W188 f11
      have f193 := Fld.other W188 f12 (Or.inr (slot_ne (a0 := a0) (C := "com/example/assay_shapes/assayshapes/RegexBudget") (Or.inl (hw _ (List.mem_of_getElem? (i := 21) rfl))) (Or.inl (hw _ (List.mem_of_getElem? (i := 19) rfl))) (by decide) (t := .boolean) (by decide) (t' := .long) (by decide)))
      have f194 := Fld.other W188 f13 (Or.inr (slot_ne (a0 := a0) (C := "com/example/assay_shapes/assayshapes/RegexBudget") (Or.inl (hw _ (List.mem_of_getElem? (i := 27) rfl))) (Or.inl (hw _ (List.mem_of_getElem? (i := 19) rfl))) (by decide) (t := .boolean) (by decide) (t' := .long) (by decide)))
      show WGo _ _ _ _ _ _ _ _ T184 (mkF m 67 #[.val (.ref a1), .val (.long p2), .second] [])
      refine WGo.st (fun _ q => XS.aloadN S186.here hx rfl (hb hby d_prog_49_method_6_code_67) rfl rfl q) ?_
      show WGo _ _ _ _ _ _ _ _ T184 (mkF m 68 #[.val (.ref a1), .val (.long p2), .second] [(.ref a1)])
      refine WGo.st (fun _ q => XS.aloadN S186.here hx rfl (hb hby d_prog_49_method_6_code_68) rfl rfl q) ?_
      show WGo _ _ _ _ _ _ _ _ T184 (mkF m 69 #[.val (.ref a1), .val (.long p2), .second] [(.ref a1), (.ref a1)])
      refine w_getfield S186 hown (hw _ (List.mem_of_getElem? (i := 11) rfl)) Via.refl f191 rfl rfl (hb hby d_prog_49_method_6_code_69) ?_
      intro T195 S196
      show WGo _ _ _ _ _ _ _ _ T195 (mkF m 72 #[.val (.ref a1), .val (.long p2), .second] [(.long rs), (.ref a1)])
      refine WGo.st (fun _ q => XS.lconst S196.here hx rfl (hb hby d_prog_49_method_6_code_72) q) ?_
      show WGo _ _ _ _ _ _ _ _ T195 (mkF m 73 #[.val (.ref a1), .val (.long p2), .second] [(.long (0 : Int64)), (.long rs), (.ref a1)])
      refine w_static S196 (y := (⟨"java/lang/Math", "max", "(JJ)J"⟩ : MethodName)) hown (hw _ (List.mem_of_getElem? (i := 22) rfl)) (hw _ (List.mem_of_getElem? (i := 23) rfl)) (hw _ (List.mem_of_getElem? (i := 24) rfl)) (hw _ (List.mem_of_getElem? (i := 25) rfl)) (by decide) (rm_Mx l Z a0 hw n0 h185 rs (0 : Int64) S196.ge) (W := 1) (by decide) (by decide) (by decide) (by decide) rfl (by rw [hml]; rfl) (argsL := [(.long rs), (.long (0 : Int64))]) (rest := [(.ref a1)]) (ps := [.long, .long]) (rt := (some .long)) (by decide) rfl rfl rfl (by show 2 * 0 + _ ≤ _; exact Nat.le_of_eq rfl) (hb hby d_prog_49_method_6_code_73) ?_
      intro T197 h199 w200 S198 q201
      obtain ⟨q201a, q201b⟩ := q201
      subst q201a
      replace q201b := Eq.symm q201b
      subst q201b
      show WGo _ _ _ _ _ _ _ _ T197 (mkF m 76 #[.val (.ref a1), .val (.long p2), .second] [(.long (maxF rs (0 : Int64))), (.ref a1)])
      refine w_putfield S198 hown (hw _ (List.mem_of_getElem? (i := 11) rfl)) Via.refl f191 f190 (Or.inl (hw _ (List.mem_of_getElem? (i := 12) rfl))) (hw _ (List.mem_of_getElem? (i := 3) rfl)) g1 (ty := .long) (by decide) rfl rfl rfl rfl (hb hby d_prog_49_method_6_code_76) ?_
      intro T202 h203 S204 W206 K205
      have P207 := Keep.trans P189 K205 (allS (Or.inl (List.mem_of_getElem? (i := 0) rfl)) all0)
      have f208 := Exa.keep f190 K205
      have f209 : Fld Z h203 a1 "com/example/assay_shapes/assayshapes/RegexBudget" "mReserve" "J" (.long (maxF rs (0 : Int64))) := Fld.same W206 f191
      have f210 := Fld.other W206 f192 (Or.inr (slot_ne (a0 := a0) (C := "com/example/assay_shapes/assayshapes/RegexBudget") (Or.inl (hw _ (List.mem_of_getElem? (i := 19) rfl))) (Or.inl (hw _ (List.mem_of_getElem? (i := 12) rfl))) (by decide) (t := .long) (by decide) (t' := .long) (by decide)))
      have f211 := Fld.other W206 f193 (Or.inr (slot_ne (a0 := a0) (C := "com/example/assay_shapes/assayshapes/RegexBudget") (Or.inl (hw _ (List.mem_of_getElem? (i := 21) rfl))) (Or.inl (hw _ (List.mem_of_getElem? (i := 12) rfl))) (by decide) (t := .boolean) (by decide) (t' := .long) (by decide)))
      have f212 := Fld.other W206 f194 (Or.inr (slot_ne (a0 := a0) (C := "com/example/assay_shapes/assayshapes/RegexBudget") (Or.inl (hw _ (List.mem_of_getElem? (i := 27) rfl))) (Or.inl (hw _ (List.mem_of_getElem? (i := 12) rfl))) (by decide) (t := .boolean) (by decide) (t' := .long) (by decide)))
      show WGo _ _ _ _ _ _ _ _ T202 (mkF m 79 #[.val (.ref a1), .val (.long p2), .second] [])
      refine WGo.st (fun _ q => XS.aloadN S204.here hx rfl (hb hby d_prog_49_method_6_code_79) rfl rfl q) ?_
      show WGo _ _ _ _ _ _ _ _ T202 (mkF m 80 #[.val (.ref a1), .val (.long p2), .second] [(.ref a1)])
      refine WGo.st (fun _ q => XS.iconst S204.here hx rfl (hb hby d_prog_49_method_6_code_80) q) ?_
      show WGo _ _ _ _ _ _ _ _ T202 (mkF m 81 #[.val (.ref a1), .val (.long p2), .second] [(.int (1 : Int32)), (.ref a1)])
      refine w_putfield S204 hown (hw _ (List.mem_of_getElem? (i := 26) rfl)) Via.refl f212 f208 (Or.inl (hw _ (List.mem_of_getElem? (i := 27) rfl))) (hw _ (List.mem_of_getElem? (i := 3) rfl)) g1 (ty := .boolean) (by decide) rfl rfl rfl rfl (hb hby d_prog_49_method_6_code_81) ?_
      intro T213 h214 S215 W217 K216
      have P218 := Keep.trans P207 K216 (allS (Or.inl (List.mem_of_getElem? (i := 0) rfl)) all0)
      have f219 := Exa.keep f208 K216
      have f220 := Fld.other W217 f209 (Or.inr (slot_ne (a0 := a0) (C := "com/example/assay_shapes/assayshapes/RegexBudget") (Or.inl (hw _ (List.mem_of_getElem? (i := 12) rfl))) (Or.inl (hw _ (List.mem_of_getElem? (i := 27) rfl))) (by decide) (t := .long) (by decide) (t' := .boolean) (by decide)))
      have f221 := Fld.other W217 f210 (Or.inr (slot_ne (a0 := a0) (C := "com/example/assay_shapes/assayshapes/RegexBudget") (Or.inl (hw _ (List.mem_of_getElem? (i := 19) rfl))) (Or.inl (hw _ (List.mem_of_getElem? (i := 27) rfl))) (by decide) (t := .long) (by decide) (t' := .boolean) (by decide)))
      have f222 := Fld.other W217 f211 (Or.inr (slot_ne (a0 := a0) (C := "com/example/assay_shapes/assayshapes/RegexBudget") (Or.inl (hw _ (List.mem_of_getElem? (i := 21) rfl))) (Or.inl (hw _ (List.mem_of_getElem? (i := 27) rfl))) (by decide) (t := .boolean) (by decide) (t' := .boolean) (by decide)))
      have f223 : Fld Z h214 a1 "com/example/assay_shapes/assayshapes/RegexBudget" "mSpent" "Z" (.int (1 : Int32)) := Fld.same W217 f212
      show WGo _ _ _ _ _ _ _ _ T213 (mkF m 84 #[.val (.ref a1), .val (.long p2), .second] [])
      refine WGo.st (fun _ q => XS.aloadN S215.here hx rfl (hb hby d_prog_49_method_6_code_84) rfl rfl q) ?_
      show WGo _ _ _ _ _ _ _ _ T213 (mkF m 85 #[.val (.ref a1), .val (.long p2), .second] [(.ref a1)])
      refine w_getfield S215 hown (hw _ (List.mem_of_getElem? (i := 26) rfl)) Via.refl f223 rfl rfl (hb hby d_prog_49_method_6_code_85) ?_
      intro T224 S225
      show WGo _ _ _ _ _ _ _ _ T224 (mkF m 88 #[.val (.ref a1), .val (.long p2), .second] [(.int (1 : Int32))])
      refine WGo.st (fun _ q => XS.ifYes S225.here hx rfl (pc0 := 88) (pc' := 95) rfl (hb hby d_prog_49_method_6_code_88) rfl ((if0 _ _).trans (feq (by decide : ¬ ((1 : Int32) = (0 : Int32)))).2) (by decide) (by decide) q) ?_
      show WGo _ _ _ _ _ _ _ _ T224 (mkF m 95 #[.val (.ref a1), .val (.long p2), .second] [])
      refine WGo.st (fun _ q => XS.iconst S225.here hx rfl (hb hby d_prog_49_method_6_code_95) q) ?_
      show WGo _ _ _ _ _ _ _ _ T224 (mkF m 96 #[.val (.ref a1), .val (.long p2), .second] [(.int (0 : Int32))])
      refine w_retZ S225 hret (hb hby d_prog_49_method_6_code_96) (by decide) (by decide) (by decide) ?_
      first
        | exact absurd c16 c50
        | exact absurd c50 c16
        | (have hS : spendF rs ow rd sp p2 = ((maxF rs (0 : Int64)), (0 : Int64), (1 : Int32)) := by simp [spendF, sp2, *]
           unfold QP
           rw [hS]
           exact ⟨by simp [spOk, *], P218, f219, f220, f221, f222, f223⟩)
    · refine WGo.st (fun _ q => XS.ifNo S183.here hx rfl (hb hby d_prog_49_method_6_code_50) rfl (fltJ c50).1 q) ?_
      show WGo _ _ _ _ _ _ _ _ T182 (mkF m 53 #[.val (.ref a1), .val (.long p2), .second] [])
      refine WGo.st (fun _ q => XS.aloadN S183.here hx rfl (hb hby d_prog_49_method_6_code_53) rfl rfl q) ?_
      show WGo _ _ _ _ _ _ _ _ T182 (mkF m 54 #[.val (.ref a1), .val (.long p2), .second] [(.ref a1)])
      refine w_getfield S183 hown (hw _ (List.mem_of_getElem? (i := 11) rfl)) Via.refl f10 rfl rfl (hb hby d_prog_49_method_6_code_54) ?_
      intro T226 S227
      show WGo _ _ _ _ _ _ _ _ T226 (mkF m 57 #[.val (.ref a1), .val (.long p2), .second] [(.long rs)])
      refine WGo.st (fun _ q => XS.lconst S227.here hx rfl (hb hby d_prog_49_method_6_code_57) q) ?_
      show WGo _ _ _ _ _ _ _ _ T226 (mkF m 58 #[.val (.ref a1), .val (.long p2), .second] [(.long (0 : Int64)), (.long rs)])
      refine WGo.st (fun _ q => XS.lcmp S227.here hx rfl (hb hby d_prog_49_method_6_code_58) rfl q) ?_
      show WGo _ _ _ _ _ _ _ _ T226 (mkF m 59 #[.val (.ref a1), .val (.long p2), .second] [(.int (lcmpW rs (0 : Int64)))])
      by_cases c59 : rs < (0 : Int64)
      · refine WGo.st (fun _ q => XS.ifNo S227.here hx rfl (hb hby d_prog_49_method_6_code_59) rfl (tltJ c59).2 q) ?_
        show WGo _ _ _ _ _ _ _ _ T226 (mkF m 62 #[.val (.ref a1), .val (.long p2), .second] [])
        refine WGo.st (fun _ q => XS.aloadN S227.here hx rfl (hb hby d_prog_49_method_6_code_62) rfl rfl q) ?_
        show WGo _ _ _ _ _ _ _ _ T226 (mkF m 63 #[.val (.ref a1), .val (.long p2), .second] [(.ref a1)])
        refine WGo.st (fun _ q => XS.lconst S227.here hx rfl (hb hby d_prog_49_method_6_code_63) q) ?_
        show WGo _ _ _ _ _ _ _ _ T226 (mkF m 64 #[.val (.ref a1), .val (.long p2), .second] [(.long (0 : Int64)), (.ref a1)])
        refine w_putfield S227 hown (hw _ (List.mem_of_getElem? (i := 18) rfl)) Via.refl f11 f9 (Or.inl (hw _ (List.mem_of_getElem? (i := 19) rfl))) (hw _ (List.mem_of_getElem? (i := 3) rfl)) g1 (ty := .long) (by decide) rfl rfl rfl rfl (hb hby d_prog_49_method_6_code_64) ?_
        intro T228 h229 S230 W232 K231
        have P233 := Keep.trans P8 K231 (allS (Or.inl (List.mem_of_getElem? (i := 0) rfl)) all0)
        have f234 := Exa.keep f9 K231
        have f235 := Fld.other W232 f10 (Or.inr (slot_ne (a0 := a0) (C := "com/example/assay_shapes/assayshapes/RegexBudget") (Or.inl (hw _ (List.mem_of_getElem? (i := 12) rfl))) (Or.inl (hw _ (List.mem_of_getElem? (i := 19) rfl))) (by decide) (t := .long) (by decide) (t' := .long) (by decide)))
        have f236 : Fld Z h229 a1 "com/example/assay_shapes/assayshapes/RegexBudget" "mOwn" "J" (.long (0 : Int64)) := Fld.same W232 f11
        have f237 := Fld.other W232 f12 (Or.inr (slot_ne (a0 := a0) (C := "com/example/assay_shapes/assayshapes/RegexBudget") (Or.inl (hw _ (List.mem_of_getElem? (i := 21) rfl))) (Or.inl (hw _ (List.mem_of_getElem? (i := 19) rfl))) (by decide) (t := .boolean) (by decide) (t' := .long) (by decide)))
        have f238 := Fld.other W232 f13 (Or.inr (slot_ne (a0 := a0) (C := "com/example/assay_shapes/assayshapes/RegexBudget") (Or.inl (hw _ (List.mem_of_getElem? (i := 27) rfl))) (Or.inl (hw _ (List.mem_of_getElem? (i := 19) rfl))) (by decide) (t := .boolean) (by decide) (t' := .long) (by decide)))
        show WGo _ _ _ _ _ _ _ _ T228 (mkF m 67 #[.val (.ref a1), .val (.long p2), .second] [])
        refine WGo.st (fun _ q => XS.aloadN S230.here hx rfl (hb hby d_prog_49_method_6_code_67) rfl rfl q) ?_
        show WGo _ _ _ _ _ _ _ _ T228 (mkF m 68 #[.val (.ref a1), .val (.long p2), .second] [(.ref a1)])
        refine WGo.st (fun _ q => XS.aloadN S230.here hx rfl (hb hby d_prog_49_method_6_code_68) rfl rfl q) ?_
        show WGo _ _ _ _ _ _ _ _ T228 (mkF m 69 #[.val (.ref a1), .val (.long p2), .second] [(.ref a1), (.ref a1)])
        refine w_getfield S230 hown (hw _ (List.mem_of_getElem? (i := 11) rfl)) Via.refl f235 rfl rfl (hb hby d_prog_49_method_6_code_69) ?_
        intro T239 S240
        show WGo _ _ _ _ _ _ _ _ T239 (mkF m 72 #[.val (.ref a1), .val (.long p2), .second] [(.long rs), (.ref a1)])
        refine WGo.st (fun _ q => XS.lconst S240.here hx rfl (hb hby d_prog_49_method_6_code_72) q) ?_
        show WGo _ _ _ _ _ _ _ _ T239 (mkF m 73 #[.val (.ref a1), .val (.long p2), .second] [(.long (0 : Int64)), (.long rs), (.ref a1)])
        refine w_static S240 (y := (⟨"java/lang/Math", "max", "(JJ)J"⟩ : MethodName)) hown (hw _ (List.mem_of_getElem? (i := 22) rfl)) (hw _ (List.mem_of_getElem? (i := 23) rfl)) (hw _ (List.mem_of_getElem? (i := 24) rfl)) (hw _ (List.mem_of_getElem? (i := 25) rfl)) (by decide) (rm_Mx l Z a0 hw n0 h229 rs (0 : Int64) S240.ge) (W := 1) (by decide) (by decide) (by decide) (by decide) rfl (by rw [hml]; rfl) (argsL := [(.long rs), (.long (0 : Int64))]) (rest := [(.ref a1)]) (ps := [.long, .long]) (rt := (some .long)) (by decide) rfl rfl rfl (by show 2 * 0 + _ ≤ _; exact Nat.le_of_eq rfl) (hb hby d_prog_49_method_6_code_73) ?_
        intro T241 h243 w244 S242 q245
        obtain ⟨q245a, q245b⟩ := q245
        subst q245a
        replace q245b := Eq.symm q245b
        subst q245b
        show WGo _ _ _ _ _ _ _ _ T241 (mkF m 76 #[.val (.ref a1), .val (.long p2), .second] [(.long (maxF rs (0 : Int64))), (.ref a1)])
        refine w_putfield S242 hown (hw _ (List.mem_of_getElem? (i := 11) rfl)) Via.refl f235 f234 (Or.inl (hw _ (List.mem_of_getElem? (i := 12) rfl))) (hw _ (List.mem_of_getElem? (i := 3) rfl)) g1 (ty := .long) (by decide) rfl rfl rfl rfl (hb hby d_prog_49_method_6_code_76) ?_
        intro T246 h247 S248 W250 K249
        have P251 := Keep.trans P233 K249 (allS (Or.inl (List.mem_of_getElem? (i := 0) rfl)) all0)
        have f252 := Exa.keep f234 K249
        have f253 : Fld Z h247 a1 "com/example/assay_shapes/assayshapes/RegexBudget" "mReserve" "J" (.long (maxF rs (0 : Int64))) := Fld.same W250 f235
        have f254 := Fld.other W250 f236 (Or.inr (slot_ne (a0 := a0) (C := "com/example/assay_shapes/assayshapes/RegexBudget") (Or.inl (hw _ (List.mem_of_getElem? (i := 19) rfl))) (Or.inl (hw _ (List.mem_of_getElem? (i := 12) rfl))) (by decide) (t := .long) (by decide) (t' := .long) (by decide)))
        have f255 := Fld.other W250 f237 (Or.inr (slot_ne (a0 := a0) (C := "com/example/assay_shapes/assayshapes/RegexBudget") (Or.inl (hw _ (List.mem_of_getElem? (i := 21) rfl))) (Or.inl (hw _ (List.mem_of_getElem? (i := 12) rfl))) (by decide) (t := .boolean) (by decide) (t' := .long) (by decide)))
        have f256 := Fld.other W250 f238 (Or.inr (slot_ne (a0 := a0) (C := "com/example/assay_shapes/assayshapes/RegexBudget") (Or.inl (hw _ (List.mem_of_getElem? (i := 27) rfl))) (Or.inl (hw _ (List.mem_of_getElem? (i := 12) rfl))) (by decide) (t := .boolean) (by decide) (t' := .long) (by decide)))
        show WGo _ _ _ _ _ _ _ _ T246 (mkF m 79 #[.val (.ref a1), .val (.long p2), .second] [])
        refine WGo.st (fun _ q => XS.aloadN S248.here hx rfl (hb hby d_prog_49_method_6_code_79) rfl rfl q) ?_
        show WGo _ _ _ _ _ _ _ _ T246 (mkF m 80 #[.val (.ref a1), .val (.long p2), .second] [(.ref a1)])
        refine WGo.st (fun _ q => XS.iconst S248.here hx rfl (hb hby d_prog_49_method_6_code_80) q) ?_
        show WGo _ _ _ _ _ _ _ _ T246 (mkF m 81 #[.val (.ref a1), .val (.long p2), .second] [(.int (1 : Int32)), (.ref a1)])
        refine w_putfield S248 hown (hw _ (List.mem_of_getElem? (i := 26) rfl)) Via.refl f256 f252 (Or.inl (hw _ (List.mem_of_getElem? (i := 27) rfl))) (hw _ (List.mem_of_getElem? (i := 3) rfl)) g1 (ty := .boolean) (by decide) rfl rfl rfl rfl (hb hby d_prog_49_method_6_code_81) ?_
        intro T257 h258 S259 W261 K260
        have P262 := Keep.trans P251 K260 (allS (Or.inl (List.mem_of_getElem? (i := 0) rfl)) all0)
        have f263 := Exa.keep f252 K260
        have f264 := Fld.other W261 f253 (Or.inr (slot_ne (a0 := a0) (C := "com/example/assay_shapes/assayshapes/RegexBudget") (Or.inl (hw _ (List.mem_of_getElem? (i := 12) rfl))) (Or.inl (hw _ (List.mem_of_getElem? (i := 27) rfl))) (by decide) (t := .long) (by decide) (t' := .boolean) (by decide)))
        have f265 := Fld.other W261 f254 (Or.inr (slot_ne (a0 := a0) (C := "com/example/assay_shapes/assayshapes/RegexBudget") (Or.inl (hw _ (List.mem_of_getElem? (i := 19) rfl))) (Or.inl (hw _ (List.mem_of_getElem? (i := 27) rfl))) (by decide) (t := .long) (by decide) (t' := .boolean) (by decide)))
        have f266 := Fld.other W261 f255 (Or.inr (slot_ne (a0 := a0) (C := "com/example/assay_shapes/assayshapes/RegexBudget") (Or.inl (hw _ (List.mem_of_getElem? (i := 21) rfl))) (Or.inl (hw _ (List.mem_of_getElem? (i := 27) rfl))) (by decide) (t := .boolean) (by decide) (t' := .boolean) (by decide)))
        have f267 : Fld Z h258 a1 "com/example/assay_shapes/assayshapes/RegexBudget" "mSpent" "Z" (.int (1 : Int32)) := Fld.same W261 f256
        show WGo _ _ _ _ _ _ _ _ T257 (mkF m 84 #[.val (.ref a1), .val (.long p2), .second] [])
        refine WGo.st (fun _ q => XS.aloadN S259.here hx rfl (hb hby d_prog_49_method_6_code_84) rfl rfl q) ?_
        show WGo _ _ _ _ _ _ _ _ T257 (mkF m 85 #[.val (.ref a1), .val (.long p2), .second] [(.ref a1)])
        refine w_getfield S259 hown (hw _ (List.mem_of_getElem? (i := 26) rfl)) Via.refl f267 rfl rfl (hb hby d_prog_49_method_6_code_85) ?_
        intro T268 S269
        show WGo _ _ _ _ _ _ _ _ T268 (mkF m 88 #[.val (.ref a1), .val (.long p2), .second] [(.int (1 : Int32))])
        refine WGo.st (fun _ q => XS.ifYes S269.here hx rfl (pc0 := 88) (pc' := 95) rfl (hb hby d_prog_49_method_6_code_88) rfl ((if0 _ _).trans (feq (by decide : ¬ ((1 : Int32) = (0 : Int32)))).2) (by decide) (by decide) q) ?_
        show WGo _ _ _ _ _ _ _ _ T268 (mkF m 95 #[.val (.ref a1), .val (.long p2), .second] [])
        refine WGo.st (fun _ q => XS.iconst S269.here hx rfl (hb hby d_prog_49_method_6_code_95) q) ?_
        show WGo _ _ _ _ _ _ _ _ T268 (mkF m 96 #[.val (.ref a1), .val (.long p2), .second] [(.int (0 : Int32))])
        refine w_retZ S269 hret (hb hby d_prog_49_method_6_code_96) (by decide) (by decide) (by decide) ?_
        first
          | exact absurd c16 c50
          | exact absurd c50 c16
          | (have hS : spendF rs ow rd sp p2 = ((maxF rs (0 : Int64)), (0 : Int64), (1 : Int32)) := by simp [spendF, sp2, *]
             unfold QP
             rw [hS]
             exact ⟨by simp [spOk, *], P262, f263, f264, f265, f266, f267⟩)
      · refine WGo.st (fun _ q => XS.ifYes S227.here hx rfl (pc0 := 59) (pc' := 84) rfl (hb hby d_prog_49_method_6_code_59) rfl (fltJ c59).2 (by decide) (by decide) q) ?_
        show WGo _ _ _ _ _ _ _ _ T226 (mkF m 84 #[.val (.ref a1), .val (.long p2), .second] [])
        refine WGo.st (fun _ q => XS.aloadN S227.here hx rfl (hb hby d_prog_49_method_6_code_84) rfl rfl q) ?_
        show WGo _ _ _ _ _ _ _ _ T226 (mkF m 85 #[.val (.ref a1), .val (.long p2), .second] [(.ref a1)])
        refine w_getfield S227 hown (hw _ (List.mem_of_getElem? (i := 26) rfl)) Via.refl f13 rfl rfl (hb hby d_prog_49_method_6_code_85) ?_
        intro T270 S271
        show WGo _ _ _ _ _ _ _ _ T270 (mkF m 88 #[.val (.ref a1), .val (.long p2), .second] [(.int sp)])
        by_cases c88 : sp = (0 : Int32)
        · refine WGo.st (fun _ q => XS.ifNo S271.here hx rfl (hb hby d_prog_49_method_6_code_88) rfl ((if0 _ _).trans (teq c88).2) q) ?_
          show WGo _ _ _ _ _ _ _ _ T270 (mkF m 91 #[.val (.ref a1), .val (.long p2), .second] [])
          refine WGo.st (fun _ q => XS.iconst S271.here hx rfl (hb hby d_prog_49_method_6_code_91) q) ?_
          show WGo _ _ _ _ _ _ _ _ T270 (mkF m 92 #[.val (.ref a1), .val (.long p2), .second] [(.int (1 : Int32))])
          refine WGo.st (fun _ q => XS.goto S271.here hx rfl (pc0 := 92) (pc' := 96) rfl (hb hby d_prog_49_method_6_code_92) (by decide) (by decide) q) ?_
          show WGo _ _ _ _ _ _ _ _ T270 (mkF m 96 #[.val (.ref a1), .val (.long p2), .second] [(.int (1 : Int32))])
          refine w_retZ S271 hret (hb hby d_prog_49_method_6_code_96) (by decide) (by decide) (by decide) ?_
          first
            | exact absurd c16 c50
            | exact absurd c50 c16
            | (have hS : spendF rs ow rd sp p2 = (rs, (ow - p2), sp) := by simp [spendF, sp2, *]
               unfold QP
               rw [hS]
               exact ⟨by simp [spOk, *], P8, f9, f10, f11, f12, f13⟩)
        · refine WGo.st (fun _ q => XS.ifYes S271.here hx rfl (pc0 := 88) (pc' := 95) rfl (hb hby d_prog_49_method_6_code_88) rfl ((if0 _ _).trans (feq c88).2) (by decide) (by decide) q) ?_
          show WGo _ _ _ _ _ _ _ _ T270 (mkF m 95 #[.val (.ref a1), .val (.long p2), .second] [])
          refine WGo.st (fun _ q => XS.iconst S271.here hx rfl (hb hby d_prog_49_method_6_code_95) q) ?_
          show WGo _ _ _ _ _ _ _ _ T270 (mkF m 96 #[.val (.ref a1), .val (.long p2), .second] [(.int (0 : Int32))])
          refine w_retZ S271 hret (hb hby d_prog_49_method_6_code_96) (by decide) (by decide) (by decide) ?_
          first
            | exact absurd c16 c50
            | exact absurd c50 c16
            | (have hS : spendF rs ow rd sp p2 = (rs, (ow - p2), sp) := by simp [spendF, sp2, *]
               unfold QP
               rw [hS]
               exact ⟨by simp [spOk, *], P8, f9, f10, f11, f12, f13⟩)
theorem res1 (r : Int64) (h : ¬ r < (0 : Int64)) : (spendF r (0 : Int64) (0 : Int32) (0 : Int32) (1 : Int64)).1 = r := by
  have e : spendF r (0 : Int64) (0 : Int32) (0 : Int32) (1 : Int64) = (maxF r 0, 0, 1) := by
    have q : (0 : Int64) - 1 < 0 := by decide
    simp [spendF, sp2, q]
  rw [e]; simp [maxF, h]
theorem res3 (r : Int64) (h : ¬ r < (0 : Int64)) : (spendF r (autoF (5 : Int32) (1 : Int32) (3 : Int32)) (0 : Int32) (0 : Int32) (1099511627776 : Int64)).1 = r := by
  have q : autoF (5 : Int32) (1 : Int32) (3 : Int32) - 1099511627776 < 0 := by decide
  have e : spendF r (autoF (5 : Int32) (1 : Int32) (3 : Int32)) (0 : Int32) (0 : Int32) (1099511627776 : Int64) = (maxF r 0, 0, 1) := by
    simp [spendF, sp2, q]
  rw [e]; simp [maxF, h]
theorem spz (B : Int64) (b0 : 0 ≤ B.toInt) (b1 : B.toInt < 1099511627776) : B - (B + (1 : Int64)) = -1 := by
  have z1 : (1 : Int64).toInt = 1 := by decide
  have zm : (-1 : Int64).toInt = -1 := by decide
  have e1 := c_ladd B 1
  have r1 := rng64 (B + 1)
  have e2 := c_lsub B (B + 1)
  have r2 := rng64 (B - (B + 1))
  apply Int64.toInt_inj.mp; omega
theorem sp_zero (B : Int64) (b0 : 0 ≤ B.toInt) (b1 : B.toInt < 1099511627776) : spendF (0 : Int64) B (1 : Int32) (0 : Int32) (B + (1 : Int64)) = (0, 0, 1) := by
  unfold spendF
  rw [spz B b0 b1]
  decide
theorem sp_more (r B : Int64) (b0 : 0 ≤ B.toInt) (b1 : B.toInt < 1099511627776) (r0 : 0 ≤ r.toInt) (hr : ¬ r = (0 : Int64)) : spendF r B (1 : Int32) (0 : Int32) (B + (1 : Int64)) = (r + -1, 0, 0) := by
  have z1 : (-1 : Int64).toInt = -1 := by decide
  have z0 : (0 : Int64).toInt = 0 := by decide
  have hn : r.toInt ≠ 0 := fun q => hr (Int64.toInt_inj.mp (by rw [q, z0]))
  have e1 := c_ladd r (-1)
  have r1 := rng64 (r + -1)
  have rr := rng64 r
  have p : ¬ r + -1 < (0 : Int64) := by rw [Int64.lt_iff_toInt_lt]; omega
  unfold spendF
  rw [spz B b0 b1, if_pos (by decide), if_neg (by decide)]
  simp [sp2, p]
theorem lm1 (r : Int64) : (0 : Int64) + (r + -1) = r - (1 : Int64) := by
  have z1 : (1 : Int64).toInt = 1 := by decide
  have zm : (-1 : Int64).toInt = -1 := by decide
  have z0 : (0 : Int64).toInt = 0 := by decide
  have e1 := c_ladd r (-1)
  have e2 := c_ladd 0 (r + -1)
  have e3 := c_lsub r 1
  have r1 := rng64 (r + -1)
  have r2 := rng64 (0 + (r + -1))
  have r3 := rng64 (r - 1)
  apply Int64.toInt_inj.mp; omega
theorem back_rng (len : Int32) (h : 0 ≤ len.toInt) : 0 ≤ (backF len).toInt ∧ (backF len).toInt < 1099511627776 := by
  unfold backF
  have r := rng32 len
  have e0 := c_i2l len
  have e1 := c_ladd len.toInt64 1
  have z1 : (1 : Int64).toInt = 1 := by decide
  have z33 : (33 : Int64).toInt = 33 := by decide
  have r1 := rng64 (len.toInt64 + 1)
  have e2 := c_lmul 33 (len.toInt64 + 1)
  have r2 := rng64 (33 * (len.toInt64 + 1))
  rw [z33] at e2
  rw [z1] at e1
  have e3 : (len.toInt64 + 1).toInt = len.toInt + 1 := by omega
  rw [e3] at e2
  obtain ⟨k, hk⟩ := Int.dvd_of_emod_eq_zero e2
  rcases (by omega : k ≤ -1 ∨ k = 0 ∨ 1 ≤ k) with q | q | q <;> omega
def Q0 (Z : State) (n0 : Nat) (h0 : Heap) (p1 : Int32) (p2 : Int64) (p3 : Int32) (v : Option Value) (h : Heap) : Prop := v = some (.int 1)
theorem ef_0 (m : MethodId) (p1 : Int32) (p2 : Int64) (p3 : Int32) : entryFrame m #[(.int p1), (.long p2), (.int p3)] maxLocals = mkF m 0 #[.val (.int p1), .val (.long p2), .second, .val (.int p3), .unset, .unset, .unset, .unset, .unset, .unset, .unset, .unset] [] := by first | (simp [entryFrame, mkF, argsToLocals, Value.category, maxLocals]; done) | rfl
set_option maxRecDepth 65536 in
set_option maxHeartbeats 40000000 in
theorem rm_0 (l : Launch) (Z : State) (a0 : Array Value) (hw : ∀ d ∈ tables_1, d.before a0 Z = true) (n0 : Nat) (h0 : Heap) (p1 : Int32) (p2 : Int64) (p3 : Int32) (Z0 : n0 ≤ h0.size)  :
    WCon l Z n0 h0 x code maxLocals ret tables_1 room_1 #[(.int p1), (.long p2), (.int p3)] (Q0 Z n0 h0 p1 p2 p3) := by
  refine WCon.of (by first | exact plainFor_of_name (by decide +kernel) | decide +kernel) Z0 ?_
  intro p e s m below meth c T hx hZ hby hml hown hnm hret S
  refine WGo.cast (ef_0 m p1 p2 p3) ?_
  show WGo _ _ _ _ _ _ _ _ T (mkF m 0 #[.val (.int p1), .val (.long p2), .second, .val (.int p3), .unset, .unset, .unset, .unset, .unset, .unset, .unset, .unset] [])
  refine WGo.st (fun _ q => XS.lloadN S.here hx rfl (hb hby at_0) rfl q) ?_
  show WGo _ _ _ _ _ _ _ _ T (mkF m 1 #[.val (.int p1), .val (.long p2), .second, .val (.int p3), .unset, .unset, .unset, .unset, .unset, .unset, .unset, .unset] [(.long p2)])
  refine w_ldc2 S hown (hw _ (List.mem_of_getElem? (i := 0) rfl)) rfl (hb hby at_1) ?_
  show WGo _ _ _ _ _ _ _ _ T (mkF m 4 #[.val (.int p1), .val (.long p2), .second, .val (.int p3), .unset, .unset, .unset, .unset, .unset, .unset, .unset, .unset] [(.long (4611686018427387903 : Int64)), (.long p2)])
  refine WGo.st (fun _ q => XS.land S.here hx rfl (hb hby at_4) rfl q) ?_
  show WGo _ _ _ _ _ _ _ _ T (mkF m 5 #[.val (.int p1), .val (.long p2), .second, .val (.int p3), .unset, .unset, .unset, .unset, .unset, .unset, .unset, .unset] [(.long (p2 &&& (4611686018427387903 : Int64)))])
  refine WGo.st (fun _ q => XS.lstore S.here hx rfl (hb hby at_5) rfl (l' := #[.val (.int p1), .val (.long p2), .second, .val (.int p3), .val (.long (p2 &&& (4611686018427387903 : Int64))), .second, .unset, .unset, .unset, .unset, .unset, .unset]) rfl q) ?_
  show WGo _ _ _ _ _ _ _ _ T (mkF m 7 #[.val (.int p1), .val (.long p2), .second, .val (.int p3), .val (.long (p2 &&& (4611686018427387903 : Int64))), .second, .unset, .unset, .unset, .unset, .unset, .unset] [])
  generalize hv5 : (p2 &&& (4611686018427387903 : Int64)) = v5
  show WGo _ _ _ _ _ _ _ _ T (mkF m 7 #[.val (.int p1), .val (.long p2), .second, .val (.int p3), .val (.long v5), .second, .unset, .unset, .unset, .unset, .unset, .unset] [])
  refine WGo.st (fun _ q => XS.iloadN S.here hx rfl (hb hby at_7) rfl q) ?_
  show WGo _ _ _ _ _ _ _ _ T (mkF m 8 #[.val (.int p1), .val (.long p2), .second, .val (.int p3), .val (.long v5), .second, .unset, .unset, .unset, .unset, .unset, .unset] [(.int p1)])
  refine w_ldc S hown (hw _ (List.mem_of_getElem? (i := 1) rfl)) rfl (hb hby at_8) ?_
  show WGo _ _ _ _ _ _ _ _ T (mkF m 10 #[.val (.int p1), .val (.long p2), .second, .val (.int p3), .val (.long v5), .second, .unset, .unset, .unset, .unset, .unset, .unset] [(.int (2147483647 : Int32)), (.int p1)])
  refine WGo.st (fun _ q => XS.iand S.here hx rfl (hb hby at_10) rfl q) ?_
  show WGo _ _ _ _ _ _ _ _ T (mkF m 11 #[.val (.int p1), .val (.long p2), .second, .val (.int p3), .val (.long v5), .second, .unset, .unset, .unset, .unset, .unset, .unset] [(.int (p1 &&& (2147483647 : Int32)))])
  refine WGo.st (fun _ q => XS.istore S.here hx rfl (hb hby at_11) rfl (l' := #[.val (.int p1), .val (.long p2), .second, .val (.int p3), .val (.long v5), .second, .val (.int (p1 &&& (2147483647 : Int32))), .unset, .unset, .unset, .unset, .unset]) rfl q) ?_
  show WGo _ _ _ _ _ _ _ _ T (mkF m 13 #[.val (.int p1), .val (.long p2), .second, .val (.int p3), .val (.long v5), .second, .val (.int (p1 &&& (2147483647 : Int32))), .unset, .unset, .unset, .unset, .unset] [])
  generalize hv11 : (p1 &&& (2147483647 : Int32)) = v11
  show WGo _ _ _ _ _ _ _ _ T (mkF m 13 #[.val (.int p1), .val (.long p2), .second, .val (.int p3), .val (.long v5), .second, .val (.int v11), .unset, .unset, .unset, .unset, .unset] [])
  have hrs : 0 ≤ v5.toInt := by have := c_maskL p2 4611686018427387903 62 (by decide) (by decide); rw [← hv5]; omega
  have hr0 : ¬ v5 < (0 : Int64) := by rw [Int64.lt_iff_toInt_lt]; have z : (0 : Int64).toInt = 0 := (by decide); omega
  have hln : 0 ≤ v11.toInt := by have := c_mask p1 2147483647 31 (by decide) (by decide); rw [← hv11]; omega
  refine w_new S hown (hw _ (List.mem_of_getElem? (i := 2) rfl)) (hw _ (List.mem_of_getElem? (i := 3) rfl)) (hw _ (List.mem_of_getElem? (i := 4) rfl)) rfl (hb hby at_13) (by decide) (by decide) ?_
  intro T1 h2 aB S3 K4 e_aB g_aB E_aB D_aB
  have F_aB_mReserve : Fld Z h2 aB "com/example/assay_shapes/assayshapes/RegexBudget" "mReserve" "J" (.long (0 : Int64)) := D_aB (Or.inl (hw _ (List.mem_of_getElem? (i := 12) rfl))) (ty := .long) (by decide)
  have F_aB_mOwn : Fld Z h2 aB "com/example/assay_shapes/assayshapes/RegexBudget" "mOwn" "J" (.long (0 : Int64)) := D_aB (Or.inl (hw _ (List.mem_of_getElem? (i := 19) rfl))) (ty := .long) (by decide)
  have F_aB_mReserved : Fld Z h2 aB "com/example/assay_shapes/assayshapes/RegexBudget" "mReserved" "Z" (.int (0 : Int32)) := D_aB (Or.inl (hw _ (List.mem_of_getElem? (i := 21) rfl))) (ty := .boolean) (by decide)
  have F_aB_mSpent : Fld Z h2 aB "com/example/assay_shapes/assayshapes/RegexBudget" "mSpent" "Z" (.int (0 : Int32)) := D_aB (Or.inl (hw _ (List.mem_of_getElem? (i := 27) rfl))) (ty := .boolean) (by decide)
  show WGo _ _ _ _ _ _ _ _ T1 (mkF m 16 #[.val (.int p1), .val (.long p2), .second, .val (.int p3), .val (.long v5), .second, .val (.int v11), .unset, .unset, .unset, .unset, .unset] [(.ref aB)])
  refine WGo.st (fun _ q => XS.dup S3.here hx rfl (hb hby at_16) rfl rfl q) ?_
  show WGo _ _ _ _ _ _ _ _ T1 (mkF m 17 #[.val (.int p1), .val (.long p2), .second, .val (.int p3), .val (.long v5), .second, .val (.int v11), .unset, .unset, .unset, .unset, .unset] [(.ref aB), (.ref aB)])
  refine WGo.st (fun _ q => XS.lload S3.here hx rfl (hb hby at_17) rfl q) ?_
  show WGo _ _ _ _ _ _ _ _ T1 (mkF m 19 #[.val (.int p1), .val (.long p2), .second, .val (.int p3), .val (.long v5), .second, .val (.int v11), .unset, .unset, .unset, .unset, .unset] [(.long v5), (.ref aB), (.ref aB)])
  refine w_special S3 (y := (⟨"com/example/assay_shapes/assayshapes/RegexBudget", "<init>", "(J)V"⟩ : MethodName)) rfl hown (hw _ (List.mem_of_getElem? (i := 5) rfl)) (hw _ (List.mem_of_getElem? (i := 6) rfl)) (hw _ (List.mem_of_getElem? (i := 4) rfl)) (hw _ (List.mem_of_getElem? (i := 7) rfl)) (by decide) (rm_I l Z a0 hw n0 h2 aB v5 S3.ge g_aB E_aB F_aB_mReserve F_aB_mOwn F_aB_mReserved F_aB_mSpent) (W := 1) (by decide) (by decide) (by decide) (by decide) rfl (by rw [hml]; rfl) (argsL := [(.long v5)]) (rest := [(.ref aB)]) (ps := [.long]) (rt := none) (by decide) rfl rfl rfl (by show 2 * 0 + _ ≤ _; exact Nat.le_of_eq rfl) (hb hby at_19) ?_
  intro T5 h7 w8 S6 q9
  obtain ⟨q9a, q9K, q9f0, q9f1, q9f2, q9f3, q9f4⟩ := q9
  subst q9a
  show WGo _ _ _ _ _ _ _ _ T5 (mkF m 22 #[.val (.int p1), .val (.long p2), .second, .val (.int p3), .val (.long v5), .second, .val (.int v11), .unset, .unset, .unset, .unset, .unset] [(.ref aB)])
  refine WGo.st (fun _ q => XS.astore S6.here hx rfl (hb hby at_22) rfl rfl (l' := #[.val (.int p1), .val (.long p2), .second, .val (.int p3), .val (.long v5), .second, .val (.int v11), .val (.ref aB), .unset, .unset, .unset, .unset]) rfl q) ?_
  show WGo _ _ _ _ _ _ _ _ T5 (mkF m 24 #[.val (.int p1), .val (.long p2), .second, .val (.int p3), .val (.long v5), .second, .val (.int v11), .val (.ref aB), .unset, .unset, .unset, .unset] [])
  refine WGo.st (fun _ q => XS.iloadN S6.here hx rfl (hb hby at_24) rfl q) ?_
  show WGo _ _ _ _ _ _ _ _ T5 (mkF m 25 #[.val (.int p1), .val (.long p2), .second, .val (.int p3), .val (.long v5), .second, .val (.int v11), .val (.ref aB), .unset, .unset, .unset, .unset] [(.int p3)])
  refine WGo.st (fun _ q => XS.iconst S6.here hx rfl (hb hby at_25) q) ?_
  show WGo _ _ _ _ _ _ _ _ T5 (mkF m 26 #[.val (.int p1), .val (.long p2), .second, .val (.int p3), .val (.long v5), .second, .val (.int v11), .val (.ref aB), .unset, .unset, .unset, .unset] [(.int (3 : Int32)), (.int p3)])
  refine WGo.st (fun _ q => XS.iand S6.here hx rfl (hb hby at_26) rfl q) ?_
  show WGo _ _ _ _ _ _ _ _ T5 (mkF m 27 #[.val (.int p1), .val (.long p2), .second, .val (.int p3), .val (.long v5), .second, .val (.int v11), .val (.ref aB), .unset, .unset, .unset, .unset] [(.int (p3 &&& (3 : Int32)))])
  refine WGo.st (fun _ q => XS.istore S6.here hx rfl (hb hby at_27) rfl (l' := #[.val (.int p1), .val (.long p2), .second, .val (.int p3), .val (.long v5), .second, .val (.int v11), .val (.ref aB), .val (.int (p3 &&& (3 : Int32))), .unset, .unset, .unset]) rfl q) ?_
  show WGo _ _ _ _ _ _ _ _ T5 (mkF m 29 #[.val (.int p1), .val (.long p2), .second, .val (.int p3), .val (.long v5), .second, .val (.int v11), .val (.ref aB), .val (.int (p3 &&& (3 : Int32))), .unset, .unset, .unset] [])
  generalize hv27 : (p3 &&& (3 : Int32)) = v27
  show WGo _ _ _ _ _ _ _ _ T5 (mkF m 29 #[.val (.int p1), .val (.long p2), .second, .val (.int p3), .val (.long v5), .second, .val (.int v11), .val (.ref aB), .val (.int v27), .unset, .unset, .unset] [])
  refine WGo.st (fun _ q => XS.iload S6.here hx rfl (hb hby at_29) rfl q) ?_
  show WGo _ _ _ _ _ _ _ _ T5 (mkF m 31 #[.val (.int p1), .val (.long p2), .second, .val (.int p3), .val (.long v5), .second, .val (.int v11), .val (.ref aB), .val (.int v27), .unset, .unset, .unset] [(.int v27)])
  refine WGo.st (fun _ q => XS.iconst S6.here hx rfl (hb hby at_31) q) ?_
  show WGo _ _ _ _ _ _ _ _ T5 (mkF m 32 #[.val (.int p1), .val (.long p2), .second, .val (.int p3), .val (.long v5), .second, .val (.int v11), .val (.ref aB), .val (.int v27), .unset, .unset, .unset] [(.int (1 : Int32)), (.int v27)])
  by_cases c32 : v27 = (1 : Int32)
  · refine WGo.st (fun _ q => XS.icmpNo S6.here hx rfl (hb hby at_32) rfl (teq c32).2 q) ?_
    show WGo _ _ _ _ _ _ _ _ T5 (mkF m 35 #[.val (.int p1), .val (.long p2), .second, .val (.int p3), .val (.long v5), .second, .val (.int v11), .val (.ref aB), .val (.int v27), .unset, .unset, .unset] [])
    refine WGo.st (fun _ q => XS.aload S6.here hx rfl (hb hby at_35) rfl rfl q) ?_
    show WGo _ _ _ _ _ _ _ _ T5 (mkF m 37 #[.val (.int p1), .val (.long p2), .second, .val (.int p3), .val (.long v5), .second, .val (.int v11), .val (.ref aB), .val (.int v27), .unset, .unset, .unset] [(.ref aB)])
    refine WGo.st (fun _ q => XS.lconst S6.here hx rfl (hb hby at_37) q) ?_
    show WGo _ _ _ _ _ _ _ _ T5 (mkF m 38 #[.val (.int p1), .val (.long p2), .second, .val (.int p3), .val (.long v5), .second, .val (.int v11), .val (.ref aB), .val (.int v27), .unset, .unset, .unset] [(.long (1 : Int64)), (.ref aB)])
    refine w_virtual S6 (y := (⟨"com/example/assay_shapes/assayshapes/RegexBudget", "spend", "(J)Z"⟩ : MethodName)) hown (hw _ (List.mem_of_getElem? (i := 13) rfl)) (hw _ (List.mem_of_getElem? (i := 14) rfl)) (hw _ (List.mem_of_getElem? (i := 16) rfl)) (hw _ (List.mem_of_getElem? (i := 15) rfl)) (hw _ (List.mem_of_getElem? (i := 4) rfl)) (hw _ (List.mem_of_getElem? (i := 17) rfl)) (by decide) q9f0 (rm_P l Z a0 hw n0 h7 aB v5 (0 : Int64) (0 : Int32) (0 : Int32) (1 : Int64) S6.ge g_aB q9f0 q9f1 q9f2 q9f3 q9f4 (by decide)) (W := 0) (by decide) (by decide) (by decide) (by decide) rfl (by rw [hml]; rfl) (argsL := [(.long (1 : Int64))]) (rest := []) (ps := [.long]) (rt := (some .boolean)) (by decide) rfl rfl rfl (by show 2 * 0 + _ ≤ _; exact Nat.le_of_eq rfl) (hb hby at_38) ?_
    intro T10 h12 w13 S11 q14
    obtain ⟨q14a, q14K, q14f0, q14f1, q14f2, q14f3, q14f4⟩ := q14
    subst q14a
    show WGo _ _ _ _ _ _ _ _ T10 (mkF m 41 #[.val (.int p1), .val (.long p2), .second, .val (.int p3), .val (.long v5), .second, .val (.int v11), .val (.ref aB), .val (.int v27), .unset, .unset, .unset] [(.int (spOk (spendF v5 (0 : Int64) (0 : Int32) (0 : Int32) (1 : Int64))))])
    refine WGo.st (fun _ q => XS.pop S11.here hx rfl (hb hby at_41) rfl rfl q) ?_
    show WGo _ _ _ _ _ _ _ _ T10 (mkF m 42 #[.val (.int p1), .val (.long p2), .second, .val (.int p3), .val (.long v5), .second, .val (.int v11), .val (.ref aB), .val (.int v27), .unset, .unset, .unset] [])
    refine WGo.st (fun _ q => XS.goto S11.here hx rfl (pc0 := 42) (pc' := 91) rfl (hb hby at_42) (by decide) (by decide) q) ?_
    show WGo _ _ _ _ _ _ _ _ T10 (mkF m 91 #[.val (.int p1), .val (.long p2), .second, .val (.int p3), .val (.long v5), .second, .val (.int v11), .val (.ref aB), .val (.int v27), .unset, .unset, .unset] [])
    have fres : Fld Z h12 aB "com/example/assay_shapes/assayshapes/RegexBudget" "mReserve" "J" (.long v5) := by have q := q14f1; rw [res1 v5 hr0] at q; exact q
    refine w_ldc2 S11 hown (hw _ (List.mem_of_getElem? (i := 28) rfl)) rfl (hb hby at_91) ?_
    show WGo _ _ _ _ _ _ _ _ T10 (mkF m 94 #[.val (.int p1), .val (.long p2), .second, .val (.int p3), .val (.long v5), .second, .val (.int v11), .val (.ref aB), .val (.int v27), .unset, .unset, .unset] [(.long (33 : Int64))])
    refine WGo.st (fun _ q => XS.iload S11.here hx rfl (hb hby at_94) rfl q) ?_
    show WGo _ _ _ _ _ _ _ _ T10 (mkF m 96 #[.val (.int p1), .val (.long p2), .second, .val (.int p3), .val (.long v5), .second, .val (.int v11), .val (.ref aB), .val (.int v27), .unset, .unset, .unset] [(.int v11), (.long (33 : Int64))])
    refine WGo.st (fun _ q => XS.i2l S11.here hx rfl (hb hby at_96) rfl q) ?_
    show WGo _ _ _ _ _ _ _ _ T10 (mkF m 97 #[.val (.int p1), .val (.long p2), .second, .val (.int p3), .val (.long v5), .second, .val (.int v11), .val (.ref aB), .val (.int v27), .unset, .unset, .unset] [(.long (v11.toInt64)), (.long (33 : Int64))])
    refine WGo.st (fun _ q => XS.lconst S11.here hx rfl (hb hby at_97) q) ?_
    show WGo _ _ _ _ _ _ _ _ T10 (mkF m 98 #[.val (.int p1), .val (.long p2), .second, .val (.int p3), .val (.long v5), .second, .val (.int v11), .val (.ref aB), .val (.int v27), .unset, .unset, .unset] [(.long (1 : Int64)), (.long (v11.toInt64)), (.long (33 : Int64))])
    refine WGo.st (fun _ q => XS.ladd S11.here hx rfl (hb hby at_98) rfl q) ?_
    show WGo _ _ _ _ _ _ _ _ T10 (mkF m 99 #[.val (.int p1), .val (.long p2), .second, .val (.int p3), .val (.long v5), .second, .val (.int v11), .val (.ref aB), .val (.int v27), .unset, .unset, .unset] [(.long ((v11.toInt64) + (1 : Int64))), (.long (33 : Int64))])
    refine WGo.st (fun _ q => XS.lmul S11.here hx rfl (hb hby at_99) rfl q) ?_
    show WGo _ _ _ _ _ _ _ _ T10 (mkF m 100 #[.val (.int p1), .val (.long p2), .second, .val (.int p3), .val (.long v5), .second, .val (.int v11), .val (.ref aB), .val (.int v27), .unset, .unset, .unset] [(.long ((33 : Int64) * ((v11.toInt64) + (1 : Int64))))])
    refine WGo.st (fun _ q => XS.lstore S11.here hx rfl (hb hby at_100) rfl (l' := #[.val (.int p1), .val (.long p2), .second, .val (.int p3), .val (.long v5), .second, .val (.int v11), .val (.ref aB), .val (.int v27), .val (.long ((33 : Int64) * ((v11.toInt64) + (1 : Int64)))), .second, .unset]) rfl q) ?_
    show WGo _ _ _ _ _ _ _ _ T10 (mkF m 102 #[.val (.int p1), .val (.long p2), .second, .val (.int p3), .val (.long v5), .second, .val (.int v11), .val (.ref aB), .val (.int v27), .val (.long ((33 : Int64) * ((v11.toInt64) + (1 : Int64)))), .second, .unset] [])
    show WGo _ _ _ _ _ _ _ _ T10 (mkF m 102 #[.val (.int p1), .val (.long p2), .second, .val (.int p3), .val (.long v5), .second, .val (.int v11), .val (.ref aB), .val (.int v27), .val (.long (backF v11)), .second, .unset] [])
    refine WGo.st (fun _ q => XS.aload S11.here hx rfl (hb hby at_102) rfl rfl q) ?_
    show WGo _ _ _ _ _ _ _ _ T10 (mkF m 104 #[.val (.int p1), .val (.long p2), .second, .val (.int p3), .val (.long v5), .second, .val (.int v11), .val (.ref aB), .val (.int v27), .val (.long (backF v11)), .second, .unset] [(.ref aB)])
    refine WGo.st (fun _ q => XS.iload S11.here hx rfl (hb hby at_104) rfl q) ?_
    show WGo _ _ _ _ _ _ _ _ T10 (mkF m 106 #[.val (.int p1), .val (.long p2), .second, .val (.int p3), .val (.long v5), .second, .val (.int v11), .val (.ref aB), .val (.int v27), .val (.long (backF v11)), .second, .unset] [(.int v11), (.ref aB)])
    refine w_virtual S11 (y := (⟨"com/example/assay_shapes/assayshapes/RegexBudget", "beginBacktracking", "(I)V"⟩ : MethodName)) hown (hw _ (List.mem_of_getElem? (i := 29) rfl)) (hw _ (List.mem_of_getElem? (i := 30) rfl)) (hw _ (List.mem_of_getElem? (i := 32) rfl)) (hw _ (List.mem_of_getElem? (i := 31) rfl)) (hw _ (List.mem_of_getElem? (i := 4) rfl)) (hw _ (List.mem_of_getElem? (i := 33) rfl)) (by decide) q14f0 (rm_T l Z a0 hw n0 h12 aB v5 (spendF v5 (0 : Int64) (0 : Int32) (0 : Int32) (1 : Int64)).2.1 (0 : Int32) (spendF v5 (0 : Int64) (0 : Int32) (0 : Int32) (1 : Int64)).2.2 v11 S11.ge g_aB q14f0 fres q14f2 q14f3 q14f4) (W := 0) (by decide) (by decide) (by decide) (by decide) rfl (by rw [hml]; rfl) (argsL := [(.int v11)]) (rest := []) (ps := [.int]) (rt := none) (by decide) rfl rfl rfl (by show 2 * 0 + _ ≤ _; exact Nat.le_of_eq rfl) (hb hby at_106) ?_
    intro T15 h17 w18 S16 q19
    obtain ⟨q19a, q19K, q19f0, q19f1, q19f2, q19f3, q19f4⟩ := q19
    subst q19a
    show WGo _ _ _ _ _ _ _ _ T15 (mkF m 109 #[.val (.int p1), .val (.long p2), .second, .val (.int p3), .val (.long v5), .second, .val (.int v11), .val (.ref aB), .val (.int v27), .val (.long (backF v11)), .second, .unset] [])
    refine WGo.st (fun _ q => XS.aload S16.here hx rfl (hb hby at_109) rfl rfl q) ?_
    show WGo _ _ _ _ _ _ _ _ T15 (mkF m 111 #[.val (.int p1), .val (.long p2), .second, .val (.int p3), .val (.long v5), .second, .val (.int v11), .val (.ref aB), .val (.int v27), .val (.long (backF v11)), .second, .unset] [(.ref aB)])
    refine w_virtual S16 (y := (⟨"com/example/assay_shapes/assayshapes/RegexBudget", "isSpent", "()Z"⟩ : MethodName)) hown (hw _ (List.mem_of_getElem? (i := 39) rfl)) (hw _ (List.mem_of_getElem? (i := 40) rfl)) (hw _ (List.mem_of_getElem? (i := 42) rfl)) (hw _ (List.mem_of_getElem? (i := 41) rfl)) (hw _ (List.mem_of_getElem? (i := 4) rfl)) (hw _ (List.mem_of_getElem? (i := 43) rfl)) (by decide) q19f0 (rm_S l Z a0 hw n0 h17 aB v5 (backF v11) (1 : Int32) (0 : Int32) S16.ge q19f0 q19f1 q19f2 q19f3 q19f4 (by decide)) (W := 0) (by decide) (by decide) (by decide) (by decide) rfl (by rw [hml]; rfl) (argsL := []) (rest := []) (ps := []) (rt := (some .boolean)) (by decide) rfl rfl rfl (by show 2 * 0 + _ ≤ _; exact Nat.le_of_eq rfl) (hb hby at_111) ?_
    intro T20 h22 w23 S21 q24
    obtain ⟨q24a, q24b⟩ := q24
    subst q24a
    replace q24b := Eq.symm q24b
    subst q24b
    show WGo _ _ _ _ _ _ _ _ T20 (mkF m 114 #[.val (.int p1), .val (.long p2), .second, .val (.int p3), .val (.long v5), .second, .val (.int v11), .val (.ref aB), .val (.int v27), .val (.long (backF v11)), .second, .unset] [(.int (0 : Int32))])
    refine WGo.st (fun _ q => XS.ifYes S21.here hx rfl (pc0 := 114) (pc' := 119) rfl (hb hby at_114) rfl ((if0 _ _).trans (teq (by decide : ((0 : Int32) = (0 : Int32)))).1) (by decide) (by decide) q) ?_
    show WGo _ _ _ _ _ _ _ _ T20 (mkF m 119 #[.val (.int p1), .val (.long p2), .second, .val (.int p3), .val (.long v5), .second, .val (.int v11), .val (.ref aB), .val (.int v27), .val (.long (backF v11)), .second, .unset] [])
    refine WGo.st (fun _ q => XS.aload S21.here hx rfl (hb hby at_119) rfl rfl q) ?_
    show WGo _ _ _ _ _ _ _ _ T20 (mkF m 121 #[.val (.int p1), .val (.long p2), .second, .val (.int p3), .val (.long v5), .second, .val (.int v11), .val (.ref aB), .val (.int v27), .val (.long (backF v11)), .second, .unset] [(.ref aB)])
    refine w_virtual S21 (y := (⟨"com/example/assay_shapes/assayshapes/RegexBudget", "left", "()J"⟩ : MethodName)) hown (hw _ (List.mem_of_getElem? (i := 44) rfl)) (hw _ (List.mem_of_getElem? (i := 45) rfl)) (hw _ (List.mem_of_getElem? (i := 47) rfl)) (hw _ (List.mem_of_getElem? (i := 46) rfl)) (hw _ (List.mem_of_getElem? (i := 4) rfl)) (hw _ (List.mem_of_getElem? (i := 48) rfl)) (by decide) q19f0 (rm_L l Z a0 hw n0 h17 aB v5 (backF v11) (1 : Int32) (0 : Int32) S21.ge q19f0 q19f1 q19f2 q19f3 q19f4) (W := 0) (by decide) (by decide) (by decide) (by decide) rfl (by rw [hml]; rfl) (argsL := []) (rest := []) (ps := []) (rt := (some .long)) (by decide) rfl rfl rfl (by show 2 * 0 + _ ≤ _; exact Nat.le_of_eq rfl) (hb hby at_121) ?_
    intro T25 h27 w28 S26 q29
    obtain ⟨q29a, q29b⟩ := q29
    subst q29a
    replace q29b := Eq.symm q29b
    subst q29b
    show WGo _ _ _ _ _ _ _ _ T25 (mkF m 124 #[.val (.int p1), .val (.long p2), .second, .val (.int p3), .val (.long v5), .second, .val (.int v11), .val (.ref aB), .val (.int v27), .val (.long (backF v11)), .second, .unset] [(.long (leftF v5 (backF v11) (1 : Int32)))])
    refine WGo.st (fun _ q => XS.lload S26.here hx rfl (hb hby at_124) rfl q) ?_
    show WGo _ _ _ _ _ _ _ _ T25 (mkF m 126 #[.val (.int p1), .val (.long p2), .second, .val (.int p3), .val (.long v5), .second, .val (.int v11), .val (.ref aB), .val (.int v27), .val (.long (backF v11)), .second, .unset] [(.long (backF v11)), (.long (leftF v5 (backF v11) (1 : Int32)))])
    refine WGo.st (fun _ q => XS.lload S26.here hx rfl (hb hby at_126) rfl q) ?_
    show WGo _ _ _ _ _ _ _ _ T25 (mkF m 128 #[.val (.int p1), .val (.long p2), .second, .val (.int p3), .val (.long v5), .second, .val (.int v11), .val (.ref aB), .val (.int v27), .val (.long (backF v11)), .second, .unset] [(.long v5), (.long (backF v11)), (.long (leftF v5 (backF v11) (1 : Int32)))])
    refine WGo.st (fun _ q => XS.ladd S26.here hx rfl (hb hby at_128) rfl q) ?_
    show WGo _ _ _ _ _ _ _ _ T25 (mkF m 129 #[.val (.int p1), .val (.long p2), .second, .val (.int p3), .val (.long v5), .second, .val (.int v11), .val (.ref aB), .val (.int v27), .val (.long (backF v11)), .second, .unset] [(.long ((backF v11) + v5)), (.long (leftF v5 (backF v11) (1 : Int32)))])
    refine WGo.st (fun _ q => XS.lcmp S26.here hx rfl (hb hby at_129) rfl q) ?_
    show WGo _ _ _ _ _ _ _ _ T25 (mkF m 130 #[.val (.int p1), .val (.long p2), .second, .val (.int p3), .val (.long v5), .second, .val (.int v11), .val (.ref aB), .val (.int v27), .val (.long (backF v11)), .second, .unset] [(.int (lcmpW (leftF v5 (backF v11) (1 : Int32)) ((backF v11) + v5)))])
    refine WGo.st (fun _ q => XS.ifYes S26.here hx rfl (pc0 := 130) (pc' := 135) rfl (hb hby at_130) rfl (teqJ (by unfold leftF; rw [if_neg (by decide)])).1 (by decide) (by decide) q) ?_
    show WGo _ _ _ _ _ _ _ _ T25 (mkF m 135 #[.val (.int p1), .val (.long p2), .second, .val (.int p3), .val (.long v5), .second, .val (.int v11), .val (.ref aB), .val (.int v27), .val (.long (backF v11)), .second, .unset] [])
    refine WGo.st (fun _ q => XS.aload S26.here hx rfl (hb hby at_135) rfl rfl q) ?_
    show WGo _ _ _ _ _ _ _ _ T25 (mkF m 137 #[.val (.int p1), .val (.long p2), .second, .val (.int p3), .val (.long v5), .second, .val (.int v11), .val (.ref aB), .val (.int v27), .val (.long (backF v11)), .second, .unset] [(.ref aB)])
    refine WGo.st (fun _ q => XS.lload S26.here hx rfl (hb hby at_137) rfl q) ?_
    show WGo _ _ _ _ _ _ _ _ T25 (mkF m 139 #[.val (.int p1), .val (.long p2), .second, .val (.int p3), .val (.long v5), .second, .val (.int v11), .val (.ref aB), .val (.int v27), .val (.long (backF v11)), .second, .unset] [(.long (backF v11)), (.ref aB)])
    refine WGo.st (fun _ q => XS.lconst S26.here hx rfl (hb hby at_139) q) ?_
    show WGo _ _ _ _ _ _ _ _ T25 (mkF m 140 #[.val (.int p1), .val (.long p2), .second, .val (.int p3), .val (.long v5), .second, .val (.int v11), .val (.ref aB), .val (.int v27), .val (.long (backF v11)), .second, .unset] [(.long (1 : Int64)), (.long (backF v11)), (.ref aB)])
    refine WGo.st (fun _ q => XS.ladd S26.here hx rfl (hb hby at_140) rfl q) ?_
    show WGo _ _ _ _ _ _ _ _ T25 (mkF m 141 #[.val (.int p1), .val (.long p2), .second, .val (.int p3), .val (.long v5), .second, .val (.int v11), .val (.ref aB), .val (.int v27), .val (.long (backF v11)), .second, .unset] [(.long ((backF v11) + (1 : Int64))), (.ref aB)])
    refine w_virtual S26 (y := (⟨"com/example/assay_shapes/assayshapes/RegexBudget", "spend", "(J)Z"⟩ : MethodName)) hown (hw _ (List.mem_of_getElem? (i := 13) rfl)) (hw _ (List.mem_of_getElem? (i := 14) rfl)) (hw _ (List.mem_of_getElem? (i := 16) rfl)) (hw _ (List.mem_of_getElem? (i := 15) rfl)) (hw _ (List.mem_of_getElem? (i := 4) rfl)) (hw _ (List.mem_of_getElem? (i := 17) rfl)) (by decide) q19f0 (rm_P l Z a0 hw n0 h17 aB v5 (backF v11) (1 : Int32) (0 : Int32) ((backF v11) + (1 : Int64)) S26.ge g_aB q19f0 q19f1 q19f2 q19f3 q19f4 (by decide)) (W := 0) (by decide) (by decide) (by decide) (by decide) rfl (by rw [hml]; rfl) (argsL := [(.long ((backF v11) + (1 : Int64)))]) (rest := []) (ps := [.long]) (rt := (some .boolean)) (by decide) rfl rfl rfl (by show 2 * 0 + _ ≤ _; exact Nat.le_of_eq rfl) (hb hby at_141) ?_
    intro T30 h32 w33 S31 q34
    obtain ⟨q34a, q34K, q34f0, q34f1, q34f2, q34f3, q34f4⟩ := q34
    subst q34a
    show WGo _ _ _ _ _ _ _ _ T30 (mkF m 144 #[.val (.int p1), .val (.long p2), .second, .val (.int p3), .val (.long v5), .second, .val (.int v11), .val (.ref aB), .val (.int v27), .val (.long (backF v11)), .second, .unset] [(.int (spOk (spendF v5 (backF v11) (1 : Int32) (0 : Int32) ((backF v11) + (1 : Int64)))))])
    refine WGo.st (fun _ q => XS.istore S31.here hx rfl (hb hby at_144) rfl (l' := #[.val (.int p1), .val (.long p2), .second, .val (.int p3), .val (.long v5), .second, .val (.int v11), .val (.ref aB), .val (.int v27), .val (.long (backF v11)), .second, .val (.int (spOk (spendF v5 (backF v11) (1 : Int32) (0 : Int32) ((backF v11) + (1 : Int64)))))]) rfl q) ?_
    show WGo _ _ _ _ _ _ _ _ T30 (mkF m 146 #[.val (.int p1), .val (.long p2), .second, .val (.int p3), .val (.long v5), .second, .val (.int v11), .val (.ref aB), .val (.int v27), .val (.long (backF v11)), .second, .val (.int (spOk (spendF v5 (backF v11) (1 : Int32) (0 : Int32) ((backF v11) + (1 : Int64)))))] [])
    refine WGo.st (fun _ q => XS.lload S31.here hx rfl (hb hby at_146) rfl q) ?_
    show WGo _ _ _ _ _ _ _ _ T30 (mkF m 148 #[.val (.int p1), .val (.long p2), .second, .val (.int p3), .val (.long v5), .second, .val (.int v11), .val (.ref aB), .val (.int v27), .val (.long (backF v11)), .second, .val (.int (spOk (spendF v5 (backF v11) (1 : Int32) (0 : Int32) ((backF v11) + (1 : Int64)))))] [(.long v5)])
    refine WGo.st (fun _ q => XS.lconst S31.here hx rfl (hb hby at_148) q) ?_
    show WGo _ _ _ _ _ _ _ _ T30 (mkF m 149 #[.val (.int p1), .val (.long p2), .second, .val (.int p3), .val (.long v5), .second, .val (.int v11), .val (.ref aB), .val (.int v27), .val (.long (backF v11)), .second, .val (.int (spOk (spendF v5 (backF v11) (1 : Int32) (0 : Int32) ((backF v11) + (1 : Int64)))))] [(.long (0 : Int64)), (.long v5)])
    refine WGo.st (fun _ q => XS.lcmp S31.here hx rfl (hb hby at_149) rfl q) ?_
    show WGo _ _ _ _ _ _ _ _ T30 (mkF m 150 #[.val (.int p1), .val (.long p2), .second, .val (.int p3), .val (.long v5), .second, .val (.int v11), .val (.ref aB), .val (.int v27), .val (.long (backF v11)), .second, .val (.int (spOk (spendF v5 (backF v11) (1 : Int32) (0 : Int32) ((backF v11) + (1 : Int64)))))] [(.int (lcmpW v5 (0 : Int64)))])
    by_cases c150 : v5 = (0 : Int64)
    · refine WGo.st (fun _ q => XS.ifNo S31.here hx rfl (hb hby at_150) rfl (teqJ c150).2 q) ?_
      show WGo _ _ _ _ _ _ _ _ T30 (mkF m 153 #[.val (.int p1), .val (.long p2), .second, .val (.int p3), .val (.long v5), .second, .val (.int v11), .val (.ref aB), .val (.int v27), .val (.long (backF v11)), .second, .val (.int (spOk (spendF v5 (backF v11) (1 : Int32) (0 : Int32) ((backF v11) + (1 : Int64)))))] [])
      have hsp : spendF v5 (backF v11) (1 : Int32) (0 : Int32) ((backF v11) + (1 : Int64)) = (0, 0, 1) := by rw [c150]; exact sp_zero (backF v11) (back_rng v11 hln).1 (back_rng v11 hln).2
      refine WGo.st (fun _ q => XS.iload S31.here hx rfl (hb hby at_153) rfl q) ?_
      show WGo _ _ _ _ _ _ _ _ T30 (mkF m 155 #[.val (.int p1), .val (.long p2), .second, .val (.int p3), .val (.long v5), .second, .val (.int v11), .val (.ref aB), .val (.int v27), .val (.long (backF v11)), .second, .val (.int (spOk (spendF v5 (backF v11) (1 : Int32) (0 : Int32) ((backF v11) + (1 : Int64)))))] [(.int (spOk (spendF v5 (backF v11) (1 : Int32) (0 : Int32) ((backF v11) + (1 : Int64)))))])
      refine WGo.st (fun _ q => XS.ifNo S31.here hx rfl (hb hby at_155) rfl ((if0 _ _).trans (teq (by rw [hsp]; first | rfl | (rw [c150]; rfl))).2) q) ?_
      show WGo _ _ _ _ _ _ _ _ T30 (mkF m 158 #[.val (.int p1), .val (.long p2), .second, .val (.int p3), .val (.long v5), .second, .val (.int v11), .val (.ref aB), .val (.int v27), .val (.long (backF v11)), .second, .val (.int (spOk (spendF v5 (backF v11) (1 : Int32) (0 : Int32) ((backF v11) + (1 : Int64)))))] [])
      refine WGo.st (fun _ q => XS.aload S31.here hx rfl (hb hby at_158) rfl rfl q) ?_
      show WGo _ _ _ _ _ _ _ _ T30 (mkF m 160 #[.val (.int p1), .val (.long p2), .second, .val (.int p3), .val (.long v5), .second, .val (.int v11), .val (.ref aB), .val (.int v27), .val (.long (backF v11)), .second, .val (.int (spOk (spendF v5 (backF v11) (1 : Int32) (0 : Int32) ((backF v11) + (1 : Int64)))))] [(.ref aB)])
      refine w_virtual S31 (y := (⟨"com/example/assay_shapes/assayshapes/RegexBudget", "isSpent", "()Z"⟩ : MethodName)) hown (hw _ (List.mem_of_getElem? (i := 39) rfl)) (hw _ (List.mem_of_getElem? (i := 40) rfl)) (hw _ (List.mem_of_getElem? (i := 42) rfl)) (hw _ (List.mem_of_getElem? (i := 41) rfl)) (hw _ (List.mem_of_getElem? (i := 4) rfl)) (hw _ (List.mem_of_getElem? (i := 43) rfl)) (by decide) q34f0 (rm_S l Z a0 hw n0 h32 aB (spendF v5 (backF v11) (1 : Int32) (0 : Int32) ((backF v11) + (1 : Int64))).1 (spendF v5 (backF v11) (1 : Int32) (0 : Int32) ((backF v11) + (1 : Int64))).2.1 (1 : Int32) (spendF v5 (backF v11) (1 : Int32) (0 : Int32) ((backF v11) + (1 : Int64))).2.2 S31.ge q34f0 q34f1 q34f2 q34f3 q34f4 (spend_bool v5 (backF v11) (1 : Int32) (0 : Int32) ((backF v11) + (1 : Int64)) (by decide))) (W := 0) (by decide) (by decide) (by decide) (by decide) rfl (by rw [hml]; rfl) (argsL := []) (rest := []) (ps := []) (rt := (some .boolean)) (by decide) rfl rfl rfl (by show 2 * 0 + _ ≤ _; exact Nat.le_of_eq rfl) (hb hby at_160) ?_
      intro T35 h37 w38 S36 q39
      obtain ⟨q39a, q39b⟩ := q39
      subst q39a
      replace q39b := Eq.symm q39b
      subst q39b
      show WGo _ _ _ _ _ _ _ _ T35 (mkF m 163 #[.val (.int p1), .val (.long p2), .second, .val (.int p3), .val (.long v5), .second, .val (.int v11), .val (.ref aB), .val (.int v27), .val (.long (backF v11)), .second, .val (.int (spOk (spendF v5 (backF v11) (1 : Int32) (0 : Int32) ((backF v11) + (1 : Int64)))))] [(.int (spendF v5 (backF v11) (1 : Int32) (0 : Int32) ((backF v11) + (1 : Int64))).2.2)])
      refine WGo.st (fun _ q => XS.ifNo S36.here hx rfl (hb hby at_163) rfl ((if0 _ _).trans (feq (by rw [hsp]; decide)).1) q) ?_
      show WGo _ _ _ _ _ _ _ _ T35 (mkF m 166 #[.val (.int p1), .val (.long p2), .second, .val (.int p3), .val (.long v5), .second, .val (.int v11), .val (.ref aB), .val (.int v27), .val (.long (backF v11)), .second, .val (.int (spOk (spendF v5 (backF v11) (1 : Int32) (0 : Int32) ((backF v11) + (1 : Int64)))))] [])
      refine WGo.st (fun _ q => XS.aload S36.here hx rfl (hb hby at_166) rfl rfl q) ?_
      show WGo _ _ _ _ _ _ _ _ T35 (mkF m 168 #[.val (.int p1), .val (.long p2), .second, .val (.int p3), .val (.long v5), .second, .val (.int v11), .val (.ref aB), .val (.int v27), .val (.long (backF v11)), .second, .val (.int (spOk (spendF v5 (backF v11) (1 : Int32) (0 : Int32) ((backF v11) + (1 : Int64)))))] [(.ref aB)])
      refine w_virtual S36 (y := (⟨"com/example/assay_shapes/assayshapes/RegexBudget", "left", "()J"⟩ : MethodName)) hown (hw _ (List.mem_of_getElem? (i := 44) rfl)) (hw _ (List.mem_of_getElem? (i := 45) rfl)) (hw _ (List.mem_of_getElem? (i := 47) rfl)) (hw _ (List.mem_of_getElem? (i := 46) rfl)) (hw _ (List.mem_of_getElem? (i := 4) rfl)) (hw _ (List.mem_of_getElem? (i := 48) rfl)) (by decide) q34f0 (rm_L l Z a0 hw n0 h32 aB (spendF v5 (backF v11) (1 : Int32) (0 : Int32) ((backF v11) + (1 : Int64))).1 (spendF v5 (backF v11) (1 : Int32) (0 : Int32) ((backF v11) + (1 : Int64))).2.1 (1 : Int32) (spendF v5 (backF v11) (1 : Int32) (0 : Int32) ((backF v11) + (1 : Int64))).2.2 S36.ge q34f0 q34f1 q34f2 q34f3 q34f4) (W := 0) (by decide) (by decide) (by decide) (by decide) rfl (by rw [hml]; rfl) (argsL := []) (rest := []) (ps := []) (rt := (some .long)) (by decide) rfl rfl rfl (by show 2 * 0 + _ ≤ _; exact Nat.le_of_eq rfl) (hb hby at_168) ?_
      intro T40 h42 w43 S41 q44
      obtain ⟨q44a, q44b⟩ := q44
      subst q44a
      replace q44b := Eq.symm q44b
      subst q44b
      show WGo _ _ _ _ _ _ _ _ T40 (mkF m 171 #[.val (.int p1), .val (.long p2), .second, .val (.int p3), .val (.long v5), .second, .val (.int v11), .val (.ref aB), .val (.int v27), .val (.long (backF v11)), .second, .val (.int (spOk (spendF v5 (backF v11) (1 : Int32) (0 : Int32) ((backF v11) + (1 : Int64)))))] [(.long (leftF (spendF v5 (backF v11) (1 : Int32) (0 : Int32) ((backF v11) + (1 : Int64))).1 (spendF v5 (backF v11) (1 : Int32) (0 : Int32) ((backF v11) + (1 : Int64))).2.1 (1 : Int32)))])
      refine WGo.st (fun _ q => XS.lconst S41.here hx rfl (hb hby at_171) q) ?_
      show WGo _ _ _ _ _ _ _ _ T40 (mkF m 172 #[.val (.int p1), .val (.long p2), .second, .val (.int p3), .val (.long v5), .second, .val (.int v11), .val (.ref aB), .val (.int v27), .val (.long (backF v11)), .second, .val (.int (spOk (spendF v5 (backF v11) (1 : Int32) (0 : Int32) ((backF v11) + (1 : Int64)))))] [(.long (0 : Int64)), (.long (leftF (spendF v5 (backF v11) (1 : Int32) (0 : Int32) ((backF v11) + (1 : Int64))).1 (spendF v5 (backF v11) (1 : Int32) (0 : Int32) ((backF v11) + (1 : Int64))).2.1 (1 : Int32)))])
      refine WGo.st (fun _ q => XS.lcmp S41.here hx rfl (hb hby at_172) rfl q) ?_
      show WGo _ _ _ _ _ _ _ _ T40 (mkF m 173 #[.val (.int p1), .val (.long p2), .second, .val (.int p3), .val (.long v5), .second, .val (.int v11), .val (.ref aB), .val (.int v27), .val (.long (backF v11)), .second, .val (.int (spOk (spendF v5 (backF v11) (1 : Int32) (0 : Int32) ((backF v11) + (1 : Int64)))))] [(.int (lcmpW (leftF (spendF v5 (backF v11) (1 : Int32) (0 : Int32) ((backF v11) + (1 : Int64))).1 (spendF v5 (backF v11) (1 : Int32) (0 : Int32) ((backF v11) + (1 : Int64))).2.1 (1 : Int32)) (0 : Int64)))])
      refine WGo.st (fun _ q => XS.ifNo S41.here hx rfl (hb hby at_173) rfl (teqJ (by rw [hsp]; first | rfl | (rw [c150]; rfl))).2 q) ?_
      show WGo _ _ _ _ _ _ _ _ T40 (mkF m 176 #[.val (.int p1), .val (.long p2), .second, .val (.int p3), .val (.long v5), .second, .val (.int v11), .val (.ref aB), .val (.int v27), .val (.long (backF v11)), .second, .val (.int (spOk (spendF v5 (backF v11) (1 : Int32) (0 : Int32) ((backF v11) + (1 : Int64)))))] [])
      refine WGo.st (fun _ q => XS.iconst S41.here hx rfl (hb hby at_176) q) ?_
      show WGo _ _ _ _ _ _ _ _ T40 (mkF m 177 #[.val (.int p1), .val (.long p2), .second, .val (.int p3), .val (.long v5), .second, .val (.int v11), .val (.ref aB), .val (.int v27), .val (.long (backF v11)), .second, .val (.int (spOk (spendF v5 (backF v11) (1 : Int32) (0 : Int32) ((backF v11) + (1 : Int64)))))] [(.int (1 : Int32))])
      refine WGo.st (fun _ q => XS.goto S41.here hx rfl (pc0 := 177) (pc' := 181) rfl (hb hby at_177) (by decide) (by decide) q) ?_
      show WGo _ _ _ _ _ _ _ _ T40 (mkF m 181 #[.val (.int p1), .val (.long p2), .second, .val (.int p3), .val (.long v5), .second, .val (.int v11), .val (.ref aB), .val (.int v27), .val (.long (backF v11)), .second, .val (.int (spOk (spendF v5 (backF v11) (1 : Int32) (0 : Int32) ((backF v11) + (1 : Int64)))))] [(.int (1 : Int32))])
      refine w_retZ S41 hret (hb hby at_181) (by decide) (by decide) (by decide) ?_
      exact rfl
    · refine WGo.st (fun _ q => XS.ifYes S31.here hx rfl (pc0 := 150) (pc' := 182) rfl (hb hby at_150) rfl (feqJ c150).2 (by decide) (by decide) q) ?_
      show WGo _ _ _ _ _ _ _ _ T30 (mkF m 182 #[.val (.int p1), .val (.long p2), .second, .val (.int p3), .val (.long v5), .second, .val (.int v11), .val (.ref aB), .val (.int v27), .val (.long (backF v11)), .second, .val (.int (spOk (spendF v5 (backF v11) (1 : Int32) (0 : Int32) ((backF v11) + (1 : Int64)))))] [])
      have hsp := sp_more v5 (backF v11) (back_rng v11 hln).1 (back_rng v11 hln).2 hrs c150
      refine WGo.st (fun _ q => XS.iload S31.here hx rfl (hb hby at_182) rfl q) ?_
      show WGo _ _ _ _ _ _ _ _ T30 (mkF m 184 #[.val (.int p1), .val (.long p2), .second, .val (.int p3), .val (.long v5), .second, .val (.int v11), .val (.ref aB), .val (.int v27), .val (.long (backF v11)), .second, .val (.int (spOk (spendF v5 (backF v11) (1 : Int32) (0 : Int32) ((backF v11) + (1 : Int64)))))] [(.int (spOk (spendF v5 (backF v11) (1 : Int32) (0 : Int32) ((backF v11) + (1 : Int64)))))])
      refine WGo.st (fun _ q => XS.ifNo S31.here hx rfl (hb hby at_184) rfl ((if0 _ _).trans (feq (by rw [hsp]; show ¬ (1 : Int32) = 0; decide)).1) q) ?_
      show WGo _ _ _ _ _ _ _ _ T30 (mkF m 187 #[.val (.int p1), .val (.long p2), .second, .val (.int p3), .val (.long v5), .second, .val (.int v11), .val (.ref aB), .val (.int v27), .val (.long (backF v11)), .second, .val (.int (spOk (spendF v5 (backF v11) (1 : Int32) (0 : Int32) ((backF v11) + (1 : Int64)))))] [])
      refine WGo.st (fun _ q => XS.aload S31.here hx rfl (hb hby at_187) rfl rfl q) ?_
      show WGo _ _ _ _ _ _ _ _ T30 (mkF m 189 #[.val (.int p1), .val (.long p2), .second, .val (.int p3), .val (.long v5), .second, .val (.int v11), .val (.ref aB), .val (.int v27), .val (.long (backF v11)), .second, .val (.int (spOk (spendF v5 (backF v11) (1 : Int32) (0 : Int32) ((backF v11) + (1 : Int64)))))] [(.ref aB)])
      refine w_virtual S31 (y := (⟨"com/example/assay_shapes/assayshapes/RegexBudget", "isSpent", "()Z"⟩ : MethodName)) hown (hw _ (List.mem_of_getElem? (i := 39) rfl)) (hw _ (List.mem_of_getElem? (i := 40) rfl)) (hw _ (List.mem_of_getElem? (i := 42) rfl)) (hw _ (List.mem_of_getElem? (i := 41) rfl)) (hw _ (List.mem_of_getElem? (i := 4) rfl)) (hw _ (List.mem_of_getElem? (i := 43) rfl)) (by decide) q34f0 (rm_S l Z a0 hw n0 h32 aB (spendF v5 (backF v11) (1 : Int32) (0 : Int32) ((backF v11) + (1 : Int64))).1 (spendF v5 (backF v11) (1 : Int32) (0 : Int32) ((backF v11) + (1 : Int64))).2.1 (1 : Int32) (spendF v5 (backF v11) (1 : Int32) (0 : Int32) ((backF v11) + (1 : Int64))).2.2 S31.ge q34f0 q34f1 q34f2 q34f3 q34f4 (spend_bool v5 (backF v11) (1 : Int32) (0 : Int32) ((backF v11) + (1 : Int64)) (by decide))) (W := 0) (by decide) (by decide) (by decide) (by decide) rfl (by rw [hml]; rfl) (argsL := []) (rest := []) (ps := []) (rt := (some .boolean)) (by decide) rfl rfl rfl (by show 2 * 0 + _ ≤ _; exact Nat.le_of_eq rfl) (hb hby at_189) ?_
      intro T45 h47 w48 S46 q49
      obtain ⟨q49a, q49b⟩ := q49
      subst q49a
      replace q49b := Eq.symm q49b
      subst q49b
      show WGo _ _ _ _ _ _ _ _ T45 (mkF m 192 #[.val (.int p1), .val (.long p2), .second, .val (.int p3), .val (.long v5), .second, .val (.int v11), .val (.ref aB), .val (.int v27), .val (.long (backF v11)), .second, .val (.int (spOk (spendF v5 (backF v11) (1 : Int32) (0 : Int32) ((backF v11) + (1 : Int64)))))] [(.int (spendF v5 (backF v11) (1 : Int32) (0 : Int32) ((backF v11) + (1 : Int64))).2.2)])
      refine WGo.st (fun _ q => XS.ifNo S46.here hx rfl (hb hby at_192) rfl ((if0 _ _).trans (teq (by rw [hsp])).2) q) ?_
      show WGo _ _ _ _ _ _ _ _ T45 (mkF m 195 #[.val (.int p1), .val (.long p2), .second, .val (.int p3), .val (.long v5), .second, .val (.int v11), .val (.ref aB), .val (.int v27), .val (.long (backF v11)), .second, .val (.int (spOk (spendF v5 (backF v11) (1 : Int32) (0 : Int32) ((backF v11) + (1 : Int64)))))] [])
      refine WGo.st (fun _ q => XS.aload S46.here hx rfl (hb hby at_195) rfl rfl q) ?_
      show WGo _ _ _ _ _ _ _ _ T45 (mkF m 197 #[.val (.int p1), .val (.long p2), .second, .val (.int p3), .val (.long v5), .second, .val (.int v11), .val (.ref aB), .val (.int v27), .val (.long (backF v11)), .second, .val (.int (spOk (spendF v5 (backF v11) (1 : Int32) (0 : Int32) ((backF v11) + (1 : Int64)))))] [(.ref aB)])
      refine w_virtual S46 (y := (⟨"com/example/assay_shapes/assayshapes/RegexBudget", "left", "()J"⟩ : MethodName)) hown (hw _ (List.mem_of_getElem? (i := 44) rfl)) (hw _ (List.mem_of_getElem? (i := 45) rfl)) (hw _ (List.mem_of_getElem? (i := 47) rfl)) (hw _ (List.mem_of_getElem? (i := 46) rfl)) (hw _ (List.mem_of_getElem? (i := 4) rfl)) (hw _ (List.mem_of_getElem? (i := 48) rfl)) (by decide) q34f0 (rm_L l Z a0 hw n0 h32 aB (spendF v5 (backF v11) (1 : Int32) (0 : Int32) ((backF v11) + (1 : Int64))).1 (spendF v5 (backF v11) (1 : Int32) (0 : Int32) ((backF v11) + (1 : Int64))).2.1 (1 : Int32) (spendF v5 (backF v11) (1 : Int32) (0 : Int32) ((backF v11) + (1 : Int64))).2.2 S46.ge q34f0 q34f1 q34f2 q34f3 q34f4) (W := 0) (by decide) (by decide) (by decide) (by decide) rfl (by rw [hml]; rfl) (argsL := []) (rest := []) (ps := []) (rt := (some .long)) (by decide) rfl rfl rfl (by show 2 * 0 + _ ≤ _; exact Nat.le_of_eq rfl) (hb hby at_197) ?_
      intro T50 h52 w53 S51 q54
      obtain ⟨q54a, q54b⟩ := q54
      subst q54a
      replace q54b := Eq.symm q54b
      subst q54b
      show WGo _ _ _ _ _ _ _ _ T50 (mkF m 200 #[.val (.int p1), .val (.long p2), .second, .val (.int p3), .val (.long v5), .second, .val (.int v11), .val (.ref aB), .val (.int v27), .val (.long (backF v11)), .second, .val (.int (spOk (spendF v5 (backF v11) (1 : Int32) (0 : Int32) ((backF v11) + (1 : Int64)))))] [(.long (leftF (spendF v5 (backF v11) (1 : Int32) (0 : Int32) ((backF v11) + (1 : Int64))).1 (spendF v5 (backF v11) (1 : Int32) (0 : Int32) ((backF v11) + (1 : Int64))).2.1 (1 : Int32)))])
      refine WGo.st (fun _ q => XS.lload S51.here hx rfl (hb hby at_200) rfl q) ?_
      show WGo _ _ _ _ _ _ _ _ T50 (mkF m 202 #[.val (.int p1), .val (.long p2), .second, .val (.int p3), .val (.long v5), .second, .val (.int v11), .val (.ref aB), .val (.int v27), .val (.long (backF v11)), .second, .val (.int (spOk (spendF v5 (backF v11) (1 : Int32) (0 : Int32) ((backF v11) + (1 : Int64)))))] [(.long v5), (.long (leftF (spendF v5 (backF v11) (1 : Int32) (0 : Int32) ((backF v11) + (1 : Int64))).1 (spendF v5 (backF v11) (1 : Int32) (0 : Int32) ((backF v11) + (1 : Int64))).2.1 (1 : Int32)))])
      refine WGo.st (fun _ q => XS.lconst S51.here hx rfl (hb hby at_202) q) ?_
      show WGo _ _ _ _ _ _ _ _ T50 (mkF m 203 #[.val (.int p1), .val (.long p2), .second, .val (.int p3), .val (.long v5), .second, .val (.int v11), .val (.ref aB), .val (.int v27), .val (.long (backF v11)), .second, .val (.int (spOk (spendF v5 (backF v11) (1 : Int32) (0 : Int32) ((backF v11) + (1 : Int64)))))] [(.long (1 : Int64)), (.long v5), (.long (leftF (spendF v5 (backF v11) (1 : Int32) (0 : Int32) ((backF v11) + (1 : Int64))).1 (spendF v5 (backF v11) (1 : Int32) (0 : Int32) ((backF v11) + (1 : Int64))).2.1 (1 : Int32)))])
      refine WGo.st (fun _ q => XS.lsub S51.here hx rfl (hb hby at_203) rfl q) ?_
      show WGo _ _ _ _ _ _ _ _ T50 (mkF m 204 #[.val (.int p1), .val (.long p2), .second, .val (.int p3), .val (.long v5), .second, .val (.int v11), .val (.ref aB), .val (.int v27), .val (.long (backF v11)), .second, .val (.int (spOk (spendF v5 (backF v11) (1 : Int32) (0 : Int32) ((backF v11) + (1 : Int64)))))] [(.long (v5 - (1 : Int64))), (.long (leftF (spendF v5 (backF v11) (1 : Int32) (0 : Int32) ((backF v11) + (1 : Int64))).1 (spendF v5 (backF v11) (1 : Int32) (0 : Int32) ((backF v11) + (1 : Int64))).2.1 (1 : Int32)))])
      refine WGo.st (fun _ q => XS.lcmp S51.here hx rfl (hb hby at_204) rfl q) ?_
      show WGo _ _ _ _ _ _ _ _ T50 (mkF m 205 #[.val (.int p1), .val (.long p2), .second, .val (.int p3), .val (.long v5), .second, .val (.int v11), .val (.ref aB), .val (.int v27), .val (.long (backF v11)), .second, .val (.int (spOk (spendF v5 (backF v11) (1 : Int32) (0 : Int32) ((backF v11) + (1 : Int64)))))] [(.int (lcmpW (leftF (spendF v5 (backF v11) (1 : Int32) (0 : Int32) ((backF v11) + (1 : Int64))).1 (spendF v5 (backF v11) (1 : Int32) (0 : Int32) ((backF v11) + (1 : Int64))).2.1 (1 : Int32)) (v5 - (1 : Int64))))])
      refine WGo.st (fun _ q => XS.ifNo S51.here hx rfl (hb hby at_205) rfl (teqJ (by rw [hsp]; exact lm1 v5)).2 q) ?_
      show WGo _ _ _ _ _ _ _ _ T50 (mkF m 208 #[.val (.int p1), .val (.long p2), .second, .val (.int p3), .val (.long v5), .second, .val (.int v11), .val (.ref aB), .val (.int v27), .val (.long (backF v11)), .second, .val (.int (spOk (spendF v5 (backF v11) (1 : Int32) (0 : Int32) ((backF v11) + (1 : Int64)))))] [])
      refine WGo.st (fun _ q => XS.iconst S51.here hx rfl (hb hby at_208) q) ?_
      show WGo _ _ _ _ _ _ _ _ T50 (mkF m 209 #[.val (.int p1), .val (.long p2), .second, .val (.int p3), .val (.long v5), .second, .val (.int v11), .val (.ref aB), .val (.int v27), .val (.long (backF v11)), .second, .val (.int (spOk (spendF v5 (backF v11) (1 : Int32) (0 : Int32) ((backF v11) + (1 : Int64)))))] [(.int (1 : Int32))])
      refine WGo.st (fun _ q => XS.goto S51.here hx rfl (pc0 := 209) (pc' := 213) rfl (hb hby at_209) (by decide) (by decide) q) ?_
      show WGo _ _ _ _ _ _ _ _ T50 (mkF m 213 #[.val (.int p1), .val (.long p2), .second, .val (.int p3), .val (.long v5), .second, .val (.int v11), .val (.ref aB), .val (.int v27), .val (.long (backF v11)), .second, .val (.int (spOk (spendF v5 (backF v11) (1 : Int32) (0 : Int32) ((backF v11) + (1 : Int64)))))] [(.int (1 : Int32))])
      refine w_retZ S51 hret (hb hby at_213) (by decide) (by decide) (by decide) ?_
      exact rfl
  · refine WGo.st (fun _ q => XS.icmpYes S6.here hx rfl (pc0 := 32) (pc' := 45) rfl (hb hby at_32) rfl (feq c32).2 (by decide) (by decide) q) ?_
    show WGo _ _ _ _ _ _ _ _ T5 (mkF m 45 #[.val (.int p1), .val (.long p2), .second, .val (.int p3), .val (.long v5), .second, .val (.int v11), .val (.ref aB), .val (.int v27), .unset, .unset, .unset] [])
    refine WGo.st (fun _ q => XS.iload S6.here hx rfl (hb hby at_45) rfl q) ?_
    show WGo _ _ _ _ _ _ _ _ T5 (mkF m 47 #[.val (.int p1), .val (.long p2), .second, .val (.int p3), .val (.long v5), .second, .val (.int v11), .val (.ref aB), .val (.int v27), .unset, .unset, .unset] [(.int v27)])
    refine WGo.st (fun _ q => XS.iconst S6.here hx rfl (hb hby at_47) q) ?_
    show WGo _ _ _ _ _ _ _ _ T5 (mkF m 48 #[.val (.int p1), .val (.long p2), .second, .val (.int p3), .val (.long v5), .second, .val (.int v11), .val (.ref aB), .val (.int v27), .unset, .unset, .unset] [(.int (2 : Int32)), (.int v27)])
    by_cases c48 : v27 = (2 : Int32)
    · refine WGo.st (fun _ q => XS.icmpNo S6.here hx rfl (hb hby at_48) rfl (teq c48).2 q) ?_
      show WGo _ _ _ _ _ _ _ _ T5 (mkF m 51 #[.val (.int p1), .val (.long p2), .second, .val (.int p3), .val (.long v5), .second, .val (.int v11), .val (.ref aB), .val (.int v27), .unset, .unset, .unset] [])
      refine WGo.st (fun _ q => XS.aload S6.here hx rfl (hb hby at_51) rfl rfl q) ?_
      show WGo _ _ _ _ _ _ _ _ T5 (mkF m 53 #[.val (.int p1), .val (.long p2), .second, .val (.int p3), .val (.long v5), .second, .val (.int v11), .val (.ref aB), .val (.int v27), .unset, .unset, .unset] [(.ref aB)])
      refine WGo.st (fun _ q => XS.iloadN S6.here hx rfl (hb hby at_53) rfl q) ?_
      show WGo _ _ _ _ _ _ _ _ T5 (mkF m 54 #[.val (.int p1), .val (.long p2), .second, .val (.int p3), .val (.long v5), .second, .val (.int v11), .val (.ref aB), .val (.int v27), .unset, .unset, .unset] [(.int p3), (.ref aB)])
      refine WGo.st (fun _ q => XS.iconst S6.here hx rfl (hb hby at_54) q) ?_
      show WGo _ _ _ _ _ _ _ _ T5 (mkF m 55 #[.val (.int p1), .val (.long p2), .second, .val (.int p3), .val (.long v5), .second, .val (.int v11), .val (.ref aB), .val (.int v27), .unset, .unset, .unset] [(.int (2 : Int32)), (.int p3), (.ref aB)])
      refine WGo.st (fun _ q => XS.iushr S6.here hx rfl (hb hby at_55) rfl q) ?_
      show WGo _ _ _ _ _ _ _ _ T5 (mkF m 56 #[.val (.int p1), .val (.long p2), .second, .val (.int p3), .val (.long v5), .second, .val (.int v11), .val (.ref aB), .val (.int v27), .unset, .unset, .unset] [(.int ((p3.toUInt32 >>> ((2 : Int32) &&& 31).toUInt32).toInt32)), (.ref aB)])
      refine w_ldc S6 hown (hw _ (List.mem_of_getElem? (i := 49) rfl)) rfl (hb hby at_56) ?_
      show WGo _ _ _ _ _ _ _ _ T5 (mkF m 58 #[.val (.int p1), .val (.long p2), .second, .val (.int p3), .val (.long v5), .second, .val (.int v11), .val (.ref aB), .val (.int v27), .unset, .unset, .unset] [(.int (65535 : Int32)), (.int ((p3.toUInt32 >>> ((2 : Int32) &&& 31).toUInt32).toInt32)), (.ref aB)])
      refine WGo.st (fun _ q => XS.iand S6.here hx rfl (hb hby at_58) rfl q) ?_
      show WGo _ _ _ _ _ _ _ _ T5 (mkF m 59 #[.val (.int p1), .val (.long p2), .second, .val (.int p3), .val (.long v5), .second, .val (.int v11), .val (.ref aB), .val (.int v27), .unset, .unset, .unset] [(.int (((p3.toUInt32 >>> ((2 : Int32) &&& 31).toUInt32).toInt32) &&& (65535 : Int32))), (.ref aB)])
      refine WGo.st (fun _ q => XS.iconst S6.here hx rfl (hb hby at_59) q) ?_
      show WGo _ _ _ _ _ _ _ _ T5 (mkF m 60 #[.val (.int p1), .val (.long p2), .second, .val (.int p3), .val (.long v5), .second, .val (.int v11), .val (.ref aB), .val (.int v27), .unset, .unset, .unset] [(.int (1 : Int32)), (.int (((p3.toUInt32 >>> ((2 : Int32) &&& 31).toUInt32).toInt32) &&& (65535 : Int32))), (.ref aB)])
      refine WGo.st (fun _ q => XS.bipush S6.here hx rfl (hb hby at_60) q) ?_
      show WGo _ _ _ _ _ _ _ _ T5 (mkF m 62 #[.val (.int p1), .val (.long p2), .second, .val (.int p3), .val (.long v5), .second, .val (.int v11), .val (.ref aB), .val (.int v27), .unset, .unset, .unset] [(.int (7 : Int32)), (.int (1 : Int32)), (.int (((p3.toUInt32 >>> ((2 : Int32) &&& 31).toUInt32).toInt32) &&& (65535 : Int32))), (.ref aB)])
      refine w_virtual S6 (y := (⟨"com/example/assay_shapes/assayshapes/RegexBudget", "beginAutomaton", "(III)V"⟩ : MethodName)) hown (hw _ (List.mem_of_getElem? (i := 50) rfl)) (hw _ (List.mem_of_getElem? (i := 51) rfl)) (hw _ (List.mem_of_getElem? (i := 53) rfl)) (hw _ (List.mem_of_getElem? (i := 52) rfl)) (hw _ (List.mem_of_getElem? (i := 4) rfl)) (hw _ (List.mem_of_getElem? (i := 54) rfl)) (by decide) q9f0 (rm_A l Z a0 hw n0 h7 aB v5 (0 : Int64) (0 : Int32) (0 : Int32) (((p3.toUInt32 >>> ((2 : Int32) &&& 31).toUInt32).toInt32) &&& (65535 : Int32)) (1 : Int32) (7 : Int32) S6.ge g_aB q9f0 q9f1 q9f2 q9f3 q9f4) (W := 0) (by decide) (by decide) (by decide) (by decide) rfl (by rw [hml]; rfl) (argsL := [(.int (((p3.toUInt32 >>> ((2 : Int32) &&& 31).toUInt32).toInt32) &&& (65535 : Int32))), (.int (1 : Int32)), (.int (7 : Int32))]) (rest := []) (ps := [.int, .int, .int]) (rt := none) (by decide) rfl rfl rfl (by show 2 * 0 + _ ≤ _; exact Nat.le_of_eq rfl) (hb hby at_62) ?_
      intro T55 h57 w58 S56 q59
      obtain ⟨q59a, q59K, q59f0, q59f1, q59f2, q59f3, q59f4⟩ := q59
      subst q59a
      show WGo _ _ _ _ _ _ _ _ T55 (mkF m 65 #[.val (.int p1), .val (.long p2), .second, .val (.int p3), .val (.long v5), .second, .val (.int v11), .val (.ref aB), .val (.int v27), .unset, .unset, .unset] [])
      refine WGo.st (fun _ q => XS.goto S56.here hx rfl (pc0 := 65) (pc' := 91) rfl (hb hby at_65) (by decide) (by decide) q) ?_
      show WGo _ _ _ _ _ _ _ _ T55 (mkF m 91 #[.val (.int p1), .val (.long p2), .second, .val (.int p3), .val (.long v5), .second, .val (.int v11), .val (.ref aB), .val (.int v27), .unset, .unset, .unset] [])
      refine w_ldc2 S56 hown (hw _ (List.mem_of_getElem? (i := 28) rfl)) rfl (hb hby at_91) ?_
      show WGo _ _ _ _ _ _ _ _ T55 (mkF m 94 #[.val (.int p1), .val (.long p2), .second, .val (.int p3), .val (.long v5), .second, .val (.int v11), .val (.ref aB), .val (.int v27), .unset, .unset, .unset] [(.long (33 : Int64))])
      refine WGo.st (fun _ q => XS.iload S56.here hx rfl (hb hby at_94) rfl q) ?_
      show WGo _ _ _ _ _ _ _ _ T55 (mkF m 96 #[.val (.int p1), .val (.long p2), .second, .val (.int p3), .val (.long v5), .second, .val (.int v11), .val (.ref aB), .val (.int v27), .unset, .unset, .unset] [(.int v11), (.long (33 : Int64))])
      refine WGo.st (fun _ q => XS.i2l S56.here hx rfl (hb hby at_96) rfl q) ?_
      show WGo _ _ _ _ _ _ _ _ T55 (mkF m 97 #[.val (.int p1), .val (.long p2), .second, .val (.int p3), .val (.long v5), .second, .val (.int v11), .val (.ref aB), .val (.int v27), .unset, .unset, .unset] [(.long (v11.toInt64)), (.long (33 : Int64))])
      refine WGo.st (fun _ q => XS.lconst S56.here hx rfl (hb hby at_97) q) ?_
      show WGo _ _ _ _ _ _ _ _ T55 (mkF m 98 #[.val (.int p1), .val (.long p2), .second, .val (.int p3), .val (.long v5), .second, .val (.int v11), .val (.ref aB), .val (.int v27), .unset, .unset, .unset] [(.long (1 : Int64)), (.long (v11.toInt64)), (.long (33 : Int64))])
      refine WGo.st (fun _ q => XS.ladd S56.here hx rfl (hb hby at_98) rfl q) ?_
      show WGo _ _ _ _ _ _ _ _ T55 (mkF m 99 #[.val (.int p1), .val (.long p2), .second, .val (.int p3), .val (.long v5), .second, .val (.int v11), .val (.ref aB), .val (.int v27), .unset, .unset, .unset] [(.long ((v11.toInt64) + (1 : Int64))), (.long (33 : Int64))])
      refine WGo.st (fun _ q => XS.lmul S56.here hx rfl (hb hby at_99) rfl q) ?_
      show WGo _ _ _ _ _ _ _ _ T55 (mkF m 100 #[.val (.int p1), .val (.long p2), .second, .val (.int p3), .val (.long v5), .second, .val (.int v11), .val (.ref aB), .val (.int v27), .unset, .unset, .unset] [(.long ((33 : Int64) * ((v11.toInt64) + (1 : Int64))))])
      refine WGo.st (fun _ q => XS.lstore S56.here hx rfl (hb hby at_100) rfl (l' := #[.val (.int p1), .val (.long p2), .second, .val (.int p3), .val (.long v5), .second, .val (.int v11), .val (.ref aB), .val (.int v27), .val (.long ((33 : Int64) * ((v11.toInt64) + (1 : Int64)))), .second, .unset]) rfl q) ?_
      show WGo _ _ _ _ _ _ _ _ T55 (mkF m 102 #[.val (.int p1), .val (.long p2), .second, .val (.int p3), .val (.long v5), .second, .val (.int v11), .val (.ref aB), .val (.int v27), .val (.long ((33 : Int64) * ((v11.toInt64) + (1 : Int64)))), .second, .unset] [])
      show WGo _ _ _ _ _ _ _ _ T55 (mkF m 102 #[.val (.int p1), .val (.long p2), .second, .val (.int p3), .val (.long v5), .second, .val (.int v11), .val (.ref aB), .val (.int v27), .val (.long (backF v11)), .second, .unset] [])
      refine WGo.st (fun _ q => XS.aload S56.here hx rfl (hb hby at_102) rfl rfl q) ?_
      show WGo _ _ _ _ _ _ _ _ T55 (mkF m 104 #[.val (.int p1), .val (.long p2), .second, .val (.int p3), .val (.long v5), .second, .val (.int v11), .val (.ref aB), .val (.int v27), .val (.long (backF v11)), .second, .unset] [(.ref aB)])
      refine WGo.st (fun _ q => XS.iload S56.here hx rfl (hb hby at_104) rfl q) ?_
      show WGo _ _ _ _ _ _ _ _ T55 (mkF m 106 #[.val (.int p1), .val (.long p2), .second, .val (.int p3), .val (.long v5), .second, .val (.int v11), .val (.ref aB), .val (.int v27), .val (.long (backF v11)), .second, .unset] [(.int v11), (.ref aB)])
      refine w_virtual S56 (y := (⟨"com/example/assay_shapes/assayshapes/RegexBudget", "beginBacktracking", "(I)V"⟩ : MethodName)) hown (hw _ (List.mem_of_getElem? (i := 29) rfl)) (hw _ (List.mem_of_getElem? (i := 30) rfl)) (hw _ (List.mem_of_getElem? (i := 32) rfl)) (hw _ (List.mem_of_getElem? (i := 31) rfl)) (hw _ (List.mem_of_getElem? (i := 4) rfl)) (hw _ (List.mem_of_getElem? (i := 33) rfl)) (by decide) q59f0 (rm_T l Z a0 hw n0 h57 aB v5 (autoF (((p3.toUInt32 >>> ((2 : Int32) &&& 31).toUInt32).toInt32) &&& (65535 : Int32)) (1 : Int32) (7 : Int32)) (0 : Int32) (0 : Int32) v11 S56.ge g_aB q59f0 q59f1 q59f2 q59f3 q59f4) (W := 0) (by decide) (by decide) (by decide) (by decide) rfl (by rw [hml]; rfl) (argsL := [(.int v11)]) (rest := []) (ps := [.int]) (rt := none) (by decide) rfl rfl rfl (by show 2 * 0 + _ ≤ _; exact Nat.le_of_eq rfl) (hb hby at_106) ?_
      intro T60 h62 w63 S61 q64
      obtain ⟨q64a, q64K, q64f0, q64f1, q64f2, q64f3, q64f4⟩ := q64
      subst q64a
      show WGo _ _ _ _ _ _ _ _ T60 (mkF m 109 #[.val (.int p1), .val (.long p2), .second, .val (.int p3), .val (.long v5), .second, .val (.int v11), .val (.ref aB), .val (.int v27), .val (.long (backF v11)), .second, .unset] [])
      refine WGo.st (fun _ q => XS.aload S61.here hx rfl (hb hby at_109) rfl rfl q) ?_
      show WGo _ _ _ _ _ _ _ _ T60 (mkF m 111 #[.val (.int p1), .val (.long p2), .second, .val (.int p3), .val (.long v5), .second, .val (.int v11), .val (.ref aB), .val (.int v27), .val (.long (backF v11)), .second, .unset] [(.ref aB)])
      refine w_virtual S61 (y := (⟨"com/example/assay_shapes/assayshapes/RegexBudget", "isSpent", "()Z"⟩ : MethodName)) hown (hw _ (List.mem_of_getElem? (i := 39) rfl)) (hw _ (List.mem_of_getElem? (i := 40) rfl)) (hw _ (List.mem_of_getElem? (i := 42) rfl)) (hw _ (List.mem_of_getElem? (i := 41) rfl)) (hw _ (List.mem_of_getElem? (i := 4) rfl)) (hw _ (List.mem_of_getElem? (i := 43) rfl)) (by decide) q64f0 (rm_S l Z a0 hw n0 h62 aB v5 (backF v11) (1 : Int32) (0 : Int32) S61.ge q64f0 q64f1 q64f2 q64f3 q64f4 (by decide)) (W := 0) (by decide) (by decide) (by decide) (by decide) rfl (by rw [hml]; rfl) (argsL := []) (rest := []) (ps := []) (rt := (some .boolean)) (by decide) rfl rfl rfl (by show 2 * 0 + _ ≤ _; exact Nat.le_of_eq rfl) (hb hby at_111) ?_
      intro T65 h67 w68 S66 q69
      obtain ⟨q69a, q69b⟩ := q69
      subst q69a
      replace q69b := Eq.symm q69b
      subst q69b
      show WGo _ _ _ _ _ _ _ _ T65 (mkF m 114 #[.val (.int p1), .val (.long p2), .second, .val (.int p3), .val (.long v5), .second, .val (.int v11), .val (.ref aB), .val (.int v27), .val (.long (backF v11)), .second, .unset] [(.int (0 : Int32))])
      refine WGo.st (fun _ q => XS.ifYes S66.here hx rfl (pc0 := 114) (pc' := 119) rfl (hb hby at_114) rfl ((if0 _ _).trans (teq (by decide : ((0 : Int32) = (0 : Int32)))).1) (by decide) (by decide) q) ?_
      show WGo _ _ _ _ _ _ _ _ T65 (mkF m 119 #[.val (.int p1), .val (.long p2), .second, .val (.int p3), .val (.long v5), .second, .val (.int v11), .val (.ref aB), .val (.int v27), .val (.long (backF v11)), .second, .unset] [])
      refine WGo.st (fun _ q => XS.aload S66.here hx rfl (hb hby at_119) rfl rfl q) ?_
      show WGo _ _ _ _ _ _ _ _ T65 (mkF m 121 #[.val (.int p1), .val (.long p2), .second, .val (.int p3), .val (.long v5), .second, .val (.int v11), .val (.ref aB), .val (.int v27), .val (.long (backF v11)), .second, .unset] [(.ref aB)])
      refine w_virtual S66 (y := (⟨"com/example/assay_shapes/assayshapes/RegexBudget", "left", "()J"⟩ : MethodName)) hown (hw _ (List.mem_of_getElem? (i := 44) rfl)) (hw _ (List.mem_of_getElem? (i := 45) rfl)) (hw _ (List.mem_of_getElem? (i := 47) rfl)) (hw _ (List.mem_of_getElem? (i := 46) rfl)) (hw _ (List.mem_of_getElem? (i := 4) rfl)) (hw _ (List.mem_of_getElem? (i := 48) rfl)) (by decide) q64f0 (rm_L l Z a0 hw n0 h62 aB v5 (backF v11) (1 : Int32) (0 : Int32) S66.ge q64f0 q64f1 q64f2 q64f3 q64f4) (W := 0) (by decide) (by decide) (by decide) (by decide) rfl (by rw [hml]; rfl) (argsL := []) (rest := []) (ps := []) (rt := (some .long)) (by decide) rfl rfl rfl (by show 2 * 0 + _ ≤ _; exact Nat.le_of_eq rfl) (hb hby at_121) ?_
      intro T70 h72 w73 S71 q74
      obtain ⟨q74a, q74b⟩ := q74
      subst q74a
      replace q74b := Eq.symm q74b
      subst q74b
      show WGo _ _ _ _ _ _ _ _ T70 (mkF m 124 #[.val (.int p1), .val (.long p2), .second, .val (.int p3), .val (.long v5), .second, .val (.int v11), .val (.ref aB), .val (.int v27), .val (.long (backF v11)), .second, .unset] [(.long (leftF v5 (backF v11) (1 : Int32)))])
      refine WGo.st (fun _ q => XS.lload S71.here hx rfl (hb hby at_124) rfl q) ?_
      show WGo _ _ _ _ _ _ _ _ T70 (mkF m 126 #[.val (.int p1), .val (.long p2), .second, .val (.int p3), .val (.long v5), .second, .val (.int v11), .val (.ref aB), .val (.int v27), .val (.long (backF v11)), .second, .unset] [(.long (backF v11)), (.long (leftF v5 (backF v11) (1 : Int32)))])
      refine WGo.st (fun _ q => XS.lload S71.here hx rfl (hb hby at_126) rfl q) ?_
      show WGo _ _ _ _ _ _ _ _ T70 (mkF m 128 #[.val (.int p1), .val (.long p2), .second, .val (.int p3), .val (.long v5), .second, .val (.int v11), .val (.ref aB), .val (.int v27), .val (.long (backF v11)), .second, .unset] [(.long v5), (.long (backF v11)), (.long (leftF v5 (backF v11) (1 : Int32)))])
      refine WGo.st (fun _ q => XS.ladd S71.here hx rfl (hb hby at_128) rfl q) ?_
      show WGo _ _ _ _ _ _ _ _ T70 (mkF m 129 #[.val (.int p1), .val (.long p2), .second, .val (.int p3), .val (.long v5), .second, .val (.int v11), .val (.ref aB), .val (.int v27), .val (.long (backF v11)), .second, .unset] [(.long ((backF v11) + v5)), (.long (leftF v5 (backF v11) (1 : Int32)))])
      refine WGo.st (fun _ q => XS.lcmp S71.here hx rfl (hb hby at_129) rfl q) ?_
      show WGo _ _ _ _ _ _ _ _ T70 (mkF m 130 #[.val (.int p1), .val (.long p2), .second, .val (.int p3), .val (.long v5), .second, .val (.int v11), .val (.ref aB), .val (.int v27), .val (.long (backF v11)), .second, .unset] [(.int (lcmpW (leftF v5 (backF v11) (1 : Int32)) ((backF v11) + v5)))])
      refine WGo.st (fun _ q => XS.ifYes S71.here hx rfl (pc0 := 130) (pc' := 135) rfl (hb hby at_130) rfl (teqJ (by unfold leftF; rw [if_neg (by decide)])).1 (by decide) (by decide) q) ?_
      show WGo _ _ _ _ _ _ _ _ T70 (mkF m 135 #[.val (.int p1), .val (.long p2), .second, .val (.int p3), .val (.long v5), .second, .val (.int v11), .val (.ref aB), .val (.int v27), .val (.long (backF v11)), .second, .unset] [])
      refine WGo.st (fun _ q => XS.aload S71.here hx rfl (hb hby at_135) rfl rfl q) ?_
      show WGo _ _ _ _ _ _ _ _ T70 (mkF m 137 #[.val (.int p1), .val (.long p2), .second, .val (.int p3), .val (.long v5), .second, .val (.int v11), .val (.ref aB), .val (.int v27), .val (.long (backF v11)), .second, .unset] [(.ref aB)])
      refine WGo.st (fun _ q => XS.lload S71.here hx rfl (hb hby at_137) rfl q) ?_
      show WGo _ _ _ _ _ _ _ _ T70 (mkF m 139 #[.val (.int p1), .val (.long p2), .second, .val (.int p3), .val (.long v5), .second, .val (.int v11), .val (.ref aB), .val (.int v27), .val (.long (backF v11)), .second, .unset] [(.long (backF v11)), (.ref aB)])
      refine WGo.st (fun _ q => XS.lconst S71.here hx rfl (hb hby at_139) q) ?_
      show WGo _ _ _ _ _ _ _ _ T70 (mkF m 140 #[.val (.int p1), .val (.long p2), .second, .val (.int p3), .val (.long v5), .second, .val (.int v11), .val (.ref aB), .val (.int v27), .val (.long (backF v11)), .second, .unset] [(.long (1 : Int64)), (.long (backF v11)), (.ref aB)])
      refine WGo.st (fun _ q => XS.ladd S71.here hx rfl (hb hby at_140) rfl q) ?_
      show WGo _ _ _ _ _ _ _ _ T70 (mkF m 141 #[.val (.int p1), .val (.long p2), .second, .val (.int p3), .val (.long v5), .second, .val (.int v11), .val (.ref aB), .val (.int v27), .val (.long (backF v11)), .second, .unset] [(.long ((backF v11) + (1 : Int64))), (.ref aB)])
      refine w_virtual S71 (y := (⟨"com/example/assay_shapes/assayshapes/RegexBudget", "spend", "(J)Z"⟩ : MethodName)) hown (hw _ (List.mem_of_getElem? (i := 13) rfl)) (hw _ (List.mem_of_getElem? (i := 14) rfl)) (hw _ (List.mem_of_getElem? (i := 16) rfl)) (hw _ (List.mem_of_getElem? (i := 15) rfl)) (hw _ (List.mem_of_getElem? (i := 4) rfl)) (hw _ (List.mem_of_getElem? (i := 17) rfl)) (by decide) q64f0 (rm_P l Z a0 hw n0 h62 aB v5 (backF v11) (1 : Int32) (0 : Int32) ((backF v11) + (1 : Int64)) S71.ge g_aB q64f0 q64f1 q64f2 q64f3 q64f4 (by decide)) (W := 0) (by decide) (by decide) (by decide) (by decide) rfl (by rw [hml]; rfl) (argsL := [(.long ((backF v11) + (1 : Int64)))]) (rest := []) (ps := [.long]) (rt := (some .boolean)) (by decide) rfl rfl rfl (by show 2 * 0 + _ ≤ _; exact Nat.le_of_eq rfl) (hb hby at_141) ?_
      intro T75 h77 w78 S76 q79
      obtain ⟨q79a, q79K, q79f0, q79f1, q79f2, q79f3, q79f4⟩ := q79
      subst q79a
      show WGo _ _ _ _ _ _ _ _ T75 (mkF m 144 #[.val (.int p1), .val (.long p2), .second, .val (.int p3), .val (.long v5), .second, .val (.int v11), .val (.ref aB), .val (.int v27), .val (.long (backF v11)), .second, .unset] [(.int (spOk (spendF v5 (backF v11) (1 : Int32) (0 : Int32) ((backF v11) + (1 : Int64)))))])
      refine WGo.st (fun _ q => XS.istore S76.here hx rfl (hb hby at_144) rfl (l' := #[.val (.int p1), .val (.long p2), .second, .val (.int p3), .val (.long v5), .second, .val (.int v11), .val (.ref aB), .val (.int v27), .val (.long (backF v11)), .second, .val (.int (spOk (spendF v5 (backF v11) (1 : Int32) (0 : Int32) ((backF v11) + (1 : Int64)))))]) rfl q) ?_
      show WGo _ _ _ _ _ _ _ _ T75 (mkF m 146 #[.val (.int p1), .val (.long p2), .second, .val (.int p3), .val (.long v5), .second, .val (.int v11), .val (.ref aB), .val (.int v27), .val (.long (backF v11)), .second, .val (.int (spOk (spendF v5 (backF v11) (1 : Int32) (0 : Int32) ((backF v11) + (1 : Int64)))))] [])
      refine WGo.st (fun _ q => XS.lload S76.here hx rfl (hb hby at_146) rfl q) ?_
      show WGo _ _ _ _ _ _ _ _ T75 (mkF m 148 #[.val (.int p1), .val (.long p2), .second, .val (.int p3), .val (.long v5), .second, .val (.int v11), .val (.ref aB), .val (.int v27), .val (.long (backF v11)), .second, .val (.int (spOk (spendF v5 (backF v11) (1 : Int32) (0 : Int32) ((backF v11) + (1 : Int64)))))] [(.long v5)])
      refine WGo.st (fun _ q => XS.lconst S76.here hx rfl (hb hby at_148) q) ?_
      show WGo _ _ _ _ _ _ _ _ T75 (mkF m 149 #[.val (.int p1), .val (.long p2), .second, .val (.int p3), .val (.long v5), .second, .val (.int v11), .val (.ref aB), .val (.int v27), .val (.long (backF v11)), .second, .val (.int (spOk (spendF v5 (backF v11) (1 : Int32) (0 : Int32) ((backF v11) + (1 : Int64)))))] [(.long (0 : Int64)), (.long v5)])
      refine WGo.st (fun _ q => XS.lcmp S76.here hx rfl (hb hby at_149) rfl q) ?_
      show WGo _ _ _ _ _ _ _ _ T75 (mkF m 150 #[.val (.int p1), .val (.long p2), .second, .val (.int p3), .val (.long v5), .second, .val (.int v11), .val (.ref aB), .val (.int v27), .val (.long (backF v11)), .second, .val (.int (spOk (spendF v5 (backF v11) (1 : Int32) (0 : Int32) ((backF v11) + (1 : Int64)))))] [(.int (lcmpW v5 (0 : Int64)))])
      by_cases c150 : v5 = (0 : Int64)
      · refine WGo.st (fun _ q => XS.ifNo S76.here hx rfl (hb hby at_150) rfl (teqJ c150).2 q) ?_
        show WGo _ _ _ _ _ _ _ _ T75 (mkF m 153 #[.val (.int p1), .val (.long p2), .second, .val (.int p3), .val (.long v5), .second, .val (.int v11), .val (.ref aB), .val (.int v27), .val (.long (backF v11)), .second, .val (.int (spOk (spendF v5 (backF v11) (1 : Int32) (0 : Int32) ((backF v11) + (1 : Int64)))))] [])
        have hsp : spendF v5 (backF v11) (1 : Int32) (0 : Int32) ((backF v11) + (1 : Int64)) = (0, 0, 1) := by rw [c150]; exact sp_zero (backF v11) (back_rng v11 hln).1 (back_rng v11 hln).2
        refine WGo.st (fun _ q => XS.iload S76.here hx rfl (hb hby at_153) rfl q) ?_
        show WGo _ _ _ _ _ _ _ _ T75 (mkF m 155 #[.val (.int p1), .val (.long p2), .second, .val (.int p3), .val (.long v5), .second, .val (.int v11), .val (.ref aB), .val (.int v27), .val (.long (backF v11)), .second, .val (.int (spOk (spendF v5 (backF v11) (1 : Int32) (0 : Int32) ((backF v11) + (1 : Int64)))))] [(.int (spOk (spendF v5 (backF v11) (1 : Int32) (0 : Int32) ((backF v11) + (1 : Int64)))))])
        refine WGo.st (fun _ q => XS.ifNo S76.here hx rfl (hb hby at_155) rfl ((if0 _ _).trans (teq (by rw [hsp]; first | rfl | (rw [c150]; rfl))).2) q) ?_
        show WGo _ _ _ _ _ _ _ _ T75 (mkF m 158 #[.val (.int p1), .val (.long p2), .second, .val (.int p3), .val (.long v5), .second, .val (.int v11), .val (.ref aB), .val (.int v27), .val (.long (backF v11)), .second, .val (.int (spOk (spendF v5 (backF v11) (1 : Int32) (0 : Int32) ((backF v11) + (1 : Int64)))))] [])
        refine WGo.st (fun _ q => XS.aload S76.here hx rfl (hb hby at_158) rfl rfl q) ?_
        show WGo _ _ _ _ _ _ _ _ T75 (mkF m 160 #[.val (.int p1), .val (.long p2), .second, .val (.int p3), .val (.long v5), .second, .val (.int v11), .val (.ref aB), .val (.int v27), .val (.long (backF v11)), .second, .val (.int (spOk (spendF v5 (backF v11) (1 : Int32) (0 : Int32) ((backF v11) + (1 : Int64)))))] [(.ref aB)])
        refine w_virtual S76 (y := (⟨"com/example/assay_shapes/assayshapes/RegexBudget", "isSpent", "()Z"⟩ : MethodName)) hown (hw _ (List.mem_of_getElem? (i := 39) rfl)) (hw _ (List.mem_of_getElem? (i := 40) rfl)) (hw _ (List.mem_of_getElem? (i := 42) rfl)) (hw _ (List.mem_of_getElem? (i := 41) rfl)) (hw _ (List.mem_of_getElem? (i := 4) rfl)) (hw _ (List.mem_of_getElem? (i := 43) rfl)) (by decide) q79f0 (rm_S l Z a0 hw n0 h77 aB (spendF v5 (backF v11) (1 : Int32) (0 : Int32) ((backF v11) + (1 : Int64))).1 (spendF v5 (backF v11) (1 : Int32) (0 : Int32) ((backF v11) + (1 : Int64))).2.1 (1 : Int32) (spendF v5 (backF v11) (1 : Int32) (0 : Int32) ((backF v11) + (1 : Int64))).2.2 S76.ge q79f0 q79f1 q79f2 q79f3 q79f4 (spend_bool v5 (backF v11) (1 : Int32) (0 : Int32) ((backF v11) + (1 : Int64)) (by decide))) (W := 0) (by decide) (by decide) (by decide) (by decide) rfl (by rw [hml]; rfl) (argsL := []) (rest := []) (ps := []) (rt := (some .boolean)) (by decide) rfl rfl rfl (by show 2 * 0 + _ ≤ _; exact Nat.le_of_eq rfl) (hb hby at_160) ?_
        intro T80 h82 w83 S81 q84
        obtain ⟨q84a, q84b⟩ := q84
        subst q84a
        replace q84b := Eq.symm q84b
        subst q84b
        show WGo _ _ _ _ _ _ _ _ T80 (mkF m 163 #[.val (.int p1), .val (.long p2), .second, .val (.int p3), .val (.long v5), .second, .val (.int v11), .val (.ref aB), .val (.int v27), .val (.long (backF v11)), .second, .val (.int (spOk (spendF v5 (backF v11) (1 : Int32) (0 : Int32) ((backF v11) + (1 : Int64)))))] [(.int (spendF v5 (backF v11) (1 : Int32) (0 : Int32) ((backF v11) + (1 : Int64))).2.2)])
        refine WGo.st (fun _ q => XS.ifNo S81.here hx rfl (hb hby at_163) rfl ((if0 _ _).trans (feq (by rw [hsp]; decide)).1) q) ?_
        show WGo _ _ _ _ _ _ _ _ T80 (mkF m 166 #[.val (.int p1), .val (.long p2), .second, .val (.int p3), .val (.long v5), .second, .val (.int v11), .val (.ref aB), .val (.int v27), .val (.long (backF v11)), .second, .val (.int (spOk (spendF v5 (backF v11) (1 : Int32) (0 : Int32) ((backF v11) + (1 : Int64)))))] [])
        refine WGo.st (fun _ q => XS.aload S81.here hx rfl (hb hby at_166) rfl rfl q) ?_
        show WGo _ _ _ _ _ _ _ _ T80 (mkF m 168 #[.val (.int p1), .val (.long p2), .second, .val (.int p3), .val (.long v5), .second, .val (.int v11), .val (.ref aB), .val (.int v27), .val (.long (backF v11)), .second, .val (.int (spOk (spendF v5 (backF v11) (1 : Int32) (0 : Int32) ((backF v11) + (1 : Int64)))))] [(.ref aB)])
        refine w_virtual S81 (y := (⟨"com/example/assay_shapes/assayshapes/RegexBudget", "left", "()J"⟩ : MethodName)) hown (hw _ (List.mem_of_getElem? (i := 44) rfl)) (hw _ (List.mem_of_getElem? (i := 45) rfl)) (hw _ (List.mem_of_getElem? (i := 47) rfl)) (hw _ (List.mem_of_getElem? (i := 46) rfl)) (hw _ (List.mem_of_getElem? (i := 4) rfl)) (hw _ (List.mem_of_getElem? (i := 48) rfl)) (by decide) q79f0 (rm_L l Z a0 hw n0 h77 aB (spendF v5 (backF v11) (1 : Int32) (0 : Int32) ((backF v11) + (1 : Int64))).1 (spendF v5 (backF v11) (1 : Int32) (0 : Int32) ((backF v11) + (1 : Int64))).2.1 (1 : Int32) (spendF v5 (backF v11) (1 : Int32) (0 : Int32) ((backF v11) + (1 : Int64))).2.2 S81.ge q79f0 q79f1 q79f2 q79f3 q79f4) (W := 0) (by decide) (by decide) (by decide) (by decide) rfl (by rw [hml]; rfl) (argsL := []) (rest := []) (ps := []) (rt := (some .long)) (by decide) rfl rfl rfl (by show 2 * 0 + _ ≤ _; exact Nat.le_of_eq rfl) (hb hby at_168) ?_
        intro T85 h87 w88 S86 q89
        obtain ⟨q89a, q89b⟩ := q89
        subst q89a
        replace q89b := Eq.symm q89b
        subst q89b
        show WGo _ _ _ _ _ _ _ _ T85 (mkF m 171 #[.val (.int p1), .val (.long p2), .second, .val (.int p3), .val (.long v5), .second, .val (.int v11), .val (.ref aB), .val (.int v27), .val (.long (backF v11)), .second, .val (.int (spOk (spendF v5 (backF v11) (1 : Int32) (0 : Int32) ((backF v11) + (1 : Int64)))))] [(.long (leftF (spendF v5 (backF v11) (1 : Int32) (0 : Int32) ((backF v11) + (1 : Int64))).1 (spendF v5 (backF v11) (1 : Int32) (0 : Int32) ((backF v11) + (1 : Int64))).2.1 (1 : Int32)))])
        refine WGo.st (fun _ q => XS.lconst S86.here hx rfl (hb hby at_171) q) ?_
        show WGo _ _ _ _ _ _ _ _ T85 (mkF m 172 #[.val (.int p1), .val (.long p2), .second, .val (.int p3), .val (.long v5), .second, .val (.int v11), .val (.ref aB), .val (.int v27), .val (.long (backF v11)), .second, .val (.int (spOk (spendF v5 (backF v11) (1 : Int32) (0 : Int32) ((backF v11) + (1 : Int64)))))] [(.long (0 : Int64)), (.long (leftF (spendF v5 (backF v11) (1 : Int32) (0 : Int32) ((backF v11) + (1 : Int64))).1 (spendF v5 (backF v11) (1 : Int32) (0 : Int32) ((backF v11) + (1 : Int64))).2.1 (1 : Int32)))])
        refine WGo.st (fun _ q => XS.lcmp S86.here hx rfl (hb hby at_172) rfl q) ?_
        show WGo _ _ _ _ _ _ _ _ T85 (mkF m 173 #[.val (.int p1), .val (.long p2), .second, .val (.int p3), .val (.long v5), .second, .val (.int v11), .val (.ref aB), .val (.int v27), .val (.long (backF v11)), .second, .val (.int (spOk (spendF v5 (backF v11) (1 : Int32) (0 : Int32) ((backF v11) + (1 : Int64)))))] [(.int (lcmpW (leftF (spendF v5 (backF v11) (1 : Int32) (0 : Int32) ((backF v11) + (1 : Int64))).1 (spendF v5 (backF v11) (1 : Int32) (0 : Int32) ((backF v11) + (1 : Int64))).2.1 (1 : Int32)) (0 : Int64)))])
        refine WGo.st (fun _ q => XS.ifNo S86.here hx rfl (hb hby at_173) rfl (teqJ (by rw [hsp]; first | rfl | (rw [c150]; rfl))).2 q) ?_
        show WGo _ _ _ _ _ _ _ _ T85 (mkF m 176 #[.val (.int p1), .val (.long p2), .second, .val (.int p3), .val (.long v5), .second, .val (.int v11), .val (.ref aB), .val (.int v27), .val (.long (backF v11)), .second, .val (.int (spOk (spendF v5 (backF v11) (1 : Int32) (0 : Int32) ((backF v11) + (1 : Int64)))))] [])
        refine WGo.st (fun _ q => XS.iconst S86.here hx rfl (hb hby at_176) q) ?_
        show WGo _ _ _ _ _ _ _ _ T85 (mkF m 177 #[.val (.int p1), .val (.long p2), .second, .val (.int p3), .val (.long v5), .second, .val (.int v11), .val (.ref aB), .val (.int v27), .val (.long (backF v11)), .second, .val (.int (spOk (spendF v5 (backF v11) (1 : Int32) (0 : Int32) ((backF v11) + (1 : Int64)))))] [(.int (1 : Int32))])
        refine WGo.st (fun _ q => XS.goto S86.here hx rfl (pc0 := 177) (pc' := 181) rfl (hb hby at_177) (by decide) (by decide) q) ?_
        show WGo _ _ _ _ _ _ _ _ T85 (mkF m 181 #[.val (.int p1), .val (.long p2), .second, .val (.int p3), .val (.long v5), .second, .val (.int v11), .val (.ref aB), .val (.int v27), .val (.long (backF v11)), .second, .val (.int (spOk (spendF v5 (backF v11) (1 : Int32) (0 : Int32) ((backF v11) + (1 : Int64)))))] [(.int (1 : Int32))])
        refine w_retZ S86 hret (hb hby at_181) (by decide) (by decide) (by decide) ?_
        exact rfl
      · refine WGo.st (fun _ q => XS.ifYes S76.here hx rfl (pc0 := 150) (pc' := 182) rfl (hb hby at_150) rfl (feqJ c150).2 (by decide) (by decide) q) ?_
        show WGo _ _ _ _ _ _ _ _ T75 (mkF m 182 #[.val (.int p1), .val (.long p2), .second, .val (.int p3), .val (.long v5), .second, .val (.int v11), .val (.ref aB), .val (.int v27), .val (.long (backF v11)), .second, .val (.int (spOk (spendF v5 (backF v11) (1 : Int32) (0 : Int32) ((backF v11) + (1 : Int64)))))] [])
        have hsp := sp_more v5 (backF v11) (back_rng v11 hln).1 (back_rng v11 hln).2 hrs c150
        refine WGo.st (fun _ q => XS.iload S76.here hx rfl (hb hby at_182) rfl q) ?_
        show WGo _ _ _ _ _ _ _ _ T75 (mkF m 184 #[.val (.int p1), .val (.long p2), .second, .val (.int p3), .val (.long v5), .second, .val (.int v11), .val (.ref aB), .val (.int v27), .val (.long (backF v11)), .second, .val (.int (spOk (spendF v5 (backF v11) (1 : Int32) (0 : Int32) ((backF v11) + (1 : Int64)))))] [(.int (spOk (spendF v5 (backF v11) (1 : Int32) (0 : Int32) ((backF v11) + (1 : Int64)))))])
        refine WGo.st (fun _ q => XS.ifNo S76.here hx rfl (hb hby at_184) rfl ((if0 _ _).trans (feq (by rw [hsp]; show ¬ (1 : Int32) = 0; decide)).1) q) ?_
        show WGo _ _ _ _ _ _ _ _ T75 (mkF m 187 #[.val (.int p1), .val (.long p2), .second, .val (.int p3), .val (.long v5), .second, .val (.int v11), .val (.ref aB), .val (.int v27), .val (.long (backF v11)), .second, .val (.int (spOk (spendF v5 (backF v11) (1 : Int32) (0 : Int32) ((backF v11) + (1 : Int64)))))] [])
        refine WGo.st (fun _ q => XS.aload S76.here hx rfl (hb hby at_187) rfl rfl q) ?_
        show WGo _ _ _ _ _ _ _ _ T75 (mkF m 189 #[.val (.int p1), .val (.long p2), .second, .val (.int p3), .val (.long v5), .second, .val (.int v11), .val (.ref aB), .val (.int v27), .val (.long (backF v11)), .second, .val (.int (spOk (spendF v5 (backF v11) (1 : Int32) (0 : Int32) ((backF v11) + (1 : Int64)))))] [(.ref aB)])
        refine w_virtual S76 (y := (⟨"com/example/assay_shapes/assayshapes/RegexBudget", "isSpent", "()Z"⟩ : MethodName)) hown (hw _ (List.mem_of_getElem? (i := 39) rfl)) (hw _ (List.mem_of_getElem? (i := 40) rfl)) (hw _ (List.mem_of_getElem? (i := 42) rfl)) (hw _ (List.mem_of_getElem? (i := 41) rfl)) (hw _ (List.mem_of_getElem? (i := 4) rfl)) (hw _ (List.mem_of_getElem? (i := 43) rfl)) (by decide) q79f0 (rm_S l Z a0 hw n0 h77 aB (spendF v5 (backF v11) (1 : Int32) (0 : Int32) ((backF v11) + (1 : Int64))).1 (spendF v5 (backF v11) (1 : Int32) (0 : Int32) ((backF v11) + (1 : Int64))).2.1 (1 : Int32) (spendF v5 (backF v11) (1 : Int32) (0 : Int32) ((backF v11) + (1 : Int64))).2.2 S76.ge q79f0 q79f1 q79f2 q79f3 q79f4 (spend_bool v5 (backF v11) (1 : Int32) (0 : Int32) ((backF v11) + (1 : Int64)) (by decide))) (W := 0) (by decide) (by decide) (by decide) (by decide) rfl (by rw [hml]; rfl) (argsL := []) (rest := []) (ps := []) (rt := (some .boolean)) (by decide) rfl rfl rfl (by show 2 * 0 + _ ≤ _; exact Nat.le_of_eq rfl) (hb hby at_189) ?_
        intro T90 h92 w93 S91 q94
        obtain ⟨q94a, q94b⟩ := q94
        subst q94a
        replace q94b := Eq.symm q94b
        subst q94b
        show WGo _ _ _ _ _ _ _ _ T90 (mkF m 192 #[.val (.int p1), .val (.long p2), .second, .val (.int p3), .val (.long v5), .second, .val (.int v11), .val (.ref aB), .val (.int v27), .val (.long (backF v11)), .second, .val (.int (spOk (spendF v5 (backF v11) (1 : Int32) (0 : Int32) ((backF v11) + (1 : Int64)))))] [(.int (spendF v5 (backF v11) (1 : Int32) (0 : Int32) ((backF v11) + (1 : Int64))).2.2)])
        refine WGo.st (fun _ q => XS.ifNo S91.here hx rfl (hb hby at_192) rfl ((if0 _ _).trans (teq (by rw [hsp])).2) q) ?_
        show WGo _ _ _ _ _ _ _ _ T90 (mkF m 195 #[.val (.int p1), .val (.long p2), .second, .val (.int p3), .val (.long v5), .second, .val (.int v11), .val (.ref aB), .val (.int v27), .val (.long (backF v11)), .second, .val (.int (spOk (spendF v5 (backF v11) (1 : Int32) (0 : Int32) ((backF v11) + (1 : Int64)))))] [])
        refine WGo.st (fun _ q => XS.aload S91.here hx rfl (hb hby at_195) rfl rfl q) ?_
        show WGo _ _ _ _ _ _ _ _ T90 (mkF m 197 #[.val (.int p1), .val (.long p2), .second, .val (.int p3), .val (.long v5), .second, .val (.int v11), .val (.ref aB), .val (.int v27), .val (.long (backF v11)), .second, .val (.int (spOk (spendF v5 (backF v11) (1 : Int32) (0 : Int32) ((backF v11) + (1 : Int64)))))] [(.ref aB)])
        refine w_virtual S91 (y := (⟨"com/example/assay_shapes/assayshapes/RegexBudget", "left", "()J"⟩ : MethodName)) hown (hw _ (List.mem_of_getElem? (i := 44) rfl)) (hw _ (List.mem_of_getElem? (i := 45) rfl)) (hw _ (List.mem_of_getElem? (i := 47) rfl)) (hw _ (List.mem_of_getElem? (i := 46) rfl)) (hw _ (List.mem_of_getElem? (i := 4) rfl)) (hw _ (List.mem_of_getElem? (i := 48) rfl)) (by decide) q79f0 (rm_L l Z a0 hw n0 h77 aB (spendF v5 (backF v11) (1 : Int32) (0 : Int32) ((backF v11) + (1 : Int64))).1 (spendF v5 (backF v11) (1 : Int32) (0 : Int32) ((backF v11) + (1 : Int64))).2.1 (1 : Int32) (spendF v5 (backF v11) (1 : Int32) (0 : Int32) ((backF v11) + (1 : Int64))).2.2 S91.ge q79f0 q79f1 q79f2 q79f3 q79f4) (W := 0) (by decide) (by decide) (by decide) (by decide) rfl (by rw [hml]; rfl) (argsL := []) (rest := []) (ps := []) (rt := (some .long)) (by decide) rfl rfl rfl (by show 2 * 0 + _ ≤ _; exact Nat.le_of_eq rfl) (hb hby at_197) ?_
        intro T95 h97 w98 S96 q99
        obtain ⟨q99a, q99b⟩ := q99
        subst q99a
        replace q99b := Eq.symm q99b
        subst q99b
        show WGo _ _ _ _ _ _ _ _ T95 (mkF m 200 #[.val (.int p1), .val (.long p2), .second, .val (.int p3), .val (.long v5), .second, .val (.int v11), .val (.ref aB), .val (.int v27), .val (.long (backF v11)), .second, .val (.int (spOk (spendF v5 (backF v11) (1 : Int32) (0 : Int32) ((backF v11) + (1 : Int64)))))] [(.long (leftF (spendF v5 (backF v11) (1 : Int32) (0 : Int32) ((backF v11) + (1 : Int64))).1 (spendF v5 (backF v11) (1 : Int32) (0 : Int32) ((backF v11) + (1 : Int64))).2.1 (1 : Int32)))])
        refine WGo.st (fun _ q => XS.lload S96.here hx rfl (hb hby at_200) rfl q) ?_
        show WGo _ _ _ _ _ _ _ _ T95 (mkF m 202 #[.val (.int p1), .val (.long p2), .second, .val (.int p3), .val (.long v5), .second, .val (.int v11), .val (.ref aB), .val (.int v27), .val (.long (backF v11)), .second, .val (.int (spOk (spendF v5 (backF v11) (1 : Int32) (0 : Int32) ((backF v11) + (1 : Int64)))))] [(.long v5), (.long (leftF (spendF v5 (backF v11) (1 : Int32) (0 : Int32) ((backF v11) + (1 : Int64))).1 (spendF v5 (backF v11) (1 : Int32) (0 : Int32) ((backF v11) + (1 : Int64))).2.1 (1 : Int32)))])
        refine WGo.st (fun _ q => XS.lconst S96.here hx rfl (hb hby at_202) q) ?_
        show WGo _ _ _ _ _ _ _ _ T95 (mkF m 203 #[.val (.int p1), .val (.long p2), .second, .val (.int p3), .val (.long v5), .second, .val (.int v11), .val (.ref aB), .val (.int v27), .val (.long (backF v11)), .second, .val (.int (spOk (spendF v5 (backF v11) (1 : Int32) (0 : Int32) ((backF v11) + (1 : Int64)))))] [(.long (1 : Int64)), (.long v5), (.long (leftF (spendF v5 (backF v11) (1 : Int32) (0 : Int32) ((backF v11) + (1 : Int64))).1 (spendF v5 (backF v11) (1 : Int32) (0 : Int32) ((backF v11) + (1 : Int64))).2.1 (1 : Int32)))])
        refine WGo.st (fun _ q => XS.lsub S96.here hx rfl (hb hby at_203) rfl q) ?_
        show WGo _ _ _ _ _ _ _ _ T95 (mkF m 204 #[.val (.int p1), .val (.long p2), .second, .val (.int p3), .val (.long v5), .second, .val (.int v11), .val (.ref aB), .val (.int v27), .val (.long (backF v11)), .second, .val (.int (spOk (spendF v5 (backF v11) (1 : Int32) (0 : Int32) ((backF v11) + (1 : Int64)))))] [(.long (v5 - (1 : Int64))), (.long (leftF (spendF v5 (backF v11) (1 : Int32) (0 : Int32) ((backF v11) + (1 : Int64))).1 (spendF v5 (backF v11) (1 : Int32) (0 : Int32) ((backF v11) + (1 : Int64))).2.1 (1 : Int32)))])
        refine WGo.st (fun _ q => XS.lcmp S96.here hx rfl (hb hby at_204) rfl q) ?_
        show WGo _ _ _ _ _ _ _ _ T95 (mkF m 205 #[.val (.int p1), .val (.long p2), .second, .val (.int p3), .val (.long v5), .second, .val (.int v11), .val (.ref aB), .val (.int v27), .val (.long (backF v11)), .second, .val (.int (spOk (spendF v5 (backF v11) (1 : Int32) (0 : Int32) ((backF v11) + (1 : Int64)))))] [(.int (lcmpW (leftF (spendF v5 (backF v11) (1 : Int32) (0 : Int32) ((backF v11) + (1 : Int64))).1 (spendF v5 (backF v11) (1 : Int32) (0 : Int32) ((backF v11) + (1 : Int64))).2.1 (1 : Int32)) (v5 - (1 : Int64))))])
        refine WGo.st (fun _ q => XS.ifNo S96.here hx rfl (hb hby at_205) rfl (teqJ (by rw [hsp]; exact lm1 v5)).2 q) ?_
        show WGo _ _ _ _ _ _ _ _ T95 (mkF m 208 #[.val (.int p1), .val (.long p2), .second, .val (.int p3), .val (.long v5), .second, .val (.int v11), .val (.ref aB), .val (.int v27), .val (.long (backF v11)), .second, .val (.int (spOk (spendF v5 (backF v11) (1 : Int32) (0 : Int32) ((backF v11) + (1 : Int64)))))] [])
        refine WGo.st (fun _ q => XS.iconst S96.here hx rfl (hb hby at_208) q) ?_
        show WGo _ _ _ _ _ _ _ _ T95 (mkF m 209 #[.val (.int p1), .val (.long p2), .second, .val (.int p3), .val (.long v5), .second, .val (.int v11), .val (.ref aB), .val (.int v27), .val (.long (backF v11)), .second, .val (.int (spOk (spendF v5 (backF v11) (1 : Int32) (0 : Int32) ((backF v11) + (1 : Int64)))))] [(.int (1 : Int32))])
        refine WGo.st (fun _ q => XS.goto S96.here hx rfl (pc0 := 209) (pc' := 213) rfl (hb hby at_209) (by decide) (by decide) q) ?_
        show WGo _ _ _ _ _ _ _ _ T95 (mkF m 213 #[.val (.int p1), .val (.long p2), .second, .val (.int p3), .val (.long v5), .second, .val (.int v11), .val (.ref aB), .val (.int v27), .val (.long (backF v11)), .second, .val (.int (spOk (spendF v5 (backF v11) (1 : Int32) (0 : Int32) ((backF v11) + (1 : Int64)))))] [(.int (1 : Int32))])
        refine w_retZ S96 hret (hb hby at_213) (by decide) (by decide) (by decide) ?_
        exact rfl
    · refine WGo.st (fun _ q => XS.icmpYes S6.here hx rfl (pc0 := 48) (pc' := 68) rfl (hb hby at_48) rfl (feq c48).2 (by decide) (by decide) q) ?_
      show WGo _ _ _ _ _ _ _ _ T5 (mkF m 68 #[.val (.int p1), .val (.long p2), .second, .val (.int p3), .val (.long v5), .second, .val (.int v11), .val (.ref aB), .val (.int v27), .unset, .unset, .unset] [])
      refine WGo.st (fun _ q => XS.iload S6.here hx rfl (hb hby at_68) rfl q) ?_
      show WGo _ _ _ _ _ _ _ _ T5 (mkF m 70 #[.val (.int p1), .val (.long p2), .second, .val (.int p3), .val (.long v5), .second, .val (.int v11), .val (.ref aB), .val (.int v27), .unset, .unset, .unset] [(.int v27)])
      refine WGo.st (fun _ q => XS.iconst S6.here hx rfl (hb hby at_70) q) ?_
      show WGo _ _ _ _ _ _ _ _ T5 (mkF m 71 #[.val (.int p1), .val (.long p2), .second, .val (.int p3), .val (.long v5), .second, .val (.int v11), .val (.ref aB), .val (.int v27), .unset, .unset, .unset] [(.int (3 : Int32)), (.int v27)])
      by_cases c71 : v27 = (3 : Int32)
      · refine WGo.st (fun _ q => XS.icmpNo S6.here hx rfl (hb hby at_71) rfl (teq c71).2 q) ?_
        show WGo _ _ _ _ _ _ _ _ T5 (mkF m 74 #[.val (.int p1), .val (.long p2), .second, .val (.int p3), .val (.long v5), .second, .val (.int v11), .val (.ref aB), .val (.int v27), .unset, .unset, .unset] [])
        refine WGo.st (fun _ q => XS.aload S6.here hx rfl (hb hby at_74) rfl rfl q) ?_
        show WGo _ _ _ _ _ _ _ _ T5 (mkF m 76 #[.val (.int p1), .val (.long p2), .second, .val (.int p3), .val (.long v5), .second, .val (.int v11), .val (.ref aB), .val (.int v27), .unset, .unset, .unset] [(.ref aB)])
        refine WGo.st (fun _ q => XS.iconst S6.here hx rfl (hb hby at_76) q) ?_
        show WGo _ _ _ _ _ _ _ _ T5 (mkF m 77 #[.val (.int p1), .val (.long p2), .second, .val (.int p3), .val (.long v5), .second, .val (.int v11), .val (.ref aB), .val (.int v27), .unset, .unset, .unset] [(.int (5 : Int32)), (.ref aB)])
        refine WGo.st (fun _ q => XS.iconst S6.here hx rfl (hb hby at_77) q) ?_
        show WGo _ _ _ _ _ _ _ _ T5 (mkF m 78 #[.val (.int p1), .val (.long p2), .second, .val (.int p3), .val (.long v5), .second, .val (.int v11), .val (.ref aB), .val (.int v27), .unset, .unset, .unset] [(.int (1 : Int32)), (.int (5 : Int32)), (.ref aB)])
        refine WGo.st (fun _ q => XS.iconst S6.here hx rfl (hb hby at_78) q) ?_
        show WGo _ _ _ _ _ _ _ _ T5 (mkF m 79 #[.val (.int p1), .val (.long p2), .second, .val (.int p3), .val (.long v5), .second, .val (.int v11), .val (.ref aB), .val (.int v27), .unset, .unset, .unset] [(.int (3 : Int32)), (.int (1 : Int32)), (.int (5 : Int32)), (.ref aB)])
        refine w_virtual S6 (y := (⟨"com/example/assay_shapes/assayshapes/RegexBudget", "beginAutomaton", "(III)V"⟩ : MethodName)) hown (hw _ (List.mem_of_getElem? (i := 50) rfl)) (hw _ (List.mem_of_getElem? (i := 51) rfl)) (hw _ (List.mem_of_getElem? (i := 53) rfl)) (hw _ (List.mem_of_getElem? (i := 52) rfl)) (hw _ (List.mem_of_getElem? (i := 4) rfl)) (hw _ (List.mem_of_getElem? (i := 54) rfl)) (by decide) q9f0 (rm_A l Z a0 hw n0 h7 aB v5 (0 : Int64) (0 : Int32) (0 : Int32) (5 : Int32) (1 : Int32) (3 : Int32) S6.ge g_aB q9f0 q9f1 q9f2 q9f3 q9f4) (W := 0) (by decide) (by decide) (by decide) (by decide) rfl (by rw [hml]; rfl) (argsL := [(.int (5 : Int32)), (.int (1 : Int32)), (.int (3 : Int32))]) (rest := []) (ps := [.int, .int, .int]) (rt := none) (by decide) rfl rfl rfl (by show 2 * 0 + _ ≤ _; exact Nat.le_of_eq rfl) (hb hby at_79) ?_
        intro T100 h102 w103 S101 q104
        obtain ⟨q104a, q104K, q104f0, q104f1, q104f2, q104f3, q104f4⟩ := q104
        subst q104a
        show WGo _ _ _ _ _ _ _ _ T100 (mkF m 82 #[.val (.int p1), .val (.long p2), .second, .val (.int p3), .val (.long v5), .second, .val (.int v11), .val (.ref aB), .val (.int v27), .unset, .unset, .unset] [])
        refine WGo.st (fun _ q => XS.aload S101.here hx rfl (hb hby at_82) rfl rfl q) ?_
        show WGo _ _ _ _ _ _ _ _ T100 (mkF m 84 #[.val (.int p1), .val (.long p2), .second, .val (.int p3), .val (.long v5), .second, .val (.int v11), .val (.ref aB), .val (.int v27), .unset, .unset, .unset] [(.ref aB)])
        refine w_ldc2 S101 hown (hw _ (List.mem_of_getElem? (i := 59) rfl)) rfl (hb hby at_84) ?_
        show WGo _ _ _ _ _ _ _ _ T100 (mkF m 87 #[.val (.int p1), .val (.long p2), .second, .val (.int p3), .val (.long v5), .second, .val (.int v11), .val (.ref aB), .val (.int v27), .unset, .unset, .unset] [(.long (1099511627776 : Int64)), (.ref aB)])
        refine w_virtual S101 (y := (⟨"com/example/assay_shapes/assayshapes/RegexBudget", "spend", "(J)Z"⟩ : MethodName)) hown (hw _ (List.mem_of_getElem? (i := 13) rfl)) (hw _ (List.mem_of_getElem? (i := 14) rfl)) (hw _ (List.mem_of_getElem? (i := 16) rfl)) (hw _ (List.mem_of_getElem? (i := 15) rfl)) (hw _ (List.mem_of_getElem? (i := 4) rfl)) (hw _ (List.mem_of_getElem? (i := 17) rfl)) (by decide) q104f0 (rm_P l Z a0 hw n0 h102 aB v5 (autoF (5 : Int32) (1 : Int32) (3 : Int32)) (0 : Int32) (0 : Int32) (1099511627776 : Int64) S101.ge g_aB q104f0 q104f1 q104f2 q104f3 q104f4 (by decide)) (W := 0) (by decide) (by decide) (by decide) (by decide) rfl (by rw [hml]; rfl) (argsL := [(.long (1099511627776 : Int64))]) (rest := []) (ps := [.long]) (rt := (some .boolean)) (by decide) rfl rfl rfl (by show 2 * 0 + _ ≤ _; exact Nat.le_of_eq rfl) (hb hby at_87) ?_
        intro T105 h107 w108 S106 q109
        obtain ⟨q109a, q109K, q109f0, q109f1, q109f2, q109f3, q109f4⟩ := q109
        subst q109a
        show WGo _ _ _ _ _ _ _ _ T105 (mkF m 90 #[.val (.int p1), .val (.long p2), .second, .val (.int p3), .val (.long v5), .second, .val (.int v11), .val (.ref aB), .val (.int v27), .unset, .unset, .unset] [(.int (spOk (spendF v5 (autoF (5 : Int32) (1 : Int32) (3 : Int32)) (0 : Int32) (0 : Int32) (1099511627776 : Int64))))])
        refine WGo.st (fun _ q => XS.pop S106.here hx rfl (hb hby at_90) rfl rfl q) ?_
        show WGo _ _ _ _ _ _ _ _ T105 (mkF m 91 #[.val (.int p1), .val (.long p2), .second, .val (.int p3), .val (.long v5), .second, .val (.int v11), .val (.ref aB), .val (.int v27), .unset, .unset, .unset] [])
        have fres : Fld Z h107 aB "com/example/assay_shapes/assayshapes/RegexBudget" "mReserve" "J" (.long v5) := by have q := q109f1; rw [res3 v5 hr0] at q; exact q
        refine w_ldc2 S106 hown (hw _ (List.mem_of_getElem? (i := 28) rfl)) rfl (hb hby at_91) ?_
        show WGo _ _ _ _ _ _ _ _ T105 (mkF m 94 #[.val (.int p1), .val (.long p2), .second, .val (.int p3), .val (.long v5), .second, .val (.int v11), .val (.ref aB), .val (.int v27), .unset, .unset, .unset] [(.long (33 : Int64))])
        refine WGo.st (fun _ q => XS.iload S106.here hx rfl (hb hby at_94) rfl q) ?_
        show WGo _ _ _ _ _ _ _ _ T105 (mkF m 96 #[.val (.int p1), .val (.long p2), .second, .val (.int p3), .val (.long v5), .second, .val (.int v11), .val (.ref aB), .val (.int v27), .unset, .unset, .unset] [(.int v11), (.long (33 : Int64))])
        refine WGo.st (fun _ q => XS.i2l S106.here hx rfl (hb hby at_96) rfl q) ?_
        show WGo _ _ _ _ _ _ _ _ T105 (mkF m 97 #[.val (.int p1), .val (.long p2), .second, .val (.int p3), .val (.long v5), .second, .val (.int v11), .val (.ref aB), .val (.int v27), .unset, .unset, .unset] [(.long (v11.toInt64)), (.long (33 : Int64))])
        refine WGo.st (fun _ q => XS.lconst S106.here hx rfl (hb hby at_97) q) ?_
        show WGo _ _ _ _ _ _ _ _ T105 (mkF m 98 #[.val (.int p1), .val (.long p2), .second, .val (.int p3), .val (.long v5), .second, .val (.int v11), .val (.ref aB), .val (.int v27), .unset, .unset, .unset] [(.long (1 : Int64)), (.long (v11.toInt64)), (.long (33 : Int64))])
        refine WGo.st (fun _ q => XS.ladd S106.here hx rfl (hb hby at_98) rfl q) ?_
        show WGo _ _ _ _ _ _ _ _ T105 (mkF m 99 #[.val (.int p1), .val (.long p2), .second, .val (.int p3), .val (.long v5), .second, .val (.int v11), .val (.ref aB), .val (.int v27), .unset, .unset, .unset] [(.long ((v11.toInt64) + (1 : Int64))), (.long (33 : Int64))])
        refine WGo.st (fun _ q => XS.lmul S106.here hx rfl (hb hby at_99) rfl q) ?_
        show WGo _ _ _ _ _ _ _ _ T105 (mkF m 100 #[.val (.int p1), .val (.long p2), .second, .val (.int p3), .val (.long v5), .second, .val (.int v11), .val (.ref aB), .val (.int v27), .unset, .unset, .unset] [(.long ((33 : Int64) * ((v11.toInt64) + (1 : Int64))))])
        refine WGo.st (fun _ q => XS.lstore S106.here hx rfl (hb hby at_100) rfl (l' := #[.val (.int p1), .val (.long p2), .second, .val (.int p3), .val (.long v5), .second, .val (.int v11), .val (.ref aB), .val (.int v27), .val (.long ((33 : Int64) * ((v11.toInt64) + (1 : Int64)))), .second, .unset]) rfl q) ?_
        show WGo _ _ _ _ _ _ _ _ T105 (mkF m 102 #[.val (.int p1), .val (.long p2), .second, .val (.int p3), .val (.long v5), .second, .val (.int v11), .val (.ref aB), .val (.int v27), .val (.long ((33 : Int64) * ((v11.toInt64) + (1 : Int64)))), .second, .unset] [])
        show WGo _ _ _ _ _ _ _ _ T105 (mkF m 102 #[.val (.int p1), .val (.long p2), .second, .val (.int p3), .val (.long v5), .second, .val (.int v11), .val (.ref aB), .val (.int v27), .val (.long (backF v11)), .second, .unset] [])
        refine WGo.st (fun _ q => XS.aload S106.here hx rfl (hb hby at_102) rfl rfl q) ?_
        show WGo _ _ _ _ _ _ _ _ T105 (mkF m 104 #[.val (.int p1), .val (.long p2), .second, .val (.int p3), .val (.long v5), .second, .val (.int v11), .val (.ref aB), .val (.int v27), .val (.long (backF v11)), .second, .unset] [(.ref aB)])
        refine WGo.st (fun _ q => XS.iload S106.here hx rfl (hb hby at_104) rfl q) ?_
        show WGo _ _ _ _ _ _ _ _ T105 (mkF m 106 #[.val (.int p1), .val (.long p2), .second, .val (.int p3), .val (.long v5), .second, .val (.int v11), .val (.ref aB), .val (.int v27), .val (.long (backF v11)), .second, .unset] [(.int v11), (.ref aB)])
        refine w_virtual S106 (y := (⟨"com/example/assay_shapes/assayshapes/RegexBudget", "beginBacktracking", "(I)V"⟩ : MethodName)) hown (hw _ (List.mem_of_getElem? (i := 29) rfl)) (hw _ (List.mem_of_getElem? (i := 30) rfl)) (hw _ (List.mem_of_getElem? (i := 32) rfl)) (hw _ (List.mem_of_getElem? (i := 31) rfl)) (hw _ (List.mem_of_getElem? (i := 4) rfl)) (hw _ (List.mem_of_getElem? (i := 33) rfl)) (by decide) q109f0 (rm_T l Z a0 hw n0 h107 aB v5 (spendF v5 (autoF (5 : Int32) (1 : Int32) (3 : Int32)) (0 : Int32) (0 : Int32) (1099511627776 : Int64)).2.1 (0 : Int32) (spendF v5 (autoF (5 : Int32) (1 : Int32) (3 : Int32)) (0 : Int32) (0 : Int32) (1099511627776 : Int64)).2.2 v11 S106.ge g_aB q109f0 fres q109f2 q109f3 q109f4) (W := 0) (by decide) (by decide) (by decide) (by decide) rfl (by rw [hml]; rfl) (argsL := [(.int v11)]) (rest := []) (ps := [.int]) (rt := none) (by decide) rfl rfl rfl (by show 2 * 0 + _ ≤ _; exact Nat.le_of_eq rfl) (hb hby at_106) ?_
        intro T110 h112 w113 S111 q114
        obtain ⟨q114a, q114K, q114f0, q114f1, q114f2, q114f3, q114f4⟩ := q114
        subst q114a
        show WGo _ _ _ _ _ _ _ _ T110 (mkF m 109 #[.val (.int p1), .val (.long p2), .second, .val (.int p3), .val (.long v5), .second, .val (.int v11), .val (.ref aB), .val (.int v27), .val (.long (backF v11)), .second, .unset] [])
        refine WGo.st (fun _ q => XS.aload S111.here hx rfl (hb hby at_109) rfl rfl q) ?_
        show WGo _ _ _ _ _ _ _ _ T110 (mkF m 111 #[.val (.int p1), .val (.long p2), .second, .val (.int p3), .val (.long v5), .second, .val (.int v11), .val (.ref aB), .val (.int v27), .val (.long (backF v11)), .second, .unset] [(.ref aB)])
        refine w_virtual S111 (y := (⟨"com/example/assay_shapes/assayshapes/RegexBudget", "isSpent", "()Z"⟩ : MethodName)) hown (hw _ (List.mem_of_getElem? (i := 39) rfl)) (hw _ (List.mem_of_getElem? (i := 40) rfl)) (hw _ (List.mem_of_getElem? (i := 42) rfl)) (hw _ (List.mem_of_getElem? (i := 41) rfl)) (hw _ (List.mem_of_getElem? (i := 4) rfl)) (hw _ (List.mem_of_getElem? (i := 43) rfl)) (by decide) q114f0 (rm_S l Z a0 hw n0 h112 aB v5 (backF v11) (1 : Int32) (0 : Int32) S111.ge q114f0 q114f1 q114f2 q114f3 q114f4 (by decide)) (W := 0) (by decide) (by decide) (by decide) (by decide) rfl (by rw [hml]; rfl) (argsL := []) (rest := []) (ps := []) (rt := (some .boolean)) (by decide) rfl rfl rfl (by show 2 * 0 + _ ≤ _; exact Nat.le_of_eq rfl) (hb hby at_111) ?_
        intro T115 h117 w118 S116 q119
        obtain ⟨q119a, q119b⟩ := q119
        subst q119a
        replace q119b := Eq.symm q119b
        subst q119b
        show WGo _ _ _ _ _ _ _ _ T115 (mkF m 114 #[.val (.int p1), .val (.long p2), .second, .val (.int p3), .val (.long v5), .second, .val (.int v11), .val (.ref aB), .val (.int v27), .val (.long (backF v11)), .second, .unset] [(.int (0 : Int32))])
        refine WGo.st (fun _ q => XS.ifYes S116.here hx rfl (pc0 := 114) (pc' := 119) rfl (hb hby at_114) rfl ((if0 _ _).trans (teq (by decide : ((0 : Int32) = (0 : Int32)))).1) (by decide) (by decide) q) ?_
        show WGo _ _ _ _ _ _ _ _ T115 (mkF m 119 #[.val (.int p1), .val (.long p2), .second, .val (.int p3), .val (.long v5), .second, .val (.int v11), .val (.ref aB), .val (.int v27), .val (.long (backF v11)), .second, .unset] [])
        refine WGo.st (fun _ q => XS.aload S116.here hx rfl (hb hby at_119) rfl rfl q) ?_
        show WGo _ _ _ _ _ _ _ _ T115 (mkF m 121 #[.val (.int p1), .val (.long p2), .second, .val (.int p3), .val (.long v5), .second, .val (.int v11), .val (.ref aB), .val (.int v27), .val (.long (backF v11)), .second, .unset] [(.ref aB)])
        refine w_virtual S116 (y := (⟨"com/example/assay_shapes/assayshapes/RegexBudget", "left", "()J"⟩ : MethodName)) hown (hw _ (List.mem_of_getElem? (i := 44) rfl)) (hw _ (List.mem_of_getElem? (i := 45) rfl)) (hw _ (List.mem_of_getElem? (i := 47) rfl)) (hw _ (List.mem_of_getElem? (i := 46) rfl)) (hw _ (List.mem_of_getElem? (i := 4) rfl)) (hw _ (List.mem_of_getElem? (i := 48) rfl)) (by decide) q114f0 (rm_L l Z a0 hw n0 h112 aB v5 (backF v11) (1 : Int32) (0 : Int32) S116.ge q114f0 q114f1 q114f2 q114f3 q114f4) (W := 0) (by decide) (by decide) (by decide) (by decide) rfl (by rw [hml]; rfl) (argsL := []) (rest := []) (ps := []) (rt := (some .long)) (by decide) rfl rfl rfl (by show 2 * 0 + _ ≤ _; exact Nat.le_of_eq rfl) (hb hby at_121) ?_
        intro T120 h122 w123 S121 q124
        obtain ⟨q124a, q124b⟩ := q124
        subst q124a
        replace q124b := Eq.symm q124b
        subst q124b
        show WGo _ _ _ _ _ _ _ _ T120 (mkF m 124 #[.val (.int p1), .val (.long p2), .second, .val (.int p3), .val (.long v5), .second, .val (.int v11), .val (.ref aB), .val (.int v27), .val (.long (backF v11)), .second, .unset] [(.long (leftF v5 (backF v11) (1 : Int32)))])
        refine WGo.st (fun _ q => XS.lload S121.here hx rfl (hb hby at_124) rfl q) ?_
        show WGo _ _ _ _ _ _ _ _ T120 (mkF m 126 #[.val (.int p1), .val (.long p2), .second, .val (.int p3), .val (.long v5), .second, .val (.int v11), .val (.ref aB), .val (.int v27), .val (.long (backF v11)), .second, .unset] [(.long (backF v11)), (.long (leftF v5 (backF v11) (1 : Int32)))])
        refine WGo.st (fun _ q => XS.lload S121.here hx rfl (hb hby at_126) rfl q) ?_
        show WGo _ _ _ _ _ _ _ _ T120 (mkF m 128 #[.val (.int p1), .val (.long p2), .second, .val (.int p3), .val (.long v5), .second, .val (.int v11), .val (.ref aB), .val (.int v27), .val (.long (backF v11)), .second, .unset] [(.long v5), (.long (backF v11)), (.long (leftF v5 (backF v11) (1 : Int32)))])
        refine WGo.st (fun _ q => XS.ladd S121.here hx rfl (hb hby at_128) rfl q) ?_
        show WGo _ _ _ _ _ _ _ _ T120 (mkF m 129 #[.val (.int p1), .val (.long p2), .second, .val (.int p3), .val (.long v5), .second, .val (.int v11), .val (.ref aB), .val (.int v27), .val (.long (backF v11)), .second, .unset] [(.long ((backF v11) + v5)), (.long (leftF v5 (backF v11) (1 : Int32)))])
        refine WGo.st (fun _ q => XS.lcmp S121.here hx rfl (hb hby at_129) rfl q) ?_
        show WGo _ _ _ _ _ _ _ _ T120 (mkF m 130 #[.val (.int p1), .val (.long p2), .second, .val (.int p3), .val (.long v5), .second, .val (.int v11), .val (.ref aB), .val (.int v27), .val (.long (backF v11)), .second, .unset] [(.int (lcmpW (leftF v5 (backF v11) (1 : Int32)) ((backF v11) + v5)))])
        refine WGo.st (fun _ q => XS.ifYes S121.here hx rfl (pc0 := 130) (pc' := 135) rfl (hb hby at_130) rfl (teqJ (by unfold leftF; rw [if_neg (by decide)])).1 (by decide) (by decide) q) ?_
        show WGo _ _ _ _ _ _ _ _ T120 (mkF m 135 #[.val (.int p1), .val (.long p2), .second, .val (.int p3), .val (.long v5), .second, .val (.int v11), .val (.ref aB), .val (.int v27), .val (.long (backF v11)), .second, .unset] [])
        refine WGo.st (fun _ q => XS.aload S121.here hx rfl (hb hby at_135) rfl rfl q) ?_
        show WGo _ _ _ _ _ _ _ _ T120 (mkF m 137 #[.val (.int p1), .val (.long p2), .second, .val (.int p3), .val (.long v5), .second, .val (.int v11), .val (.ref aB), .val (.int v27), .val (.long (backF v11)), .second, .unset] [(.ref aB)])
        refine WGo.st (fun _ q => XS.lload S121.here hx rfl (hb hby at_137) rfl q) ?_
        show WGo _ _ _ _ _ _ _ _ T120 (mkF m 139 #[.val (.int p1), .val (.long p2), .second, .val (.int p3), .val (.long v5), .second, .val (.int v11), .val (.ref aB), .val (.int v27), .val (.long (backF v11)), .second, .unset] [(.long (backF v11)), (.ref aB)])
        refine WGo.st (fun _ q => XS.lconst S121.here hx rfl (hb hby at_139) q) ?_
        show WGo _ _ _ _ _ _ _ _ T120 (mkF m 140 #[.val (.int p1), .val (.long p2), .second, .val (.int p3), .val (.long v5), .second, .val (.int v11), .val (.ref aB), .val (.int v27), .val (.long (backF v11)), .second, .unset] [(.long (1 : Int64)), (.long (backF v11)), (.ref aB)])
        refine WGo.st (fun _ q => XS.ladd S121.here hx rfl (hb hby at_140) rfl q) ?_
        show WGo _ _ _ _ _ _ _ _ T120 (mkF m 141 #[.val (.int p1), .val (.long p2), .second, .val (.int p3), .val (.long v5), .second, .val (.int v11), .val (.ref aB), .val (.int v27), .val (.long (backF v11)), .second, .unset] [(.long ((backF v11) + (1 : Int64))), (.ref aB)])
        refine w_virtual S121 (y := (⟨"com/example/assay_shapes/assayshapes/RegexBudget", "spend", "(J)Z"⟩ : MethodName)) hown (hw _ (List.mem_of_getElem? (i := 13) rfl)) (hw _ (List.mem_of_getElem? (i := 14) rfl)) (hw _ (List.mem_of_getElem? (i := 16) rfl)) (hw _ (List.mem_of_getElem? (i := 15) rfl)) (hw _ (List.mem_of_getElem? (i := 4) rfl)) (hw _ (List.mem_of_getElem? (i := 17) rfl)) (by decide) q114f0 (rm_P l Z a0 hw n0 h112 aB v5 (backF v11) (1 : Int32) (0 : Int32) ((backF v11) + (1 : Int64)) S121.ge g_aB q114f0 q114f1 q114f2 q114f3 q114f4 (by decide)) (W := 0) (by decide) (by decide) (by decide) (by decide) rfl (by rw [hml]; rfl) (argsL := [(.long ((backF v11) + (1 : Int64)))]) (rest := []) (ps := [.long]) (rt := (some .boolean)) (by decide) rfl rfl rfl (by show 2 * 0 + _ ≤ _; exact Nat.le_of_eq rfl) (hb hby at_141) ?_
        intro T125 h127 w128 S126 q129
        obtain ⟨q129a, q129K, q129f0, q129f1, q129f2, q129f3, q129f4⟩ := q129
        subst q129a
        show WGo _ _ _ _ _ _ _ _ T125 (mkF m 144 #[.val (.int p1), .val (.long p2), .second, .val (.int p3), .val (.long v5), .second, .val (.int v11), .val (.ref aB), .val (.int v27), .val (.long (backF v11)), .second, .unset] [(.int (spOk (spendF v5 (backF v11) (1 : Int32) (0 : Int32) ((backF v11) + (1 : Int64)))))])
        refine WGo.st (fun _ q => XS.istore S126.here hx rfl (hb hby at_144) rfl (l' := #[.val (.int p1), .val (.long p2), .second, .val (.int p3), .val (.long v5), .second, .val (.int v11), .val (.ref aB), .val (.int v27), .val (.long (backF v11)), .second, .val (.int (spOk (spendF v5 (backF v11) (1 : Int32) (0 : Int32) ((backF v11) + (1 : Int64)))))]) rfl q) ?_
        show WGo _ _ _ _ _ _ _ _ T125 (mkF m 146 #[.val (.int p1), .val (.long p2), .second, .val (.int p3), .val (.long v5), .second, .val (.int v11), .val (.ref aB), .val (.int v27), .val (.long (backF v11)), .second, .val (.int (spOk (spendF v5 (backF v11) (1 : Int32) (0 : Int32) ((backF v11) + (1 : Int64)))))] [])
        refine WGo.st (fun _ q => XS.lload S126.here hx rfl (hb hby at_146) rfl q) ?_
        show WGo _ _ _ _ _ _ _ _ T125 (mkF m 148 #[.val (.int p1), .val (.long p2), .second, .val (.int p3), .val (.long v5), .second, .val (.int v11), .val (.ref aB), .val (.int v27), .val (.long (backF v11)), .second, .val (.int (spOk (spendF v5 (backF v11) (1 : Int32) (0 : Int32) ((backF v11) + (1 : Int64)))))] [(.long v5)])
        refine WGo.st (fun _ q => XS.lconst S126.here hx rfl (hb hby at_148) q) ?_
        show WGo _ _ _ _ _ _ _ _ T125 (mkF m 149 #[.val (.int p1), .val (.long p2), .second, .val (.int p3), .val (.long v5), .second, .val (.int v11), .val (.ref aB), .val (.int v27), .val (.long (backF v11)), .second, .val (.int (spOk (spendF v5 (backF v11) (1 : Int32) (0 : Int32) ((backF v11) + (1 : Int64)))))] [(.long (0 : Int64)), (.long v5)])
        refine WGo.st (fun _ q => XS.lcmp S126.here hx rfl (hb hby at_149) rfl q) ?_
        show WGo _ _ _ _ _ _ _ _ T125 (mkF m 150 #[.val (.int p1), .val (.long p2), .second, .val (.int p3), .val (.long v5), .second, .val (.int v11), .val (.ref aB), .val (.int v27), .val (.long (backF v11)), .second, .val (.int (spOk (spendF v5 (backF v11) (1 : Int32) (0 : Int32) ((backF v11) + (1 : Int64)))))] [(.int (lcmpW v5 (0 : Int64)))])
        by_cases c150 : v5 = (0 : Int64)
        · refine WGo.st (fun _ q => XS.ifNo S126.here hx rfl (hb hby at_150) rfl (teqJ c150).2 q) ?_
          show WGo _ _ _ _ _ _ _ _ T125 (mkF m 153 #[.val (.int p1), .val (.long p2), .second, .val (.int p3), .val (.long v5), .second, .val (.int v11), .val (.ref aB), .val (.int v27), .val (.long (backF v11)), .second, .val (.int (spOk (spendF v5 (backF v11) (1 : Int32) (0 : Int32) ((backF v11) + (1 : Int64)))))] [])
          have hsp : spendF v5 (backF v11) (1 : Int32) (0 : Int32) ((backF v11) + (1 : Int64)) = (0, 0, 1) := by rw [c150]; exact sp_zero (backF v11) (back_rng v11 hln).1 (back_rng v11 hln).2
          refine WGo.st (fun _ q => XS.iload S126.here hx rfl (hb hby at_153) rfl q) ?_
          show WGo _ _ _ _ _ _ _ _ T125 (mkF m 155 #[.val (.int p1), .val (.long p2), .second, .val (.int p3), .val (.long v5), .second, .val (.int v11), .val (.ref aB), .val (.int v27), .val (.long (backF v11)), .second, .val (.int (spOk (spendF v5 (backF v11) (1 : Int32) (0 : Int32) ((backF v11) + (1 : Int64)))))] [(.int (spOk (spendF v5 (backF v11) (1 : Int32) (0 : Int32) ((backF v11) + (1 : Int64)))))])
          refine WGo.st (fun _ q => XS.ifNo S126.here hx rfl (hb hby at_155) rfl ((if0 _ _).trans (teq (by rw [hsp]; first | rfl | (rw [c150]; rfl))).2) q) ?_
          show WGo _ _ _ _ _ _ _ _ T125 (mkF m 158 #[.val (.int p1), .val (.long p2), .second, .val (.int p3), .val (.long v5), .second, .val (.int v11), .val (.ref aB), .val (.int v27), .val (.long (backF v11)), .second, .val (.int (spOk (spendF v5 (backF v11) (1 : Int32) (0 : Int32) ((backF v11) + (1 : Int64)))))] [])
          refine WGo.st (fun _ q => XS.aload S126.here hx rfl (hb hby at_158) rfl rfl q) ?_
          show WGo _ _ _ _ _ _ _ _ T125 (mkF m 160 #[.val (.int p1), .val (.long p2), .second, .val (.int p3), .val (.long v5), .second, .val (.int v11), .val (.ref aB), .val (.int v27), .val (.long (backF v11)), .second, .val (.int (spOk (spendF v5 (backF v11) (1 : Int32) (0 : Int32) ((backF v11) + (1 : Int64)))))] [(.ref aB)])
          refine w_virtual S126 (y := (⟨"com/example/assay_shapes/assayshapes/RegexBudget", "isSpent", "()Z"⟩ : MethodName)) hown (hw _ (List.mem_of_getElem? (i := 39) rfl)) (hw _ (List.mem_of_getElem? (i := 40) rfl)) (hw _ (List.mem_of_getElem? (i := 42) rfl)) (hw _ (List.mem_of_getElem? (i := 41) rfl)) (hw _ (List.mem_of_getElem? (i := 4) rfl)) (hw _ (List.mem_of_getElem? (i := 43) rfl)) (by decide) q129f0 (rm_S l Z a0 hw n0 h127 aB (spendF v5 (backF v11) (1 : Int32) (0 : Int32) ((backF v11) + (1 : Int64))).1 (spendF v5 (backF v11) (1 : Int32) (0 : Int32) ((backF v11) + (1 : Int64))).2.1 (1 : Int32) (spendF v5 (backF v11) (1 : Int32) (0 : Int32) ((backF v11) + (1 : Int64))).2.2 S126.ge q129f0 q129f1 q129f2 q129f3 q129f4 (spend_bool v5 (backF v11) (1 : Int32) (0 : Int32) ((backF v11) + (1 : Int64)) (by decide))) (W := 0) (by decide) (by decide) (by decide) (by decide) rfl (by rw [hml]; rfl) (argsL := []) (rest := []) (ps := []) (rt := (some .boolean)) (by decide) rfl rfl rfl (by show 2 * 0 + _ ≤ _; exact Nat.le_of_eq rfl) (hb hby at_160) ?_
          intro T130 h132 w133 S131 q134
          obtain ⟨q134a, q134b⟩ := q134
          subst q134a
          replace q134b := Eq.symm q134b
          subst q134b
          show WGo _ _ _ _ _ _ _ _ T130 (mkF m 163 #[.val (.int p1), .val (.long p2), .second, .val (.int p3), .val (.long v5), .second, .val (.int v11), .val (.ref aB), .val (.int v27), .val (.long (backF v11)), .second, .val (.int (spOk (spendF v5 (backF v11) (1 : Int32) (0 : Int32) ((backF v11) + (1 : Int64)))))] [(.int (spendF v5 (backF v11) (1 : Int32) (0 : Int32) ((backF v11) + (1 : Int64))).2.2)])
          refine WGo.st (fun _ q => XS.ifNo S131.here hx rfl (hb hby at_163) rfl ((if0 _ _).trans (feq (by rw [hsp]; decide)).1) q) ?_
          show WGo _ _ _ _ _ _ _ _ T130 (mkF m 166 #[.val (.int p1), .val (.long p2), .second, .val (.int p3), .val (.long v5), .second, .val (.int v11), .val (.ref aB), .val (.int v27), .val (.long (backF v11)), .second, .val (.int (spOk (spendF v5 (backF v11) (1 : Int32) (0 : Int32) ((backF v11) + (1 : Int64)))))] [])
          refine WGo.st (fun _ q => XS.aload S131.here hx rfl (hb hby at_166) rfl rfl q) ?_
          show WGo _ _ _ _ _ _ _ _ T130 (mkF m 168 #[.val (.int p1), .val (.long p2), .second, .val (.int p3), .val (.long v5), .second, .val (.int v11), .val (.ref aB), .val (.int v27), .val (.long (backF v11)), .second, .val (.int (spOk (spendF v5 (backF v11) (1 : Int32) (0 : Int32) ((backF v11) + (1 : Int64)))))] [(.ref aB)])
          refine w_virtual S131 (y := (⟨"com/example/assay_shapes/assayshapes/RegexBudget", "left", "()J"⟩ : MethodName)) hown (hw _ (List.mem_of_getElem? (i := 44) rfl)) (hw _ (List.mem_of_getElem? (i := 45) rfl)) (hw _ (List.mem_of_getElem? (i := 47) rfl)) (hw _ (List.mem_of_getElem? (i := 46) rfl)) (hw _ (List.mem_of_getElem? (i := 4) rfl)) (hw _ (List.mem_of_getElem? (i := 48) rfl)) (by decide) q129f0 (rm_L l Z a0 hw n0 h127 aB (spendF v5 (backF v11) (1 : Int32) (0 : Int32) ((backF v11) + (1 : Int64))).1 (spendF v5 (backF v11) (1 : Int32) (0 : Int32) ((backF v11) + (1 : Int64))).2.1 (1 : Int32) (spendF v5 (backF v11) (1 : Int32) (0 : Int32) ((backF v11) + (1 : Int64))).2.2 S131.ge q129f0 q129f1 q129f2 q129f3 q129f4) (W := 0) (by decide) (by decide) (by decide) (by decide) rfl (by rw [hml]; rfl) (argsL := []) (rest := []) (ps := []) (rt := (some .long)) (by decide) rfl rfl rfl (by show 2 * 0 + _ ≤ _; exact Nat.le_of_eq rfl) (hb hby at_168) ?_
          intro T135 h137 w138 S136 q139
          obtain ⟨q139a, q139b⟩ := q139
          subst q139a
          replace q139b := Eq.symm q139b
          subst q139b
          show WGo _ _ _ _ _ _ _ _ T135 (mkF m 171 #[.val (.int p1), .val (.long p2), .second, .val (.int p3), .val (.long v5), .second, .val (.int v11), .val (.ref aB), .val (.int v27), .val (.long (backF v11)), .second, .val (.int (spOk (spendF v5 (backF v11) (1 : Int32) (0 : Int32) ((backF v11) + (1 : Int64)))))] [(.long (leftF (spendF v5 (backF v11) (1 : Int32) (0 : Int32) ((backF v11) + (1 : Int64))).1 (spendF v5 (backF v11) (1 : Int32) (0 : Int32) ((backF v11) + (1 : Int64))).2.1 (1 : Int32)))])
          refine WGo.st (fun _ q => XS.lconst S136.here hx rfl (hb hby at_171) q) ?_
          show WGo _ _ _ _ _ _ _ _ T135 (mkF m 172 #[.val (.int p1), .val (.long p2), .second, .val (.int p3), .val (.long v5), .second, .val (.int v11), .val (.ref aB), .val (.int v27), .val (.long (backF v11)), .second, .val (.int (spOk (spendF v5 (backF v11) (1 : Int32) (0 : Int32) ((backF v11) + (1 : Int64)))))] [(.long (0 : Int64)), (.long (leftF (spendF v5 (backF v11) (1 : Int32) (0 : Int32) ((backF v11) + (1 : Int64))).1 (spendF v5 (backF v11) (1 : Int32) (0 : Int32) ((backF v11) + (1 : Int64))).2.1 (1 : Int32)))])
          refine WGo.st (fun _ q => XS.lcmp S136.here hx rfl (hb hby at_172) rfl q) ?_
          show WGo _ _ _ _ _ _ _ _ T135 (mkF m 173 #[.val (.int p1), .val (.long p2), .second, .val (.int p3), .val (.long v5), .second, .val (.int v11), .val (.ref aB), .val (.int v27), .val (.long (backF v11)), .second, .val (.int (spOk (spendF v5 (backF v11) (1 : Int32) (0 : Int32) ((backF v11) + (1 : Int64)))))] [(.int (lcmpW (leftF (spendF v5 (backF v11) (1 : Int32) (0 : Int32) ((backF v11) + (1 : Int64))).1 (spendF v5 (backF v11) (1 : Int32) (0 : Int32) ((backF v11) + (1 : Int64))).2.1 (1 : Int32)) (0 : Int64)))])
          refine WGo.st (fun _ q => XS.ifNo S136.here hx rfl (hb hby at_173) rfl (teqJ (by rw [hsp]; first | rfl | (rw [c150]; rfl))).2 q) ?_
          show WGo _ _ _ _ _ _ _ _ T135 (mkF m 176 #[.val (.int p1), .val (.long p2), .second, .val (.int p3), .val (.long v5), .second, .val (.int v11), .val (.ref aB), .val (.int v27), .val (.long (backF v11)), .second, .val (.int (spOk (spendF v5 (backF v11) (1 : Int32) (0 : Int32) ((backF v11) + (1 : Int64)))))] [])
          refine WGo.st (fun _ q => XS.iconst S136.here hx rfl (hb hby at_176) q) ?_
          show WGo _ _ _ _ _ _ _ _ T135 (mkF m 177 #[.val (.int p1), .val (.long p2), .second, .val (.int p3), .val (.long v5), .second, .val (.int v11), .val (.ref aB), .val (.int v27), .val (.long (backF v11)), .second, .val (.int (spOk (spendF v5 (backF v11) (1 : Int32) (0 : Int32) ((backF v11) + (1 : Int64)))))] [(.int (1 : Int32))])
          refine WGo.st (fun _ q => XS.goto S136.here hx rfl (pc0 := 177) (pc' := 181) rfl (hb hby at_177) (by decide) (by decide) q) ?_
          show WGo _ _ _ _ _ _ _ _ T135 (mkF m 181 #[.val (.int p1), .val (.long p2), .second, .val (.int p3), .val (.long v5), .second, .val (.int v11), .val (.ref aB), .val (.int v27), .val (.long (backF v11)), .second, .val (.int (spOk (spendF v5 (backF v11) (1 : Int32) (0 : Int32) ((backF v11) + (1 : Int64)))))] [(.int (1 : Int32))])
          refine w_retZ S136 hret (hb hby at_181) (by decide) (by decide) (by decide) ?_
          exact rfl
        · refine WGo.st (fun _ q => XS.ifYes S126.here hx rfl (pc0 := 150) (pc' := 182) rfl (hb hby at_150) rfl (feqJ c150).2 (by decide) (by decide) q) ?_
          show WGo _ _ _ _ _ _ _ _ T125 (mkF m 182 #[.val (.int p1), .val (.long p2), .second, .val (.int p3), .val (.long v5), .second, .val (.int v11), .val (.ref aB), .val (.int v27), .val (.long (backF v11)), .second, .val (.int (spOk (spendF v5 (backF v11) (1 : Int32) (0 : Int32) ((backF v11) + (1 : Int64)))))] [])
          have hsp := sp_more v5 (backF v11) (back_rng v11 hln).1 (back_rng v11 hln).2 hrs c150
          refine WGo.st (fun _ q => XS.iload S126.here hx rfl (hb hby at_182) rfl q) ?_
          show WGo _ _ _ _ _ _ _ _ T125 (mkF m 184 #[.val (.int p1), .val (.long p2), .second, .val (.int p3), .val (.long v5), .second, .val (.int v11), .val (.ref aB), .val (.int v27), .val (.long (backF v11)), .second, .val (.int (spOk (spendF v5 (backF v11) (1 : Int32) (0 : Int32) ((backF v11) + (1 : Int64)))))] [(.int (spOk (spendF v5 (backF v11) (1 : Int32) (0 : Int32) ((backF v11) + (1 : Int64)))))])
          refine WGo.st (fun _ q => XS.ifNo S126.here hx rfl (hb hby at_184) rfl ((if0 _ _).trans (feq (by rw [hsp]; show ¬ (1 : Int32) = 0; decide)).1) q) ?_
          show WGo _ _ _ _ _ _ _ _ T125 (mkF m 187 #[.val (.int p1), .val (.long p2), .second, .val (.int p3), .val (.long v5), .second, .val (.int v11), .val (.ref aB), .val (.int v27), .val (.long (backF v11)), .second, .val (.int (spOk (spendF v5 (backF v11) (1 : Int32) (0 : Int32) ((backF v11) + (1 : Int64)))))] [])
          refine WGo.st (fun _ q => XS.aload S126.here hx rfl (hb hby at_187) rfl rfl q) ?_
          show WGo _ _ _ _ _ _ _ _ T125 (mkF m 189 #[.val (.int p1), .val (.long p2), .second, .val (.int p3), .val (.long v5), .second, .val (.int v11), .val (.ref aB), .val (.int v27), .val (.long (backF v11)), .second, .val (.int (spOk (spendF v5 (backF v11) (1 : Int32) (0 : Int32) ((backF v11) + (1 : Int64)))))] [(.ref aB)])
          refine w_virtual S126 (y := (⟨"com/example/assay_shapes/assayshapes/RegexBudget", "isSpent", "()Z"⟩ : MethodName)) hown (hw _ (List.mem_of_getElem? (i := 39) rfl)) (hw _ (List.mem_of_getElem? (i := 40) rfl)) (hw _ (List.mem_of_getElem? (i := 42) rfl)) (hw _ (List.mem_of_getElem? (i := 41) rfl)) (hw _ (List.mem_of_getElem? (i := 4) rfl)) (hw _ (List.mem_of_getElem? (i := 43) rfl)) (by decide) q129f0 (rm_S l Z a0 hw n0 h127 aB (spendF v5 (backF v11) (1 : Int32) (0 : Int32) ((backF v11) + (1 : Int64))).1 (spendF v5 (backF v11) (1 : Int32) (0 : Int32) ((backF v11) + (1 : Int64))).2.1 (1 : Int32) (spendF v5 (backF v11) (1 : Int32) (0 : Int32) ((backF v11) + (1 : Int64))).2.2 S126.ge q129f0 q129f1 q129f2 q129f3 q129f4 (spend_bool v5 (backF v11) (1 : Int32) (0 : Int32) ((backF v11) + (1 : Int64)) (by decide))) (W := 0) (by decide) (by decide) (by decide) (by decide) rfl (by rw [hml]; rfl) (argsL := []) (rest := []) (ps := []) (rt := (some .boolean)) (by decide) rfl rfl rfl (by show 2 * 0 + _ ≤ _; exact Nat.le_of_eq rfl) (hb hby at_189) ?_
          intro T140 h142 w143 S141 q144
          obtain ⟨q144a, q144b⟩ := q144
          subst q144a
          replace q144b := Eq.symm q144b
          subst q144b
          show WGo _ _ _ _ _ _ _ _ T140 (mkF m 192 #[.val (.int p1), .val (.long p2), .second, .val (.int p3), .val (.long v5), .second, .val (.int v11), .val (.ref aB), .val (.int v27), .val (.long (backF v11)), .second, .val (.int (spOk (spendF v5 (backF v11) (1 : Int32) (0 : Int32) ((backF v11) + (1 : Int64)))))] [(.int (spendF v5 (backF v11) (1 : Int32) (0 : Int32) ((backF v11) + (1 : Int64))).2.2)])
          refine WGo.st (fun _ q => XS.ifNo S141.here hx rfl (hb hby at_192) rfl ((if0 _ _).trans (teq (by rw [hsp])).2) q) ?_
          show WGo _ _ _ _ _ _ _ _ T140 (mkF m 195 #[.val (.int p1), .val (.long p2), .second, .val (.int p3), .val (.long v5), .second, .val (.int v11), .val (.ref aB), .val (.int v27), .val (.long (backF v11)), .second, .val (.int (spOk (spendF v5 (backF v11) (1 : Int32) (0 : Int32) ((backF v11) + (1 : Int64)))))] [])
          refine WGo.st (fun _ q => XS.aload S141.here hx rfl (hb hby at_195) rfl rfl q) ?_
          show WGo _ _ _ _ _ _ _ _ T140 (mkF m 197 #[.val (.int p1), .val (.long p2), .second, .val (.int p3), .val (.long v5), .second, .val (.int v11), .val (.ref aB), .val (.int v27), .val (.long (backF v11)), .second, .val (.int (spOk (spendF v5 (backF v11) (1 : Int32) (0 : Int32) ((backF v11) + (1 : Int64)))))] [(.ref aB)])
          refine w_virtual S141 (y := (⟨"com/example/assay_shapes/assayshapes/RegexBudget", "left", "()J"⟩ : MethodName)) hown (hw _ (List.mem_of_getElem? (i := 44) rfl)) (hw _ (List.mem_of_getElem? (i := 45) rfl)) (hw _ (List.mem_of_getElem? (i := 47) rfl)) (hw _ (List.mem_of_getElem? (i := 46) rfl)) (hw _ (List.mem_of_getElem? (i := 4) rfl)) (hw _ (List.mem_of_getElem? (i := 48) rfl)) (by decide) q129f0 (rm_L l Z a0 hw n0 h127 aB (spendF v5 (backF v11) (1 : Int32) (0 : Int32) ((backF v11) + (1 : Int64))).1 (spendF v5 (backF v11) (1 : Int32) (0 : Int32) ((backF v11) + (1 : Int64))).2.1 (1 : Int32) (spendF v5 (backF v11) (1 : Int32) (0 : Int32) ((backF v11) + (1 : Int64))).2.2 S141.ge q129f0 q129f1 q129f2 q129f3 q129f4) (W := 0) (by decide) (by decide) (by decide) (by decide) rfl (by rw [hml]; rfl) (argsL := []) (rest := []) (ps := []) (rt := (some .long)) (by decide) rfl rfl rfl (by show 2 * 0 + _ ≤ _; exact Nat.le_of_eq rfl) (hb hby at_197) ?_
          intro T145 h147 w148 S146 q149
          obtain ⟨q149a, q149b⟩ := q149
          subst q149a
          replace q149b := Eq.symm q149b
          subst q149b
          show WGo _ _ _ _ _ _ _ _ T145 (mkF m 200 #[.val (.int p1), .val (.long p2), .second, .val (.int p3), .val (.long v5), .second, .val (.int v11), .val (.ref aB), .val (.int v27), .val (.long (backF v11)), .second, .val (.int (spOk (spendF v5 (backF v11) (1 : Int32) (0 : Int32) ((backF v11) + (1 : Int64)))))] [(.long (leftF (spendF v5 (backF v11) (1 : Int32) (0 : Int32) ((backF v11) + (1 : Int64))).1 (spendF v5 (backF v11) (1 : Int32) (0 : Int32) ((backF v11) + (1 : Int64))).2.1 (1 : Int32)))])
          refine WGo.st (fun _ q => XS.lload S146.here hx rfl (hb hby at_200) rfl q) ?_
          show WGo _ _ _ _ _ _ _ _ T145 (mkF m 202 #[.val (.int p1), .val (.long p2), .second, .val (.int p3), .val (.long v5), .second, .val (.int v11), .val (.ref aB), .val (.int v27), .val (.long (backF v11)), .second, .val (.int (spOk (spendF v5 (backF v11) (1 : Int32) (0 : Int32) ((backF v11) + (1 : Int64)))))] [(.long v5), (.long (leftF (spendF v5 (backF v11) (1 : Int32) (0 : Int32) ((backF v11) + (1 : Int64))).1 (spendF v5 (backF v11) (1 : Int32) (0 : Int32) ((backF v11) + (1 : Int64))).2.1 (1 : Int32)))])
          refine WGo.st (fun _ q => XS.lconst S146.here hx rfl (hb hby at_202) q) ?_
          show WGo _ _ _ _ _ _ _ _ T145 (mkF m 203 #[.val (.int p1), .val (.long p2), .second, .val (.int p3), .val (.long v5), .second, .val (.int v11), .val (.ref aB), .val (.int v27), .val (.long (backF v11)), .second, .val (.int (spOk (spendF v5 (backF v11) (1 : Int32) (0 : Int32) ((backF v11) + (1 : Int64)))))] [(.long (1 : Int64)), (.long v5), (.long (leftF (spendF v5 (backF v11) (1 : Int32) (0 : Int32) ((backF v11) + (1 : Int64))).1 (spendF v5 (backF v11) (1 : Int32) (0 : Int32) ((backF v11) + (1 : Int64))).2.1 (1 : Int32)))])
          refine WGo.st (fun _ q => XS.lsub S146.here hx rfl (hb hby at_203) rfl q) ?_
          show WGo _ _ _ _ _ _ _ _ T145 (mkF m 204 #[.val (.int p1), .val (.long p2), .second, .val (.int p3), .val (.long v5), .second, .val (.int v11), .val (.ref aB), .val (.int v27), .val (.long (backF v11)), .second, .val (.int (spOk (spendF v5 (backF v11) (1 : Int32) (0 : Int32) ((backF v11) + (1 : Int64)))))] [(.long (v5 - (1 : Int64))), (.long (leftF (spendF v5 (backF v11) (1 : Int32) (0 : Int32) ((backF v11) + (1 : Int64))).1 (spendF v5 (backF v11) (1 : Int32) (0 : Int32) ((backF v11) + (1 : Int64))).2.1 (1 : Int32)))])
          refine WGo.st (fun _ q => XS.lcmp S146.here hx rfl (hb hby at_204) rfl q) ?_
          show WGo _ _ _ _ _ _ _ _ T145 (mkF m 205 #[.val (.int p1), .val (.long p2), .second, .val (.int p3), .val (.long v5), .second, .val (.int v11), .val (.ref aB), .val (.int v27), .val (.long (backF v11)), .second, .val (.int (spOk (spendF v5 (backF v11) (1 : Int32) (0 : Int32) ((backF v11) + (1 : Int64)))))] [(.int (lcmpW (leftF (spendF v5 (backF v11) (1 : Int32) (0 : Int32) ((backF v11) + (1 : Int64))).1 (spendF v5 (backF v11) (1 : Int32) (0 : Int32) ((backF v11) + (1 : Int64))).2.1 (1 : Int32)) (v5 - (1 : Int64))))])
          refine WGo.st (fun _ q => XS.ifNo S146.here hx rfl (hb hby at_205) rfl (teqJ (by rw [hsp]; exact lm1 v5)).2 q) ?_
          show WGo _ _ _ _ _ _ _ _ T145 (mkF m 208 #[.val (.int p1), .val (.long p2), .second, .val (.int p3), .val (.long v5), .second, .val (.int v11), .val (.ref aB), .val (.int v27), .val (.long (backF v11)), .second, .val (.int (spOk (spendF v5 (backF v11) (1 : Int32) (0 : Int32) ((backF v11) + (1 : Int64)))))] [])
          refine WGo.st (fun _ q => XS.iconst S146.here hx rfl (hb hby at_208) q) ?_
          show WGo _ _ _ _ _ _ _ _ T145 (mkF m 209 #[.val (.int p1), .val (.long p2), .second, .val (.int p3), .val (.long v5), .second, .val (.int v11), .val (.ref aB), .val (.int v27), .val (.long (backF v11)), .second, .val (.int (spOk (spendF v5 (backF v11) (1 : Int32) (0 : Int32) ((backF v11) + (1 : Int64)))))] [(.int (1 : Int32))])
          refine WGo.st (fun _ q => XS.goto S146.here hx rfl (pc0 := 209) (pc' := 213) rfl (hb hby at_209) (by decide) (by decide) q) ?_
          show WGo _ _ _ _ _ _ _ _ T145 (mkF m 213 #[.val (.int p1), .val (.long p2), .second, .val (.int p3), .val (.long v5), .second, .val (.int v11), .val (.ref aB), .val (.int v27), .val (.long (backF v11)), .second, .val (.int (spOk (spendF v5 (backF v11) (1 : Int32) (0 : Int32) ((backF v11) + (1 : Int64)))))] [(.int (1 : Int32))])
          refine w_retZ S146 hret (hb hby at_213) (by decide) (by decide) (by decide) ?_
          exact rfl
      · refine WGo.st (fun _ q => XS.icmpYes S6.here hx rfl (pc0 := 71) (pc' := 91) rfl (hb hby at_71) rfl (feq c71).2 (by decide) (by decide) q) ?_
        show WGo _ _ _ _ _ _ _ _ T5 (mkF m 91 #[.val (.int p1), .val (.long p2), .second, .val (.int p3), .val (.long v5), .second, .val (.int v11), .val (.ref aB), .val (.int v27), .unset, .unset, .unset] [])
        refine w_ldc2 S6 hown (hw _ (List.mem_of_getElem? (i := 28) rfl)) rfl (hb hby at_91) ?_
        show WGo _ _ _ _ _ _ _ _ T5 (mkF m 94 #[.val (.int p1), .val (.long p2), .second, .val (.int p3), .val (.long v5), .second, .val (.int v11), .val (.ref aB), .val (.int v27), .unset, .unset, .unset] [(.long (33 : Int64))])
        refine WGo.st (fun _ q => XS.iload S6.here hx rfl (hb hby at_94) rfl q) ?_
        show WGo _ _ _ _ _ _ _ _ T5 (mkF m 96 #[.val (.int p1), .val (.long p2), .second, .val (.int p3), .val (.long v5), .second, .val (.int v11), .val (.ref aB), .val (.int v27), .unset, .unset, .unset] [(.int v11), (.long (33 : Int64))])
        refine WGo.st (fun _ q => XS.i2l S6.here hx rfl (hb hby at_96) rfl q) ?_
        show WGo _ _ _ _ _ _ _ _ T5 (mkF m 97 #[.val (.int p1), .val (.long p2), .second, .val (.int p3), .val (.long v5), .second, .val (.int v11), .val (.ref aB), .val (.int v27), .unset, .unset, .unset] [(.long (v11.toInt64)), (.long (33 : Int64))])
        refine WGo.st (fun _ q => XS.lconst S6.here hx rfl (hb hby at_97) q) ?_
        show WGo _ _ _ _ _ _ _ _ T5 (mkF m 98 #[.val (.int p1), .val (.long p2), .second, .val (.int p3), .val (.long v5), .second, .val (.int v11), .val (.ref aB), .val (.int v27), .unset, .unset, .unset] [(.long (1 : Int64)), (.long (v11.toInt64)), (.long (33 : Int64))])
        refine WGo.st (fun _ q => XS.ladd S6.here hx rfl (hb hby at_98) rfl q) ?_
        show WGo _ _ _ _ _ _ _ _ T5 (mkF m 99 #[.val (.int p1), .val (.long p2), .second, .val (.int p3), .val (.long v5), .second, .val (.int v11), .val (.ref aB), .val (.int v27), .unset, .unset, .unset] [(.long ((v11.toInt64) + (1 : Int64))), (.long (33 : Int64))])
        refine WGo.st (fun _ q => XS.lmul S6.here hx rfl (hb hby at_99) rfl q) ?_
        show WGo _ _ _ _ _ _ _ _ T5 (mkF m 100 #[.val (.int p1), .val (.long p2), .second, .val (.int p3), .val (.long v5), .second, .val (.int v11), .val (.ref aB), .val (.int v27), .unset, .unset, .unset] [(.long ((33 : Int64) * ((v11.toInt64) + (1 : Int64))))])
        refine WGo.st (fun _ q => XS.lstore S6.here hx rfl (hb hby at_100) rfl (l' := #[.val (.int p1), .val (.long p2), .second, .val (.int p3), .val (.long v5), .second, .val (.int v11), .val (.ref aB), .val (.int v27), .val (.long ((33 : Int64) * ((v11.toInt64) + (1 : Int64)))), .second, .unset]) rfl q) ?_
        show WGo _ _ _ _ _ _ _ _ T5 (mkF m 102 #[.val (.int p1), .val (.long p2), .second, .val (.int p3), .val (.long v5), .second, .val (.int v11), .val (.ref aB), .val (.int v27), .val (.long ((33 : Int64) * ((v11.toInt64) + (1 : Int64)))), .second, .unset] [])
        show WGo _ _ _ _ _ _ _ _ T5 (mkF m 102 #[.val (.int p1), .val (.long p2), .second, .val (.int p3), .val (.long v5), .second, .val (.int v11), .val (.ref aB), .val (.int v27), .val (.long (backF v11)), .second, .unset] [])
        refine WGo.st (fun _ q => XS.aload S6.here hx rfl (hb hby at_102) rfl rfl q) ?_
        show WGo _ _ _ _ _ _ _ _ T5 (mkF m 104 #[.val (.int p1), .val (.long p2), .second, .val (.int p3), .val (.long v5), .second, .val (.int v11), .val (.ref aB), .val (.int v27), .val (.long (backF v11)), .second, .unset] [(.ref aB)])
        refine WGo.st (fun _ q => XS.iload S6.here hx rfl (hb hby at_104) rfl q) ?_
        show WGo _ _ _ _ _ _ _ _ T5 (mkF m 106 #[.val (.int p1), .val (.long p2), .second, .val (.int p3), .val (.long v5), .second, .val (.int v11), .val (.ref aB), .val (.int v27), .val (.long (backF v11)), .second, .unset] [(.int v11), (.ref aB)])
        refine w_virtual S6 (y := (⟨"com/example/assay_shapes/assayshapes/RegexBudget", "beginBacktracking", "(I)V"⟩ : MethodName)) hown (hw _ (List.mem_of_getElem? (i := 29) rfl)) (hw _ (List.mem_of_getElem? (i := 30) rfl)) (hw _ (List.mem_of_getElem? (i := 32) rfl)) (hw _ (List.mem_of_getElem? (i := 31) rfl)) (hw _ (List.mem_of_getElem? (i := 4) rfl)) (hw _ (List.mem_of_getElem? (i := 33) rfl)) (by decide) q9f0 (rm_T l Z a0 hw n0 h7 aB v5 (0 : Int64) (0 : Int32) (0 : Int32) v11 S6.ge g_aB q9f0 q9f1 q9f2 q9f3 q9f4) (W := 0) (by decide) (by decide) (by decide) (by decide) rfl (by rw [hml]; rfl) (argsL := [(.int v11)]) (rest := []) (ps := [.int]) (rt := none) (by decide) rfl rfl rfl (by show 2 * 0 + _ ≤ _; exact Nat.le_of_eq rfl) (hb hby at_106) ?_
        intro T150 h152 w153 S151 q154
        obtain ⟨q154a, q154K, q154f0, q154f1, q154f2, q154f3, q154f4⟩ := q154
        subst q154a
        show WGo _ _ _ _ _ _ _ _ T150 (mkF m 109 #[.val (.int p1), .val (.long p2), .second, .val (.int p3), .val (.long v5), .second, .val (.int v11), .val (.ref aB), .val (.int v27), .val (.long (backF v11)), .second, .unset] [])
        refine WGo.st (fun _ q => XS.aload S151.here hx rfl (hb hby at_109) rfl rfl q) ?_
        show WGo _ _ _ _ _ _ _ _ T150 (mkF m 111 #[.val (.int p1), .val (.long p2), .second, .val (.int p3), .val (.long v5), .second, .val (.int v11), .val (.ref aB), .val (.int v27), .val (.long (backF v11)), .second, .unset] [(.ref aB)])
        refine w_virtual S151 (y := (⟨"com/example/assay_shapes/assayshapes/RegexBudget", "isSpent", "()Z"⟩ : MethodName)) hown (hw _ (List.mem_of_getElem? (i := 39) rfl)) (hw _ (List.mem_of_getElem? (i := 40) rfl)) (hw _ (List.mem_of_getElem? (i := 42) rfl)) (hw _ (List.mem_of_getElem? (i := 41) rfl)) (hw _ (List.mem_of_getElem? (i := 4) rfl)) (hw _ (List.mem_of_getElem? (i := 43) rfl)) (by decide) q154f0 (rm_S l Z a0 hw n0 h152 aB v5 (backF v11) (1 : Int32) (0 : Int32) S151.ge q154f0 q154f1 q154f2 q154f3 q154f4 (by decide)) (W := 0) (by decide) (by decide) (by decide) (by decide) rfl (by rw [hml]; rfl) (argsL := []) (rest := []) (ps := []) (rt := (some .boolean)) (by decide) rfl rfl rfl (by show 2 * 0 + _ ≤ _; exact Nat.le_of_eq rfl) (hb hby at_111) ?_
        intro T155 h157 w158 S156 q159
        obtain ⟨q159a, q159b⟩ := q159
        subst q159a
        replace q159b := Eq.symm q159b
        subst q159b
        show WGo _ _ _ _ _ _ _ _ T155 (mkF m 114 #[.val (.int p1), .val (.long p2), .second, .val (.int p3), .val (.long v5), .second, .val (.int v11), .val (.ref aB), .val (.int v27), .val (.long (backF v11)), .second, .unset] [(.int (0 : Int32))])
        refine WGo.st (fun _ q => XS.ifYes S156.here hx rfl (pc0 := 114) (pc' := 119) rfl (hb hby at_114) rfl ((if0 _ _).trans (teq (by decide : ((0 : Int32) = (0 : Int32)))).1) (by decide) (by decide) q) ?_
        show WGo _ _ _ _ _ _ _ _ T155 (mkF m 119 #[.val (.int p1), .val (.long p2), .second, .val (.int p3), .val (.long v5), .second, .val (.int v11), .val (.ref aB), .val (.int v27), .val (.long (backF v11)), .second, .unset] [])
        refine WGo.st (fun _ q => XS.aload S156.here hx rfl (hb hby at_119) rfl rfl q) ?_
        show WGo _ _ _ _ _ _ _ _ T155 (mkF m 121 #[.val (.int p1), .val (.long p2), .second, .val (.int p3), .val (.long v5), .second, .val (.int v11), .val (.ref aB), .val (.int v27), .val (.long (backF v11)), .second, .unset] [(.ref aB)])
        refine w_virtual S156 (y := (⟨"com/example/assay_shapes/assayshapes/RegexBudget", "left", "()J"⟩ : MethodName)) hown (hw _ (List.mem_of_getElem? (i := 44) rfl)) (hw _ (List.mem_of_getElem? (i := 45) rfl)) (hw _ (List.mem_of_getElem? (i := 47) rfl)) (hw _ (List.mem_of_getElem? (i := 46) rfl)) (hw _ (List.mem_of_getElem? (i := 4) rfl)) (hw _ (List.mem_of_getElem? (i := 48) rfl)) (by decide) q154f0 (rm_L l Z a0 hw n0 h152 aB v5 (backF v11) (1 : Int32) (0 : Int32) S156.ge q154f0 q154f1 q154f2 q154f3 q154f4) (W := 0) (by decide) (by decide) (by decide) (by decide) rfl (by rw [hml]; rfl) (argsL := []) (rest := []) (ps := []) (rt := (some .long)) (by decide) rfl rfl rfl (by show 2 * 0 + _ ≤ _; exact Nat.le_of_eq rfl) (hb hby at_121) ?_
        intro T160 h162 w163 S161 q164
        obtain ⟨q164a, q164b⟩ := q164
        subst q164a
        replace q164b := Eq.symm q164b
        subst q164b
        show WGo _ _ _ _ _ _ _ _ T160 (mkF m 124 #[.val (.int p1), .val (.long p2), .second, .val (.int p3), .val (.long v5), .second, .val (.int v11), .val (.ref aB), .val (.int v27), .val (.long (backF v11)), .second, .unset] [(.long (leftF v5 (backF v11) (1 : Int32)))])
        refine WGo.st (fun _ q => XS.lload S161.here hx rfl (hb hby at_124) rfl q) ?_
        show WGo _ _ _ _ _ _ _ _ T160 (mkF m 126 #[.val (.int p1), .val (.long p2), .second, .val (.int p3), .val (.long v5), .second, .val (.int v11), .val (.ref aB), .val (.int v27), .val (.long (backF v11)), .second, .unset] [(.long (backF v11)), (.long (leftF v5 (backF v11) (1 : Int32)))])
        refine WGo.st (fun _ q => XS.lload S161.here hx rfl (hb hby at_126) rfl q) ?_
        show WGo _ _ _ _ _ _ _ _ T160 (mkF m 128 #[.val (.int p1), .val (.long p2), .second, .val (.int p3), .val (.long v5), .second, .val (.int v11), .val (.ref aB), .val (.int v27), .val (.long (backF v11)), .second, .unset] [(.long v5), (.long (backF v11)), (.long (leftF v5 (backF v11) (1 : Int32)))])
        refine WGo.st (fun _ q => XS.ladd S161.here hx rfl (hb hby at_128) rfl q) ?_
        show WGo _ _ _ _ _ _ _ _ T160 (mkF m 129 #[.val (.int p1), .val (.long p2), .second, .val (.int p3), .val (.long v5), .second, .val (.int v11), .val (.ref aB), .val (.int v27), .val (.long (backF v11)), .second, .unset] [(.long ((backF v11) + v5)), (.long (leftF v5 (backF v11) (1 : Int32)))])
        refine WGo.st (fun _ q => XS.lcmp S161.here hx rfl (hb hby at_129) rfl q) ?_
        show WGo _ _ _ _ _ _ _ _ T160 (mkF m 130 #[.val (.int p1), .val (.long p2), .second, .val (.int p3), .val (.long v5), .second, .val (.int v11), .val (.ref aB), .val (.int v27), .val (.long (backF v11)), .second, .unset] [(.int (lcmpW (leftF v5 (backF v11) (1 : Int32)) ((backF v11) + v5)))])
        refine WGo.st (fun _ q => XS.ifYes S161.here hx rfl (pc0 := 130) (pc' := 135) rfl (hb hby at_130) rfl (teqJ (by unfold leftF; rw [if_neg (by decide)])).1 (by decide) (by decide) q) ?_
        show WGo _ _ _ _ _ _ _ _ T160 (mkF m 135 #[.val (.int p1), .val (.long p2), .second, .val (.int p3), .val (.long v5), .second, .val (.int v11), .val (.ref aB), .val (.int v27), .val (.long (backF v11)), .second, .unset] [])
        refine WGo.st (fun _ q => XS.aload S161.here hx rfl (hb hby at_135) rfl rfl q) ?_
        show WGo _ _ _ _ _ _ _ _ T160 (mkF m 137 #[.val (.int p1), .val (.long p2), .second, .val (.int p3), .val (.long v5), .second, .val (.int v11), .val (.ref aB), .val (.int v27), .val (.long (backF v11)), .second, .unset] [(.ref aB)])
        refine WGo.st (fun _ q => XS.lload S161.here hx rfl (hb hby at_137) rfl q) ?_
        show WGo _ _ _ _ _ _ _ _ T160 (mkF m 139 #[.val (.int p1), .val (.long p2), .second, .val (.int p3), .val (.long v5), .second, .val (.int v11), .val (.ref aB), .val (.int v27), .val (.long (backF v11)), .second, .unset] [(.long (backF v11)), (.ref aB)])
        refine WGo.st (fun _ q => XS.lconst S161.here hx rfl (hb hby at_139) q) ?_
        show WGo _ _ _ _ _ _ _ _ T160 (mkF m 140 #[.val (.int p1), .val (.long p2), .second, .val (.int p3), .val (.long v5), .second, .val (.int v11), .val (.ref aB), .val (.int v27), .val (.long (backF v11)), .second, .unset] [(.long (1 : Int64)), (.long (backF v11)), (.ref aB)])
        refine WGo.st (fun _ q => XS.ladd S161.here hx rfl (hb hby at_140) rfl q) ?_
        show WGo _ _ _ _ _ _ _ _ T160 (mkF m 141 #[.val (.int p1), .val (.long p2), .second, .val (.int p3), .val (.long v5), .second, .val (.int v11), .val (.ref aB), .val (.int v27), .val (.long (backF v11)), .second, .unset] [(.long ((backF v11) + (1 : Int64))), (.ref aB)])
        refine w_virtual S161 (y := (⟨"com/example/assay_shapes/assayshapes/RegexBudget", "spend", "(J)Z"⟩ : MethodName)) hown (hw _ (List.mem_of_getElem? (i := 13) rfl)) (hw _ (List.mem_of_getElem? (i := 14) rfl)) (hw _ (List.mem_of_getElem? (i := 16) rfl)) (hw _ (List.mem_of_getElem? (i := 15) rfl)) (hw _ (List.mem_of_getElem? (i := 4) rfl)) (hw _ (List.mem_of_getElem? (i := 17) rfl)) (by decide) q154f0 (rm_P l Z a0 hw n0 h152 aB v5 (backF v11) (1 : Int32) (0 : Int32) ((backF v11) + (1 : Int64)) S161.ge g_aB q154f0 q154f1 q154f2 q154f3 q154f4 (by decide)) (W := 0) (by decide) (by decide) (by decide) (by decide) rfl (by rw [hml]; rfl) (argsL := [(.long ((backF v11) + (1 : Int64)))]) (rest := []) (ps := [.long]) (rt := (some .boolean)) (by decide) rfl rfl rfl (by show 2 * 0 + _ ≤ _; exact Nat.le_of_eq rfl) (hb hby at_141) ?_
        intro T165 h167 w168 S166 q169
        obtain ⟨q169a, q169K, q169f0, q169f1, q169f2, q169f3, q169f4⟩ := q169
        subst q169a
        show WGo _ _ _ _ _ _ _ _ T165 (mkF m 144 #[.val (.int p1), .val (.long p2), .second, .val (.int p3), .val (.long v5), .second, .val (.int v11), .val (.ref aB), .val (.int v27), .val (.long (backF v11)), .second, .unset] [(.int (spOk (spendF v5 (backF v11) (1 : Int32) (0 : Int32) ((backF v11) + (1 : Int64)))))])
        refine WGo.st (fun _ q => XS.istore S166.here hx rfl (hb hby at_144) rfl (l' := #[.val (.int p1), .val (.long p2), .second, .val (.int p3), .val (.long v5), .second, .val (.int v11), .val (.ref aB), .val (.int v27), .val (.long (backF v11)), .second, .val (.int (spOk (spendF v5 (backF v11) (1 : Int32) (0 : Int32) ((backF v11) + (1 : Int64)))))]) rfl q) ?_
        show WGo _ _ _ _ _ _ _ _ T165 (mkF m 146 #[.val (.int p1), .val (.long p2), .second, .val (.int p3), .val (.long v5), .second, .val (.int v11), .val (.ref aB), .val (.int v27), .val (.long (backF v11)), .second, .val (.int (spOk (spendF v5 (backF v11) (1 : Int32) (0 : Int32) ((backF v11) + (1 : Int64)))))] [])
        refine WGo.st (fun _ q => XS.lload S166.here hx rfl (hb hby at_146) rfl q) ?_
        show WGo _ _ _ _ _ _ _ _ T165 (mkF m 148 #[.val (.int p1), .val (.long p2), .second, .val (.int p3), .val (.long v5), .second, .val (.int v11), .val (.ref aB), .val (.int v27), .val (.long (backF v11)), .second, .val (.int (spOk (spendF v5 (backF v11) (1 : Int32) (0 : Int32) ((backF v11) + (1 : Int64)))))] [(.long v5)])
        refine WGo.st (fun _ q => XS.lconst S166.here hx rfl (hb hby at_148) q) ?_
        show WGo _ _ _ _ _ _ _ _ T165 (mkF m 149 #[.val (.int p1), .val (.long p2), .second, .val (.int p3), .val (.long v5), .second, .val (.int v11), .val (.ref aB), .val (.int v27), .val (.long (backF v11)), .second, .val (.int (spOk (spendF v5 (backF v11) (1 : Int32) (0 : Int32) ((backF v11) + (1 : Int64)))))] [(.long (0 : Int64)), (.long v5)])
        refine WGo.st (fun _ q => XS.lcmp S166.here hx rfl (hb hby at_149) rfl q) ?_
        show WGo _ _ _ _ _ _ _ _ T165 (mkF m 150 #[.val (.int p1), .val (.long p2), .second, .val (.int p3), .val (.long v5), .second, .val (.int v11), .val (.ref aB), .val (.int v27), .val (.long (backF v11)), .second, .val (.int (spOk (spendF v5 (backF v11) (1 : Int32) (0 : Int32) ((backF v11) + (1 : Int64)))))] [(.int (lcmpW v5 (0 : Int64)))])
        by_cases c150 : v5 = (0 : Int64)
        · refine WGo.st (fun _ q => XS.ifNo S166.here hx rfl (hb hby at_150) rfl (teqJ c150).2 q) ?_
          show WGo _ _ _ _ _ _ _ _ T165 (mkF m 153 #[.val (.int p1), .val (.long p2), .second, .val (.int p3), .val (.long v5), .second, .val (.int v11), .val (.ref aB), .val (.int v27), .val (.long (backF v11)), .second, .val (.int (spOk (spendF v5 (backF v11) (1 : Int32) (0 : Int32) ((backF v11) + (1 : Int64)))))] [])
          have hsp : spendF v5 (backF v11) (1 : Int32) (0 : Int32) ((backF v11) + (1 : Int64)) = (0, 0, 1) := by rw [c150]; exact sp_zero (backF v11) (back_rng v11 hln).1 (back_rng v11 hln).2
          refine WGo.st (fun _ q => XS.iload S166.here hx rfl (hb hby at_153) rfl q) ?_
          show WGo _ _ _ _ _ _ _ _ T165 (mkF m 155 #[.val (.int p1), .val (.long p2), .second, .val (.int p3), .val (.long v5), .second, .val (.int v11), .val (.ref aB), .val (.int v27), .val (.long (backF v11)), .second, .val (.int (spOk (spendF v5 (backF v11) (1 : Int32) (0 : Int32) ((backF v11) + (1 : Int64)))))] [(.int (spOk (spendF v5 (backF v11) (1 : Int32) (0 : Int32) ((backF v11) + (1 : Int64)))))])
          refine WGo.st (fun _ q => XS.ifNo S166.here hx rfl (hb hby at_155) rfl ((if0 _ _).trans (teq (by rw [hsp]; first | rfl | (rw [c150]; rfl))).2) q) ?_
          show WGo _ _ _ _ _ _ _ _ T165 (mkF m 158 #[.val (.int p1), .val (.long p2), .second, .val (.int p3), .val (.long v5), .second, .val (.int v11), .val (.ref aB), .val (.int v27), .val (.long (backF v11)), .second, .val (.int (spOk (spendF v5 (backF v11) (1 : Int32) (0 : Int32) ((backF v11) + (1 : Int64)))))] [])
          refine WGo.st (fun _ q => XS.aload S166.here hx rfl (hb hby at_158) rfl rfl q) ?_
          show WGo _ _ _ _ _ _ _ _ T165 (mkF m 160 #[.val (.int p1), .val (.long p2), .second, .val (.int p3), .val (.long v5), .second, .val (.int v11), .val (.ref aB), .val (.int v27), .val (.long (backF v11)), .second, .val (.int (spOk (spendF v5 (backF v11) (1 : Int32) (0 : Int32) ((backF v11) + (1 : Int64)))))] [(.ref aB)])
          refine w_virtual S166 (y := (⟨"com/example/assay_shapes/assayshapes/RegexBudget", "isSpent", "()Z"⟩ : MethodName)) hown (hw _ (List.mem_of_getElem? (i := 39) rfl)) (hw _ (List.mem_of_getElem? (i := 40) rfl)) (hw _ (List.mem_of_getElem? (i := 42) rfl)) (hw _ (List.mem_of_getElem? (i := 41) rfl)) (hw _ (List.mem_of_getElem? (i := 4) rfl)) (hw _ (List.mem_of_getElem? (i := 43) rfl)) (by decide) q169f0 (rm_S l Z a0 hw n0 h167 aB (spendF v5 (backF v11) (1 : Int32) (0 : Int32) ((backF v11) + (1 : Int64))).1 (spendF v5 (backF v11) (1 : Int32) (0 : Int32) ((backF v11) + (1 : Int64))).2.1 (1 : Int32) (spendF v5 (backF v11) (1 : Int32) (0 : Int32) ((backF v11) + (1 : Int64))).2.2 S166.ge q169f0 q169f1 q169f2 q169f3 q169f4 (spend_bool v5 (backF v11) (1 : Int32) (0 : Int32) ((backF v11) + (1 : Int64)) (by decide))) (W := 0) (by decide) (by decide) (by decide) (by decide) rfl (by rw [hml]; rfl) (argsL := []) (rest := []) (ps := []) (rt := (some .boolean)) (by decide) rfl rfl rfl (by show 2 * 0 + _ ≤ _; exact Nat.le_of_eq rfl) (hb hby at_160) ?_
          intro T170 h172 w173 S171 q174
          obtain ⟨q174a, q174b⟩ := q174
          subst q174a
          replace q174b := Eq.symm q174b
          subst q174b
          show WGo _ _ _ _ _ _ _ _ T170 (mkF m 163 #[.val (.int p1), .val (.long p2), .second, .val (.int p3), .val (.long v5), .second, .val (.int v11), .val (.ref aB), .val (.int v27), .val (.long (backF v11)), .second, .val (.int (spOk (spendF v5 (backF v11) (1 : Int32) (0 : Int32) ((backF v11) + (1 : Int64)))))] [(.int (spendF v5 (backF v11) (1 : Int32) (0 : Int32) ((backF v11) + (1 : Int64))).2.2)])
          refine WGo.st (fun _ q => XS.ifNo S171.here hx rfl (hb hby at_163) rfl ((if0 _ _).trans (feq (by rw [hsp]; decide)).1) q) ?_
          show WGo _ _ _ _ _ _ _ _ T170 (mkF m 166 #[.val (.int p1), .val (.long p2), .second, .val (.int p3), .val (.long v5), .second, .val (.int v11), .val (.ref aB), .val (.int v27), .val (.long (backF v11)), .second, .val (.int (spOk (spendF v5 (backF v11) (1 : Int32) (0 : Int32) ((backF v11) + (1 : Int64)))))] [])
          refine WGo.st (fun _ q => XS.aload S171.here hx rfl (hb hby at_166) rfl rfl q) ?_
          show WGo _ _ _ _ _ _ _ _ T170 (mkF m 168 #[.val (.int p1), .val (.long p2), .second, .val (.int p3), .val (.long v5), .second, .val (.int v11), .val (.ref aB), .val (.int v27), .val (.long (backF v11)), .second, .val (.int (spOk (spendF v5 (backF v11) (1 : Int32) (0 : Int32) ((backF v11) + (1 : Int64)))))] [(.ref aB)])
          refine w_virtual S171 (y := (⟨"com/example/assay_shapes/assayshapes/RegexBudget", "left", "()J"⟩ : MethodName)) hown (hw _ (List.mem_of_getElem? (i := 44) rfl)) (hw _ (List.mem_of_getElem? (i := 45) rfl)) (hw _ (List.mem_of_getElem? (i := 47) rfl)) (hw _ (List.mem_of_getElem? (i := 46) rfl)) (hw _ (List.mem_of_getElem? (i := 4) rfl)) (hw _ (List.mem_of_getElem? (i := 48) rfl)) (by decide) q169f0 (rm_L l Z a0 hw n0 h167 aB (spendF v5 (backF v11) (1 : Int32) (0 : Int32) ((backF v11) + (1 : Int64))).1 (spendF v5 (backF v11) (1 : Int32) (0 : Int32) ((backF v11) + (1 : Int64))).2.1 (1 : Int32) (spendF v5 (backF v11) (1 : Int32) (0 : Int32) ((backF v11) + (1 : Int64))).2.2 S171.ge q169f0 q169f1 q169f2 q169f3 q169f4) (W := 0) (by decide) (by decide) (by decide) (by decide) rfl (by rw [hml]; rfl) (argsL := []) (rest := []) (ps := []) (rt := (some .long)) (by decide) rfl rfl rfl (by show 2 * 0 + _ ≤ _; exact Nat.le_of_eq rfl) (hb hby at_168) ?_
          intro T175 h177 w178 S176 q179
          obtain ⟨q179a, q179b⟩ := q179
          subst q179a
          replace q179b := Eq.symm q179b
          subst q179b
          show WGo _ _ _ _ _ _ _ _ T175 (mkF m 171 #[.val (.int p1), .val (.long p2), .second, .val (.int p3), .val (.long v5), .second, .val (.int v11), .val (.ref aB), .val (.int v27), .val (.long (backF v11)), .second, .val (.int (spOk (spendF v5 (backF v11) (1 : Int32) (0 : Int32) ((backF v11) + (1 : Int64)))))] [(.long (leftF (spendF v5 (backF v11) (1 : Int32) (0 : Int32) ((backF v11) + (1 : Int64))).1 (spendF v5 (backF v11) (1 : Int32) (0 : Int32) ((backF v11) + (1 : Int64))).2.1 (1 : Int32)))])
          refine WGo.st (fun _ q => XS.lconst S176.here hx rfl (hb hby at_171) q) ?_
          show WGo _ _ _ _ _ _ _ _ T175 (mkF m 172 #[.val (.int p1), .val (.long p2), .second, .val (.int p3), .val (.long v5), .second, .val (.int v11), .val (.ref aB), .val (.int v27), .val (.long (backF v11)), .second, .val (.int (spOk (spendF v5 (backF v11) (1 : Int32) (0 : Int32) ((backF v11) + (1 : Int64)))))] [(.long (0 : Int64)), (.long (leftF (spendF v5 (backF v11) (1 : Int32) (0 : Int32) ((backF v11) + (1 : Int64))).1 (spendF v5 (backF v11) (1 : Int32) (0 : Int32) ((backF v11) + (1 : Int64))).2.1 (1 : Int32)))])
          refine WGo.st (fun _ q => XS.lcmp S176.here hx rfl (hb hby at_172) rfl q) ?_
          show WGo _ _ _ _ _ _ _ _ T175 (mkF m 173 #[.val (.int p1), .val (.long p2), .second, .val (.int p3), .val (.long v5), .second, .val (.int v11), .val (.ref aB), .val (.int v27), .val (.long (backF v11)), .second, .val (.int (spOk (spendF v5 (backF v11) (1 : Int32) (0 : Int32) ((backF v11) + (1 : Int64)))))] [(.int (lcmpW (leftF (spendF v5 (backF v11) (1 : Int32) (0 : Int32) ((backF v11) + (1 : Int64))).1 (spendF v5 (backF v11) (1 : Int32) (0 : Int32) ((backF v11) + (1 : Int64))).2.1 (1 : Int32)) (0 : Int64)))])
          refine WGo.st (fun _ q => XS.ifNo S176.here hx rfl (hb hby at_173) rfl (teqJ (by rw [hsp]; first | rfl | (rw [c150]; rfl))).2 q) ?_
          show WGo _ _ _ _ _ _ _ _ T175 (mkF m 176 #[.val (.int p1), .val (.long p2), .second, .val (.int p3), .val (.long v5), .second, .val (.int v11), .val (.ref aB), .val (.int v27), .val (.long (backF v11)), .second, .val (.int (spOk (spendF v5 (backF v11) (1 : Int32) (0 : Int32) ((backF v11) + (1 : Int64)))))] [])
          refine WGo.st (fun _ q => XS.iconst S176.here hx rfl (hb hby at_176) q) ?_
          show WGo _ _ _ _ _ _ _ _ T175 (mkF m 177 #[.val (.int p1), .val (.long p2), .second, .val (.int p3), .val (.long v5), .second, .val (.int v11), .val (.ref aB), .val (.int v27), .val (.long (backF v11)), .second, .val (.int (spOk (spendF v5 (backF v11) (1 : Int32) (0 : Int32) ((backF v11) + (1 : Int64)))))] [(.int (1 : Int32))])
          refine WGo.st (fun _ q => XS.goto S176.here hx rfl (pc0 := 177) (pc' := 181) rfl (hb hby at_177) (by decide) (by decide) q) ?_
          show WGo _ _ _ _ _ _ _ _ T175 (mkF m 181 #[.val (.int p1), .val (.long p2), .second, .val (.int p3), .val (.long v5), .second, .val (.int v11), .val (.ref aB), .val (.int v27), .val (.long (backF v11)), .second, .val (.int (spOk (spendF v5 (backF v11) (1 : Int32) (0 : Int32) ((backF v11) + (1 : Int64)))))] [(.int (1 : Int32))])
          refine w_retZ S176 hret (hb hby at_181) (by decide) (by decide) (by decide) ?_
          exact rfl
        · refine WGo.st (fun _ q => XS.ifYes S166.here hx rfl (pc0 := 150) (pc' := 182) rfl (hb hby at_150) rfl (feqJ c150).2 (by decide) (by decide) q) ?_
          show WGo _ _ _ _ _ _ _ _ T165 (mkF m 182 #[.val (.int p1), .val (.long p2), .second, .val (.int p3), .val (.long v5), .second, .val (.int v11), .val (.ref aB), .val (.int v27), .val (.long (backF v11)), .second, .val (.int (spOk (spendF v5 (backF v11) (1 : Int32) (0 : Int32) ((backF v11) + (1 : Int64)))))] [])
          have hsp := sp_more v5 (backF v11) (back_rng v11 hln).1 (back_rng v11 hln).2 hrs c150
          refine WGo.st (fun _ q => XS.iload S166.here hx rfl (hb hby at_182) rfl q) ?_
          show WGo _ _ _ _ _ _ _ _ T165 (mkF m 184 #[.val (.int p1), .val (.long p2), .second, .val (.int p3), .val (.long v5), .second, .val (.int v11), .val (.ref aB), .val (.int v27), .val (.long (backF v11)), .second, .val (.int (spOk (spendF v5 (backF v11) (1 : Int32) (0 : Int32) ((backF v11) + (1 : Int64)))))] [(.int (spOk (spendF v5 (backF v11) (1 : Int32) (0 : Int32) ((backF v11) + (1 : Int64)))))])
          refine WGo.st (fun _ q => XS.ifNo S166.here hx rfl (hb hby at_184) rfl ((if0 _ _).trans (feq (by rw [hsp]; show ¬ (1 : Int32) = 0; decide)).1) q) ?_
          show WGo _ _ _ _ _ _ _ _ T165 (mkF m 187 #[.val (.int p1), .val (.long p2), .second, .val (.int p3), .val (.long v5), .second, .val (.int v11), .val (.ref aB), .val (.int v27), .val (.long (backF v11)), .second, .val (.int (spOk (spendF v5 (backF v11) (1 : Int32) (0 : Int32) ((backF v11) + (1 : Int64)))))] [])
          refine WGo.st (fun _ q => XS.aload S166.here hx rfl (hb hby at_187) rfl rfl q) ?_
          show WGo _ _ _ _ _ _ _ _ T165 (mkF m 189 #[.val (.int p1), .val (.long p2), .second, .val (.int p3), .val (.long v5), .second, .val (.int v11), .val (.ref aB), .val (.int v27), .val (.long (backF v11)), .second, .val (.int (spOk (spendF v5 (backF v11) (1 : Int32) (0 : Int32) ((backF v11) + (1 : Int64)))))] [(.ref aB)])
          refine w_virtual S166 (y := (⟨"com/example/assay_shapes/assayshapes/RegexBudget", "isSpent", "()Z"⟩ : MethodName)) hown (hw _ (List.mem_of_getElem? (i := 39) rfl)) (hw _ (List.mem_of_getElem? (i := 40) rfl)) (hw _ (List.mem_of_getElem? (i := 42) rfl)) (hw _ (List.mem_of_getElem? (i := 41) rfl)) (hw _ (List.mem_of_getElem? (i := 4) rfl)) (hw _ (List.mem_of_getElem? (i := 43) rfl)) (by decide) q169f0 (rm_S l Z a0 hw n0 h167 aB (spendF v5 (backF v11) (1 : Int32) (0 : Int32) ((backF v11) + (1 : Int64))).1 (spendF v5 (backF v11) (1 : Int32) (0 : Int32) ((backF v11) + (1 : Int64))).2.1 (1 : Int32) (spendF v5 (backF v11) (1 : Int32) (0 : Int32) ((backF v11) + (1 : Int64))).2.2 S166.ge q169f0 q169f1 q169f2 q169f3 q169f4 (spend_bool v5 (backF v11) (1 : Int32) (0 : Int32) ((backF v11) + (1 : Int64)) (by decide))) (W := 0) (by decide) (by decide) (by decide) (by decide) rfl (by rw [hml]; rfl) (argsL := []) (rest := []) (ps := []) (rt := (some .boolean)) (by decide) rfl rfl rfl (by show 2 * 0 + _ ≤ _; exact Nat.le_of_eq rfl) (hb hby at_189) ?_
          intro T180 h182 w183 S181 q184
          obtain ⟨q184a, q184b⟩ := q184
          subst q184a
          replace q184b := Eq.symm q184b
          subst q184b
          show WGo _ _ _ _ _ _ _ _ T180 (mkF m 192 #[.val (.int p1), .val (.long p2), .second, .val (.int p3), .val (.long v5), .second, .val (.int v11), .val (.ref aB), .val (.int v27), .val (.long (backF v11)), .second, .val (.int (spOk (spendF v5 (backF v11) (1 : Int32) (0 : Int32) ((backF v11) + (1 : Int64)))))] [(.int (spendF v5 (backF v11) (1 : Int32) (0 : Int32) ((backF v11) + (1 : Int64))).2.2)])
          refine WGo.st (fun _ q => XS.ifNo S181.here hx rfl (hb hby at_192) rfl ((if0 _ _).trans (teq (by rw [hsp])).2) q) ?_
          show WGo _ _ _ _ _ _ _ _ T180 (mkF m 195 #[.val (.int p1), .val (.long p2), .second, .val (.int p3), .val (.long v5), .second, .val (.int v11), .val (.ref aB), .val (.int v27), .val (.long (backF v11)), .second, .val (.int (spOk (spendF v5 (backF v11) (1 : Int32) (0 : Int32) ((backF v11) + (1 : Int64)))))] [])
          refine WGo.st (fun _ q => XS.aload S181.here hx rfl (hb hby at_195) rfl rfl q) ?_
          show WGo _ _ _ _ _ _ _ _ T180 (mkF m 197 #[.val (.int p1), .val (.long p2), .second, .val (.int p3), .val (.long v5), .second, .val (.int v11), .val (.ref aB), .val (.int v27), .val (.long (backF v11)), .second, .val (.int (spOk (spendF v5 (backF v11) (1 : Int32) (0 : Int32) ((backF v11) + (1 : Int64)))))] [(.ref aB)])
          refine w_virtual S181 (y := (⟨"com/example/assay_shapes/assayshapes/RegexBudget", "left", "()J"⟩ : MethodName)) hown (hw _ (List.mem_of_getElem? (i := 44) rfl)) (hw _ (List.mem_of_getElem? (i := 45) rfl)) (hw _ (List.mem_of_getElem? (i := 47) rfl)) (hw _ (List.mem_of_getElem? (i := 46) rfl)) (hw _ (List.mem_of_getElem? (i := 4) rfl)) (hw _ (List.mem_of_getElem? (i := 48) rfl)) (by decide) q169f0 (rm_L l Z a0 hw n0 h167 aB (spendF v5 (backF v11) (1 : Int32) (0 : Int32) ((backF v11) + (1 : Int64))).1 (spendF v5 (backF v11) (1 : Int32) (0 : Int32) ((backF v11) + (1 : Int64))).2.1 (1 : Int32) (spendF v5 (backF v11) (1 : Int32) (0 : Int32) ((backF v11) + (1 : Int64))).2.2 S181.ge q169f0 q169f1 q169f2 q169f3 q169f4) (W := 0) (by decide) (by decide) (by decide) (by decide) rfl (by rw [hml]; rfl) (argsL := []) (rest := []) (ps := []) (rt := (some .long)) (by decide) rfl rfl rfl (by show 2 * 0 + _ ≤ _; exact Nat.le_of_eq rfl) (hb hby at_197) ?_
          intro T185 h187 w188 S186 q189
          obtain ⟨q189a, q189b⟩ := q189
          subst q189a
          replace q189b := Eq.symm q189b
          subst q189b
          show WGo _ _ _ _ _ _ _ _ T185 (mkF m 200 #[.val (.int p1), .val (.long p2), .second, .val (.int p3), .val (.long v5), .second, .val (.int v11), .val (.ref aB), .val (.int v27), .val (.long (backF v11)), .second, .val (.int (spOk (spendF v5 (backF v11) (1 : Int32) (0 : Int32) ((backF v11) + (1 : Int64)))))] [(.long (leftF (spendF v5 (backF v11) (1 : Int32) (0 : Int32) ((backF v11) + (1 : Int64))).1 (spendF v5 (backF v11) (1 : Int32) (0 : Int32) ((backF v11) + (1 : Int64))).2.1 (1 : Int32)))])
          refine WGo.st (fun _ q => XS.lload S186.here hx rfl (hb hby at_200) rfl q) ?_
          show WGo _ _ _ _ _ _ _ _ T185 (mkF m 202 #[.val (.int p1), .val (.long p2), .second, .val (.int p3), .val (.long v5), .second, .val (.int v11), .val (.ref aB), .val (.int v27), .val (.long (backF v11)), .second, .val (.int (spOk (spendF v5 (backF v11) (1 : Int32) (0 : Int32) ((backF v11) + (1 : Int64)))))] [(.long v5), (.long (leftF (spendF v5 (backF v11) (1 : Int32) (0 : Int32) ((backF v11) + (1 : Int64))).1 (spendF v5 (backF v11) (1 : Int32) (0 : Int32) ((backF v11) + (1 : Int64))).2.1 (1 : Int32)))])
          refine WGo.st (fun _ q => XS.lconst S186.here hx rfl (hb hby at_202) q) ?_
          show WGo _ _ _ _ _ _ _ _ T185 (mkF m 203 #[.val (.int p1), .val (.long p2), .second, .val (.int p3), .val (.long v5), .second, .val (.int v11), .val (.ref aB), .val (.int v27), .val (.long (backF v11)), .second, .val (.int (spOk (spendF v5 (backF v11) (1 : Int32) (0 : Int32) ((backF v11) + (1 : Int64)))))] [(.long (1 : Int64)), (.long v5), (.long (leftF (spendF v5 (backF v11) (1 : Int32) (0 : Int32) ((backF v11) + (1 : Int64))).1 (spendF v5 (backF v11) (1 : Int32) (0 : Int32) ((backF v11) + (1 : Int64))).2.1 (1 : Int32)))])
          refine WGo.st (fun _ q => XS.lsub S186.here hx rfl (hb hby at_203) rfl q) ?_
          show WGo _ _ _ _ _ _ _ _ T185 (mkF m 204 #[.val (.int p1), .val (.long p2), .second, .val (.int p3), .val (.long v5), .second, .val (.int v11), .val (.ref aB), .val (.int v27), .val (.long (backF v11)), .second, .val (.int (spOk (spendF v5 (backF v11) (1 : Int32) (0 : Int32) ((backF v11) + (1 : Int64)))))] [(.long (v5 - (1 : Int64))), (.long (leftF (spendF v5 (backF v11) (1 : Int32) (0 : Int32) ((backF v11) + (1 : Int64))).1 (spendF v5 (backF v11) (1 : Int32) (0 : Int32) ((backF v11) + (1 : Int64))).2.1 (1 : Int32)))])
          refine WGo.st (fun _ q => XS.lcmp S186.here hx rfl (hb hby at_204) rfl q) ?_
          show WGo _ _ _ _ _ _ _ _ T185 (mkF m 205 #[.val (.int p1), .val (.long p2), .second, .val (.int p3), .val (.long v5), .second, .val (.int v11), .val (.ref aB), .val (.int v27), .val (.long (backF v11)), .second, .val (.int (spOk (spendF v5 (backF v11) (1 : Int32) (0 : Int32) ((backF v11) + (1 : Int64)))))] [(.int (lcmpW (leftF (spendF v5 (backF v11) (1 : Int32) (0 : Int32) ((backF v11) + (1 : Int64))).1 (spendF v5 (backF v11) (1 : Int32) (0 : Int32) ((backF v11) + (1 : Int64))).2.1 (1 : Int32)) (v5 - (1 : Int64))))])
          refine WGo.st (fun _ q => XS.ifNo S186.here hx rfl (hb hby at_205) rfl (teqJ (by rw [hsp]; exact lm1 v5)).2 q) ?_
          show WGo _ _ _ _ _ _ _ _ T185 (mkF m 208 #[.val (.int p1), .val (.long p2), .second, .val (.int p3), .val (.long v5), .second, .val (.int v11), .val (.ref aB), .val (.int v27), .val (.long (backF v11)), .second, .val (.int (spOk (spendF v5 (backF v11) (1 : Int32) (0 : Int32) ((backF v11) + (1 : Int64)))))] [])
          refine WGo.st (fun _ q => XS.iconst S186.here hx rfl (hb hby at_208) q) ?_
          show WGo _ _ _ _ _ _ _ _ T185 (mkF m 209 #[.val (.int p1), .val (.long p2), .second, .val (.int p3), .val (.long v5), .second, .val (.int v11), .val (.ref aB), .val (.int v27), .val (.long (backF v11)), .second, .val (.int (spOk (spendF v5 (backF v11) (1 : Int32) (0 : Int32) ((backF v11) + (1 : Int64)))))] [(.int (1 : Int32))])
          refine WGo.st (fun _ q => XS.goto S186.here hx rfl (pc0 := 209) (pc' := 213) rfl (hb hby at_209) (by decide) (by decide) q) ?_
          show WGo _ _ _ _ _ _ _ _ T185 (mkF m 213 #[.val (.int p1), .val (.long p2), .second, .val (.int p3), .val (.long v5), .second, .val (.int v11), .val (.ref aB), .val (.int v27), .val (.long (backF v11)), .second, .val (.int (spOk (spendF v5 (backF v11) (1 : Int32) (0 : Int32) ((backF v11) + (1 : Int64)))))] [(.int (1 : Int32))])
          refine w_retZ S186 hret (hb hby at_213) (by decide) (by decide) (by decide) ?_
          exact rfl
set_option maxRecDepth 65536 in
set_option maxHeartbeats 40000000 in
theorem comes_1 {Post : Tables → Env → Array Value → State → Outcome → State → Prop} (hpost : ∀ tb e args s v u, (limb_1_1.after args s (.returned v) u = true ∧ limb_1_2.after args s (.returned v) u = true ∧ True) → FrameEnd s (.returned v) u (Jvm.fieldLocs frame_1_writes args s ++ Jvm.arrayLocs frame_1_arrays args s ++ Jvm.staticLocs frame_1_statics s) 16 128 → Post tb e args s (.returned v) u) :
    ArmFor flags0 classFile x code maxLocals ret World_1 tables_1 room_1 Calls_1 rest_1 Pre_1 Post := by
  intro l hfl _ _ p e ha hc hk s m args below hf hA hF happ hP
  obtain ⟨hcalls, hrest, hpre⟩ := hP
  obtain ⟨-, -, -, hnamed, -, -, -, hat⟩ := (Spec.applies_iff hf).mp happ
  obtain ⟨hg, hn⟩ := and_e (Cond.before_iff.mp (show (Jvm.Cond.and given_1 narrow_1).before args s = true from hpre))
  obtain ⟨hcount, hg0⟩ := and_e hg
  obtain ⟨ha0, hg1⟩ := and_e hg0
  obtain ⟨ha1, hg2⟩ := and_e hg1
  obtain ⟨w0, w1, w2, rfl⟩ : ∃ (w0 : Value) (w1 : Value) (w2 : Value), args = #[w0, w1, w2] := by
    have hs : args.size = 3 := by simpa [Cond.value, given_1] using hcount
    obtain ⟨L⟩ := args
    match L, hs with
    | [w0, w1, w2], _ => exact ⟨w0, w1, w2, rfl⟩
  have hw := fun d (hd : d ∈ tables_1) => atoms_spec (ws := Jvm.Cond.code x code maxLocals ret :: tables_1) hat d (List.mem_cons_of_mem _ hd)
  obtain ⟨i0, e0⟩ := is_v ha0
  obtain rfl : w0 = (.int i0) := Option.some.inj e0
  obtain ⟨i1, e1⟩ := isL_v ha1
  obtain rfl : w1 = (.long i1) := Option.some.inj e1
  obtain ⟨i2, e2⟩ := is_v hg2
  obtain rfl : w2 = (.int i2) := Option.some.inj e2
  obtain ⟨n, o, h1, h2, h3, _, L, rfl, ⟨hQ, N⟩, hq⟩ := rm_0 l s _ hw s.heap.size s.heap i0 i1 i2  (Nat.le_refl _)  p e ha hc hk s m _ below hf ((Spec.applies_iff_loose hf).mp happ).1 ⟨rfl, State.Warmed39.refl s, rfl⟩ trivial
  obtain rfl := hQ
  refine ⟨n, _, h1, h2, h3, hpost _ _ _ _ _ _ ⟨Cond.after_iff.mpr rfl, Cond.after_iff.mpr (eq_i res_at (Term.int_eval (1)) rfl), trivial⟩ ⟨hq.1, hq.2.1, (hq.2.2.sift fun y hy => Or.inr (N y hy)).mono (by decide) (by decide)⟩⟩
theorem main_1_1 : Claimed_1_1 := comes_1 fun _ _ _ _ _ _ h hF => ⟨h.1, hF⟩
theorem main_1_2 : Claimed_1_2 := comes_1 fun _ _ _ _ _ _ h hF => ⟨h.2.1, hF⟩
end Jvm.Pilot.@@N@@
namespace Jvm.Pilot.@@N@@
open Jvm Jvm.ClassFile Sem Op Lib Jvm.Free Jvm.Stand Jvm.Pilot.@@N@@.Jvm.D
/-! MADE BY PROGRAM (witnessworld.py) out of the Statement's table words and the real class files: 10 classes; the members and pool entries that the words name. The judged class is class 1, her method 1. -/
namespace start1
open Jvm.ClassFile
def u (s : String) : CpInfo := .utf8 (stringToUtf16 s)
/-- a pool by its gaps: so many unusable entries, then the entry; so many at the end -/
def gap : Nat → List CpInfo → List CpInfo
  | 0, r => r
  | n + 1, r => .unusable :: gap n r
def poolList (es : List (Nat × CpInfo)) (last : Nat) : List CpInfo := es.foldr (fun e r => gap e.1 (e.2 :: r)) (gap last [])
def pool (es : List (Nat × CpInfo)) (last : Nat) : Array CpInfo := ⟨poolList es last⟩
def fileOf (pool : Array CpInfo) (this : Nat) (attrs : Array Attribute := #[]) (ms : Array MethodInfo := #[]) (fl : Nat := 33) (sup : Nat := 0) (ifs : Array Nat := #[]) (fds : Array FieldInfo := #[]) : ClassFile where
  minorVersion := 0
  majorVersion := 65
  constantPool := pool
  accessFlags := fl
  thisClass := this
  superClass := sup
  interfaces := ifs
  fields := fds
  methods := ms
  attributes := attrs
def plain (name : String) (sup : Option ClassId) : Class where
  name := name
  kind := .ordinary
  loader := none
  accessFlags := 33
  super := sup
  interfaces := #[]
  cf := none
  fields := #[]
  methods := #[]
  instanceTypes := #[]
  staticTypes := #[]
  resolved := #[]
  callSites := []
  init := .initialized
  statics := none
  mirror := none

def pool0 : Array CpInfo := pool [(5, u "<init>"), (0, u "()V"), (1, .class_ 10), (1, u "java/lang/Object")] 113

def k0c0 : Code := { maxStack := 0, maxLocals := 1, code := object_method_1_code, exceptionTable := #[], attributes := #[] }
def k0m0 : Method := { name := "<init>", desc := "()V", sig := { parameters := [], returnType := none }, accessFlags := 1, code := some k0c0 }
/-- java/lang/Object -/
def k0 : Class := { plain "java/lang/Object" none with
  accessFlags := 33
  interfaces := #[]
  cf := some (fileOf pool0 8 #[] #[{ accessFlags := 1, nameIndex := 5, descriptorIndex := 6, attributes := #[] }] 33 0 #[] #[])
  fields := #[]
  methods := #[k0m0]
  instanceTypes := #[]
  staticTypes := #[]
  resolved := Array.replicate 124 none
  statics := none }

def pool1 : Array CpInfo := pool [(2, .class_ 4), (1, u "java/lang/Object"), (0, u "<init>"), (0, u "()V"), (0, .long 4611686018427387903), (1, .integer 2147483647), (0, .class_ 11), (0, u "com/example/assay_shapes/assayshapes/RegexBudget"), (0, .methodref 10 13), (0, .nameAndType 5 14), (0, u "(J)V"), (0, .methodref 10 16), (0, .nameAndType 17 18), (0, u "spend"), (0, u "(J)Z"), (0, .integer 65535), (0, .methodref 10 21), (0, .nameAndType 22 23), (0, u "beginAutomaton"), (0, u "(III)V"), (0, .long 1099511627776), (1, .long 33), (1, .methodref 10 29), (0, .nameAndType 30 31), (0, u "beginBacktracking"), (0, u "(I)V"), (0, .methodref 10 33), (0, .nameAndType 34 35), (0, u "isSpent"), (0, u "()Z"), (0, .methodref 10 37), (0, .nameAndType 38 39), (0, u "left"), (0, u "()J"), (0, .class_ 41), (0, u "com/example/assay_shapes/assayshapes/RegexBudgetBeginBacktrackingPinLaw"), (2, u "law"), (0, u "(IJI)Z")] 3

def k1m0 : Method := { name := "<init>", desc := "()V", sig := { parameters := [], returnType := none }, accessFlags := 2, code := none }
def k1c1 : Code := { maxStack := 6, maxLocals := 12, code := code, exceptionTable := #[], attributes := #[] }
def k1m1 : Method := { name := "law", desc := "(IJI)Z", sig := { parameters := [.int, .long, .int], returnType := some .boolean }, accessFlags := 9, code := some k1c1 }
/-- com/example/assay_shapes/assayshapes/RegexBudgetBeginBacktrackingPinLaw -/
def k1 : Class := { plain "com/example/assay_shapes/assayshapes/RegexBudgetBeginBacktrackingPinLaw" (some 0) with
  accessFlags := 49
  interfaces := #[]
  cf := some (fileOf pool1 40 #[] #[{ accessFlags := 2, nameIndex := 5, descriptorIndex := 6, attributes := #[] }, { accessFlags := 9, nameIndex := 44, descriptorIndex := 45, attributes := #[] }] 49 2 #[] #[])
  fields := #[]
  methods := #[k1m0, k1m1]
  instanceTypes := #[]
  staticTypes := #[]
  resolved := Array.replicate 49 none
  statics := none }

def pool2 : Array CpInfo := pool [(1, .methodref 2 3), (0, .class_ 4), (0, .nameAndType 5 6), (0, u "java/lang/Object"), (0, u "<init>"), (0, u "()V"), (0, .fieldref 8 9), (0, .class_ 10), (0, .nameAndType 11 12), (0, u "com/example/assay_shapes/assayshapes/RegexBudget"), (0, u "mReserve"), (0, u "J"), (0, .methodref 14 15), (0, .class_ 16), (0, .nameAndType 17 18), (0, u "java/lang/Math"), (0, u "min"), (0, u "(II)I"), (0, .long 1024), (1, .methodref 8 22), (0, .nameAndType 23 24), (0, u "begin"), (0, u "(JZ)V"), (0, .long 33), (1, .fieldref 8 28), (0, .nameAndType 29 12), (0, u "mOwn"), (0, .fieldref 8 31), (0, .nameAndType 32 33), (0, u "mReserved"), (0, u "Z"), (0, .fieldref 8 35), (0, .nameAndType 36 33), (0, u "mSpent"), (0, .methodref 14 38), (0, .nameAndType 39 40), (0, u "max"), (0, u "(JJ)J"), (0, u "STEPS_PER_UNIT"), (0, u "I"), (2, u "MAX_STEPS_PER_UNIT"), (1, u "STEPS_PER_MATCH"), (1, u "(J)V"), (2, u "beginAutomaton"), (0, u "(III)V"), (0, u "beginBacktracking"), (0, u "(I)V"), (0, u "left"), (0, u "()J"), (1, u "spend"), (0, u "(J)Z"), (0, u "isSpent"), (0, u "()Z")] 2

def k2c0 : Code := { maxStack := 3, maxLocals := 3, code := prog_49_method_1_code, exceptionTable := #[], attributes := #[] }
def k2m0 : Method := { name := "<init>", desc := "(J)V", sig := { parameters := [.long], returnType := none }, accessFlags := 0, code := some k2c0 }
def k2c1 : Code := { maxStack := 7, maxLocals := 6, code := prog_49_method_2_code, exceptionTable := #[], attributes := #[] }
def k2m1 : Method := { name := "beginAutomaton", desc := "(III)V", sig := { parameters := [.int, .int, .int], returnType := none }, accessFlags := 0, code := some k2c1 }
def k2c2 : Code := { maxStack := 7, maxLocals := 2, code := prog_49_method_3_code, exceptionTable := #[], attributes := #[] }
def k2m2 : Method := { name := "beginBacktracking", desc := "(I)V", sig := { parameters := [.int], returnType := none }, accessFlags := 0, code := some k2c2 }
def k2c3 : Code := { maxStack := 3, maxLocals := 4, code := prog_49_method_4_code, exceptionTable := #[], attributes := #[] }
def k2m3 : Method := { name := "begin", desc := "(JZ)V", sig := { parameters := [.long, .boolean], returnType := none }, accessFlags := 2, code := some k2c3 }
def k2c4 : Code := { maxStack := 4, maxLocals := 1, code := prog_49_method_5_code, exceptionTable := #[], attributes := #[] }
def k2m4 : Method := { name := "left", desc := "()J", sig := { parameters := [], returnType := some .long }, accessFlags := 0, code := some k2c4 }
def k2c5 : Code := { maxStack := 5, maxLocals := 3, code := prog_49_method_6_code, exceptionTable := #[], attributes := #[] }
def k2m5 : Method := { name := "spend", desc := "(J)Z", sig := { parameters := [.long], returnType := some .boolean }, accessFlags := 0, code := some k2c5 }
def k2c6 : Code := { maxStack := 1, maxLocals := 1, code := prog_49_method_7_code, exceptionTable := #[], attributes := #[] }
def k2m6 : Method := { name := "isSpent", desc := "()Z", sig := { parameters := [], returnType := some .boolean }, accessFlags := 0, code := some k2c6 }
/-- com/example/assay_shapes/assayshapes/RegexBudget -/
def k2 : Class := { plain "com/example/assay_shapes/assayshapes/RegexBudget" (some 0) with
  accessFlags := 48
  interfaces := #[]
  cf := some (fileOf pool2 8 #[] #[{ accessFlags := 0, nameIndex := 5, descriptorIndex := 49, attributes := #[] }, { accessFlags := 0, nameIndex := 52, descriptorIndex := 53, attributes := #[] }, { accessFlags := 0, nameIndex := 54, descriptorIndex := 55, attributes := #[] }, { accessFlags := 2, nameIndex := 23, descriptorIndex := 24, attributes := #[] }, { accessFlags := 0, nameIndex := 56, descriptorIndex := 57, attributes := #[] }, { accessFlags := 0, nameIndex := 59, descriptorIndex := 60, attributes := #[] }, { accessFlags := 0, nameIndex := 61, descriptorIndex := 62, attributes := #[] }] 48 2 #[] #[{ accessFlags := 24, nameIndex := 41, descriptorIndex := 42, attributes := #[] }, { accessFlags := 24, nameIndex := 45, descriptorIndex := 42, attributes := #[] }, { accessFlags := 24, nameIndex := 47, descriptorIndex := 42, attributes := #[] }, { accessFlags := 2, nameIndex := 11, descriptorIndex := 12, attributes := #[] }, { accessFlags := 2, nameIndex := 29, descriptorIndex := 12, attributes := #[] }, { accessFlags := 2, nameIndex := 32, descriptorIndex := 33, attributes := #[] }, { accessFlags := 2, nameIndex := 36, descriptorIndex := 33, attributes := #[] }])
  fields := #[{ name := "STEPS_PER_UNIT", type := .int, accessFlags := 24, slot := 0, constantValue := 0 }, { name := "MAX_STEPS_PER_UNIT", type := .int, accessFlags := 24, slot := 1, constantValue := 0 }, { name := "STEPS_PER_MATCH", type := .int, accessFlags := 24, slot := 2, constantValue := 0 }, { name := "mReserve", type := .long, accessFlags := 2, slot := 0, constantValue := 0 }, { name := "mOwn", type := .long, accessFlags := 2, slot := 1, constantValue := 0 }, { name := "mReserved", type := .boolean, accessFlags := 2, slot := 2, constantValue := 0 }, { name := "mSpent", type := .boolean, accessFlags := 2, slot := 3, constantValue := 0 }]
  methods := #[k2m0, k2m1, k2m2, k2m3, k2m4, k2m5, k2m6]
  instanceTypes := #[.long, .long, .boolean, .boolean]
  staticTypes := #[.int, .int, .int]
  resolved := Array.replicate 65 none
  statics := none }

def pool3 : Array CpInfo := pool [(1, .class_ 2), (0, u "java/lang/Math"), (1, .class_ 6), (1, u "java/lang/Object"), (0, u "<init>"), (0, u "()V"), (89, .class_ 100), (1, u "java/lang/Math$RandomNumberGeneratorHolder"), (20, u "(JJ)J"), (50, u "negativeZeroFloatBits"), (0, u "J"), (2, u "negativeZeroDoubleBits"), (21, u "max"), (2, u "min"), (43, u "$assertionsDisabled"), (0, u "Z"), (88, u "(II)I"), (2, u "twoToTheDoubleScaleDown"), (0, u "D"), (4, u "twoToTheDoubleScaleUp"), (9, u "E"), (3, u "PI"), (2, u "TAU"), (2, u "DEGREES_TO_RADIANS"), (0, u "RADIANS_TO_DEGREES")] 94

def k3m0 : Method := { name := "<init>", desc := "()V", sig := { parameters := [], returnType := none }, accessFlags := 2, code := none }
def k3c1 : Code := { maxStack := 4, maxLocals := 4, code := jdk_29_method_66_code, exceptionTable := #[], attributes := #[] }
def k3m1 : Method := { name := "max", desc := "(JJ)J", sig := { parameters := [.long, .long], returnType := some .long }, accessFlags := 9, code := some k3c1 }
def k3c2 : Code := { maxStack := 2, maxLocals := 2, code := jdk_29_method_69_code, exceptionTable := #[], attributes := #[] }
def k3m2 : Method := { name := "min", desc := "(II)I", sig := { parameters := [.int, .int], returnType := some .int }, accessFlags := 9, code := some k3c2 }
/-- java/lang/Math -/
def k3 : Class := { plain "java/lang/Math" (some 0) with
  accessFlags := 49
  interfaces := #[]
  cf := some (fileOf pool3 1 #[.nestMembers #[98]] #[{ accessFlags := 2, nameIndex := 7, descriptorIndex := 8, attributes := #[] }, { accessFlags := 9, nameIndex := 198, descriptorIndex := 121, attributes := #[] }, { accessFlags := 9, nameIndex := 201, descriptorIndex := 335, attributes := #[] }] 49 4 #[] #[{ accessFlags := 25, nameIndex := 354, descriptorIndex := 339, attributes := #[] }, { accessFlags := 25, nameIndex := 358, descriptorIndex := 339, attributes := #[] }, { accessFlags := 25, nameIndex := 361, descriptorIndex := 339, attributes := #[] }, { accessFlags := 26, nameIndex := 364, descriptorIndex := 339, attributes := #[] }, { accessFlags := 26, nameIndex := 365, descriptorIndex := 339, attributes := #[] }, { accessFlags := 26, nameIndex := 172, descriptorIndex := 173, attributes := #[] }, { accessFlags := 26, nameIndex := 176, descriptorIndex := 173, attributes := #[] }, { accessFlags := 8, nameIndex := 344, descriptorIndex := 339, attributes := #[] }, { accessFlags := 8, nameIndex := 338, descriptorIndex := 339, attributes := #[] }, { accessFlags := 4120, nameIndex := 245, descriptorIndex := 246, attributes := #[] }])
  fields := #[{ name := "E", type := .double, accessFlags := 25, slot := 0, constantValue := 0 }, { name := "PI", type := .double, accessFlags := 25, slot := 1, constantValue := 0 }, { name := "TAU", type := .double, accessFlags := 25, slot := 2, constantValue := 0 }, { name := "DEGREES_TO_RADIANS", type := .double, accessFlags := 26, slot := 3, constantValue := 0 }, { name := "RADIANS_TO_DEGREES", type := .double, accessFlags := 26, slot := 4, constantValue := 0 }, { name := "negativeZeroFloatBits", type := .long, accessFlags := 26, slot := 5, constantValue := 0 }, { name := "negativeZeroDoubleBits", type := .long, accessFlags := 26, slot := 6, constantValue := 0 }, { name := "twoToTheDoubleScaleUp", type := .double, accessFlags := 8, slot := 7, constantValue := 0 }, { name := "twoToTheDoubleScaleDown", type := .double, accessFlags := 8, slot := 8, constantValue := 0 }, { name := "$assertionsDisabled", type := .boolean, accessFlags := 4120, slot := 9, constantValue := 0 }]
  methods := #[k3m0, k3m1, k3m2]
  instanceTypes := #[]
  staticTypes := #[.double, .double, .double, .double, .double, .long, .long, .double, .double, .boolean]
  resolved := Array.replicate 460 none
  statics := none }

def pool4 : Array CpInfo := pool [(1, u "java/lang/Cloneable"), (0, .class_ 1), (0, u "java/lang/Object"), (0, .class_ 3)] 3

/-- java/lang/Cloneable -/
def k4 : Class := { plain "java/lang/Cloneable" (some 0) with
  accessFlags := 1537
  interfaces := #[]
  cf := some (fileOf pool4 2 #[] #[] 1537 4 #[] #[])
  fields := #[]
  methods := #[]
  instanceTypes := #[]
  staticTypes := #[]
  resolved := Array.replicate 8 none
  statics := none }

def pool5 : Array CpInfo := pool [(1, u "java/io/Serializable"), (0, .class_ 1), (0, u "java/lang/Object"), (0, .class_ 3)] 3

/-- java/io/Serializable -/
def k5 : Class := { plain "java/io/Serializable" (some 0) with
  accessFlags := 1537
  interfaces := #[]
  cf := some (fileOf pool5 2 #[] #[] 1537 4 #[] #[])
  fields := #[]
  methods := #[]
  instanceTypes := #[]
  staticTypes := #[]
  resolved := Array.replicate 8 none
  statics := none }

/-- the primitive byte -/
def k6 : Class := { plain "byte" none with kind := .primitive 'B', accessFlags := 0x411 }
/-- [B -/
def k7 : Class := { plain "[B" (some 0) with kind := .array 6 .byte, interfaces := #[4, 5], accessFlags := 1041 }

/-- the primitive int -/
def k8 : Class := { plain "int" none with kind := .primitive 'I', accessFlags := 0x411 }
/-- [I -/
def k9 : Class := { plain "[I" (some 0) with kind := .array 8 .int, interfaces := #[4, 5], accessFlags := 1041 }

def heap : Heap := #[]
def classes : Array Class := #[k0, k1, k2, k3, k4, k5, k6, k7, k8, k9]
def interned : List (Array UInt16 × Addr) := []
def slotsUsed : Nat := 0
def theMethod : MethodId := ⟨1, 1⟩
def args0 : Array Value := #[.int 5, .long 300, .int 7]
def aboutOver (below : List Frame) : State where
  vm := { classes := classes, interned := interned.toArray }
  heap := heap
  slotsUsed := slotsUsed
  threads := #[{ frames := .invoking theMethod args0 :: below }]
def below0 : List Frame := [.native { method := ⟨0, 0⟩, args := #[] }]
def about1 : State := aboutOver below0
def p0 : Program := .bare "" "" ""
def e0 : Env := launch0.env 0 0 0
theorem w_frames : about1.frames = Frame.invoking theMethod args0 :: below0 := rfl
set_option maxRecDepth 65536 in
theorem w_args : argsFit about1.vm theMethod args0 = true := by decide +kernel
set_option maxRecDepth 65536 in
theorem w_heap : heapFits about1 = true := by decide +kernel
set_option maxRecDepth 65536 in
theorem w_runnable : about1.curStatus? = some .runnable := by decide +kernel
set_option maxRecDepth 65536 in
theorem w_alone : about1.alone = true := by decide +kernel
set_option maxRecDepth 65536 in
theorem w_named : about1.methodNamed? x = some theMethod := by decide +kernel
set_option maxRecDepth 65536 in
theorem w_hears : about1.hears theMethod below0 = true := by decide +kernel
set_option maxRecDepth 65536 in
theorem w_ripe : about1.ripe theMethod args0 below0 = true := by decide +kernel
theorem w_running : about1.status = .running := rfl
set_option maxRecDepth 65536 in
theorem w_room : about1.hasRoom e0.platform room_1 = true :=
  launch0.hasRoom_least _ room_1 (by decide +kernel) (by decide +kernel) (by decide +kernel) (by decide +kernel) (by decide +kernel) (by decide +kernel)
theorem allAtoms_all (ts : List Jvm.Cond) (a : Array Jvm.Value) (st : Jvm.State) : (allAtoms ts).before a st = ts.all (fun c => c.before a st) := by
  induction ts with
  | nil => rfl
  | cons c t ih =>
    show (Jvm.Cond.and c (allAtoms t)).before a st = _
    rw [Jvm.Cond.before_and, ih, List.all_cons]
def words1 : List Jvm.Cond := Jvm.Cond.code x code maxLocals ret :: tables_1
/-- a 'code' word, met by the world's own term for the bytes: nothing is compared byte by byte -/
theorem code_word {y : MethodName} {bytes : ByteArray} {mx : Nat} {rt : Option FieldType} {a : Array Value} {s : State} {m : MethodId} {meth : Method} {c : Code} (h1 : s.methodNamed? y = some m) (h2 : s.vm.method? m = some meth) (h3 : meth.code = some c) (h4 : c.code = bytes)
    (h5 : (c.maxLocals == mx && c.exceptionTable.isEmpty && decide (c.maxStack ≤ mostOperands) && decide (meth.sig.returnType = rt) && !meth.locks && decide (parseMethodDescriptor y.desc = some meth.sig)) = true) : (Jvm.Cond.code y bytes mx rt).before a s = true := by
  simp only [Bool.and_eq_true, beq_iff_eq, Bool.not_eq_true', decide_eq_true_eq] at h5
  obtain ⟨⟨⟨⟨⟨g1, g2⟩, g3⟩, g4⟩, g5⟩, g6⟩ := h5
  simp [Cond.before, Cond.holds, Cond.value, h1, h2, h3, h4, g1, g2, g3, g4, g5, g6]
def isCode : Jvm.Cond → Bool
  | .code _ _ _ _ => true
  | _ => false
theorem all_split {L : List Jvm.Cond} {P : Jvm.Cond → Bool} (h1 : L.all (fun c => isCode c || P c) = true) (h2 : ∀ c ∈ L.filter isCode, P c = true) : L.all P = true := by
  refine List.all_eq_true.mpr fun c hc => ?_
  have h := List.all_eq_true.mp h1 c hc
  rcases Bool.eq_false_or_eq_true (isCode c) with hi | hi
  · exact h2 c (List.mem_filter.mpr ⟨hc, hi⟩)
  · simpa [hi] using h
set_option maxRecDepth 65536 in
theorem w_c0 : (Jvm.Cond.code x code maxLocals ret).before args0 about1 = true := code_word (m := ⟨1, 1⟩) (meth := k1m1) (c := k1c1) (by decide +kernel) rfl rfl rfl (by decide +kernel)
set_option maxRecDepth 65536 in
theorem w_c1 : (Jvm.Cond.code ({ cls := "com/example/assay_shapes/assayshapes/RegexBudget", name := "<init>", desc := "(J)V" } : Jvm.MethodName) prog_49_method_1_code (3 : Nat) (Option.none : Option Jvm.ClassFile.FieldType)).before args0 about1 = true := code_word (m := ⟨2, 0⟩) (meth := k2m0) (c := k2c0) (by decide +kernel) rfl rfl rfl (by decide +kernel)
set_option maxRecDepth 65536 in
theorem w_c2 : (Jvm.Cond.code ({ cls := "java/lang/Object", name := "<init>", desc := "()V" } : Jvm.MethodName) object_method_1_code (1 : Nat) (Option.none : Option Jvm.ClassFile.FieldType)).before args0 about1 = true := code_word (m := ⟨0, 0⟩) (meth := k0m0) (c := k0c0) (by decide +kernel) rfl rfl rfl (by decide +kernel)
set_option maxRecDepth 65536 in
theorem w_c3 : (Jvm.Cond.code ({ cls := "com/example/assay_shapes/assayshapes/RegexBudget", name := "spend", desc := "(J)Z" } : Jvm.MethodName) prog_49_method_6_code (3 : Nat) (Option.some Jvm.ClassFile.FieldType.boolean)).before args0 about1 = true := code_word (m := ⟨2, 5⟩) (meth := k2m5) (c := k2c5) (by decide +kernel) rfl rfl rfl (by decide +kernel)
set_option maxRecDepth 65536 in
theorem w_c4 : (Jvm.Cond.code ({ cls := "java/lang/Math", name := "max", desc := "(JJ)J" } : Jvm.MethodName) jdk_29_method_66_code (4 : Nat) (Option.some Jvm.ClassFile.FieldType.long)).before args0 about1 = true := code_word (m := ⟨3, 1⟩) (meth := k3m1) (c := k3c1) (by decide +kernel) rfl rfl rfl (by decide +kernel)
set_option maxRecDepth 65536 in
theorem w_c5 : (Jvm.Cond.code ({ cls := "com/example/assay_shapes/assayshapes/RegexBudget", name := "beginBacktracking", desc := "(I)V" } : Jvm.MethodName) prog_49_method_3_code (2 : Nat) (Option.none : Option Jvm.ClassFile.FieldType)).before args0 about1 = true := code_word (m := ⟨2, 2⟩) (meth := k2m2) (c := k2c2) (by decide +kernel) rfl rfl rfl (by decide +kernel)
set_option maxRecDepth 65536 in
theorem w_c6 : (Jvm.Cond.code ({ cls := "com/example/assay_shapes/assayshapes/RegexBudget", name := "begin", desc := "(JZ)V" } : Jvm.MethodName) prog_49_method_4_code (4 : Nat) (Option.none : Option Jvm.ClassFile.FieldType)).before args0 about1 = true := code_word (m := ⟨2, 3⟩) (meth := k2m3) (c := k2c3) (by decide +kernel) rfl rfl rfl (by decide +kernel)
set_option maxRecDepth 65536 in
theorem w_c7 : (Jvm.Cond.code ({ cls := "com/example/assay_shapes/assayshapes/RegexBudget", name := "isSpent", desc := "()Z" } : Jvm.MethodName) prog_49_method_7_code (1 : Nat) (Option.some Jvm.ClassFile.FieldType.boolean)).before args0 about1 = true := code_word (m := ⟨2, 6⟩) (meth := k2m6) (c := k2c6) (by decide +kernel) rfl rfl rfl (by decide +kernel)
set_option maxRecDepth 65536 in
theorem w_c8 : (Jvm.Cond.code ({ cls := "com/example/assay_shapes/assayshapes/RegexBudget", name := "left", desc := "()J" } : Jvm.MethodName) prog_49_method_5_code (1 : Nat) (Option.some Jvm.ClassFile.FieldType.long)).before args0 about1 = true := code_word (m := ⟨2, 4⟩) (meth := k2m4) (c := k2c4) (by decide +kernel) rfl rfl rfl (by decide +kernel)
set_option maxRecDepth 65536 in
theorem w_c9 : (Jvm.Cond.code ({ cls := "com/example/assay_shapes/assayshapes/RegexBudget", name := "beginAutomaton", desc := "(III)V" } : Jvm.MethodName) prog_49_method_2_code (6 : Nat) (Option.none : Option Jvm.ClassFile.FieldType)).before args0 about1 = true := code_word (m := ⟨2, 1⟩) (meth := k2m1) (c := k2c1) (by decide +kernel) rfl rfl rfl (by decide +kernel)
set_option maxRecDepth 65536 in
theorem w_c10 : (Jvm.Cond.code ({ cls := "java/lang/Math", name := "min", desc := "(II)I" } : Jvm.MethodName) jdk_29_method_69_code (2 : Nat) (Option.some Jvm.ClassFile.FieldType.int)).before args0 about1 = true := code_word (m := ⟨3, 2⟩) (meth := k3m2) (c := k3c2) (by decide +kernel) rfl rfl rfl (by decide +kernel)
def codes1 : List Jvm.Cond := [Jvm.Cond.code x code maxLocals ret, Jvm.Cond.code ({ cls := "com/example/assay_shapes/assayshapes/RegexBudget", name := "<init>", desc := "(J)V" } : Jvm.MethodName) prog_49_method_1_code (3 : Nat) (Option.none : Option Jvm.ClassFile.FieldType), Jvm.Cond.code ({ cls := "java/lang/Object", name := "<init>", desc := "()V" } : Jvm.MethodName) object_method_1_code (1 : Nat) (Option.none : Option Jvm.ClassFile.FieldType), Jvm.Cond.code ({ cls := "com/example/assay_shapes/assayshapes/RegexBudget", name := "spend", desc := "(J)Z" } : Jvm.MethodName) prog_49_method_6_code (3 : Nat) (Option.some Jvm.ClassFile.FieldType.boolean), Jvm.Cond.code ({ cls := "java/lang/Math", name := "max", desc := "(JJ)J" } : Jvm.MethodName) jdk_29_method_66_code (4 : Nat) (Option.some Jvm.ClassFile.FieldType.long), Jvm.Cond.code ({ cls := "com/example/assay_shapes/assayshapes/RegexBudget", name := "beginBacktracking", desc := "(I)V" } : Jvm.MethodName) prog_49_method_3_code (2 : Nat) (Option.none : Option Jvm.ClassFile.FieldType), Jvm.Cond.code ({ cls := "com/example/assay_shapes/assayshapes/RegexBudget", name := "begin", desc := "(JZ)V" } : Jvm.MethodName) prog_49_method_4_code (4 : Nat) (Option.none : Option Jvm.ClassFile.FieldType), Jvm.Cond.code ({ cls := "com/example/assay_shapes/assayshapes/RegexBudget", name := "isSpent", desc := "()Z" } : Jvm.MethodName) prog_49_method_7_code (1 : Nat) (Option.some Jvm.ClassFile.FieldType.boolean), Jvm.Cond.code ({ cls := "com/example/assay_shapes/assayshapes/RegexBudget", name := "left", desc := "()J" } : Jvm.MethodName) prog_49_method_5_code (1 : Nat) (Option.some Jvm.ClassFile.FieldType.long), Jvm.Cond.code ({ cls := "com/example/assay_shapes/assayshapes/RegexBudget", name := "beginAutomaton", desc := "(III)V" } : Jvm.MethodName) prog_49_method_2_code (6 : Nat) (Option.none : Option Jvm.ClassFile.FieldType), Jvm.Cond.code ({ cls := "java/lang/Math", name := "min", desc := "(II)I" } : Jvm.MethodName) jdk_29_method_69_code (2 : Nat) (Option.some Jvm.ClassFile.FieldType.int)]
set_option maxRecDepth 65536 in
theorem codes_eq : words1.filter isCode = codes1 := rfl
theorem w_codes : ∀ c ∈ words1.filter isCode, c.before args0 about1 = true := by
  rw [codes_eq]
  intro c hc
  simp only [codes1, List.mem_cons, List.not_mem_nil, or_false] at hc
  rcases hc with rfl | rfl | rfl | rfl | rfl | rfl | rfl | rfl | rfl | rfl | rfl
  · exact w_c0
  · exact w_c1
  · exact w_c2
  · exact w_c3
  · exact w_c4
  · exact w_c5
  · exact w_c6
  · exact w_c7
  · exact w_c8
  · exact w_c9
  · exact w_c10
set_option maxRecDepth 65536 in
theorem w_t1 : (words1.take 24).all (fun c => isCode c || c.before args0 about1) = true := by decide +kernel
set_option maxRecDepth 65536 in
theorem w_t2 : ((words1.drop 24).take 24).all (fun c => isCode c || c.before args0 about1) = true := by decide +kernel
set_option maxRecDepth 65536 in
theorem w_t3 : ((words1.drop 24).drop 24).all (fun c => isCode c || c.before args0 about1) = true := by decide +kernel
theorem w_tables : (allAtoms (Jvm.Cond.code x code maxLocals ret :: tables_1)).before args0 about1 = true := by
  rw [allAtoms_all]
  show words1.all (fun c => c.before args0 about1) = true
  refine all_split ?_ w_codes
  rw [← List.take_append_drop 24 words1, List.all_append, w_t1, ← List.take_append_drop 24 (words1.drop 24), List.all_append, w_t2, w_t3]
  rfl
set_option maxRecDepth 65536 in
theorem w_case : (Jvm.Cond.and given_1 narrow_1).before args0 about1 = true := by decide +kernel
theorem w_applies : (headSpec (Jvm.Cond.code x code maxLocals ret :: tables_1) room_1).applies x e0.platform about1 = true :=
  (Spec.applies_iff w_frames).mpr ⟨w_running, w_runnable, w_alone, w_named, w_hears, w_ripe, w_room, w_tables⟩
theorem atStart : AtStart classFile x code maxLocals ret World_1 tables_1 room_1 Calls_1 rest_1 Pre_1 launch0 p0 e0 about1 theMethod args0 below0 :=
  ⟨lists_1, trivial, launch0.admits_env _ _ _, launch0.least_env, fairChoices_fair.cas, fairChoices_fair.clock, w_frames, w_args, w_heap, w_applies, trivial, trivial, w_case⟩
end start1
theorem witness_1 : WitnessClaimed_1 := ⟨start1.p0, start1.e0, start1.about1, start1.theMethod, start1.args0, start1.below0, start1.atStart⟩
end Jvm.Pilot.@@N@@
