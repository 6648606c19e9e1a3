import JvmDerived
import JvmDerived.Pilot.@@N@@Statement
import JvmDerived.Pilot.@@N@@Code
set_option linter.unusedVariables false
set_option linter.unusedSimpArgs false
namespace Jvm.Pilot.@@N@@
open Jvm Jvm.ClassFile Sem Op Lib Jvm.Free Jvm.Stand Jvm.LawKit Jvm.RoadKit Bundle Jvm.Pilot.@@N@@.Jvm.D
section Core
variable {p : Program} {l : Launch} {e : Env} {R : Room} {s : State} {m : MethodId} {args : Array Value} {below : List Frame} {meth : Method} {c : Code} {Z : State} {n0 : Nat} {T : State} {h : Heap} {k n : Nat} {Q : Option Value → Heap → Prop} {K N : Nat} {a0 : Array Value}
/-- where a walk stands: the state T, its heap h, k cells and n slots made so far; every place that was written is new -/
def WSt (p : Program) (l : Launch) (e : Env) (R : Room) (s : State) (m : MethodId) (args : Array Value) (below : List Frame) (meth : Method) (c : Code) (Z : State) (n0 : Nat) (T : State) (h : Heap) (k n : Nat) : Prop :=
  ∃ locs, Stand p l e R s m args below meth c T locs k n ∧ T.heap = h ∧ Fr n0 locs ∧ n0 ≤ s.heap.size ∧ p.tables.exec = Jvm.exec ∧ Z.Warmed39 s.vm ∧ meth.locks = false
/-- from here the invocation returns, and what it leaves answers to Q -/
def WGo (p : Program) (e : Env) (below : List Frame) (s : State) (n0 : Nat) (Q : Option Value → Heap → Prop) (K N : Nat) (T : State) (g : JFrame) : Prop :=
  ∃ s₂ o, Steps p.tables e below (T.setTop g) s₂ ∧ s₂.status = .running ∧ Ended s₂ below o ∧ ∃ v L, o = .returned v ∧ (Q v s₂.heap ∧ Fr n0 L) ∧ FrameEnd s o s₂ L K N
/-- a body's contract at one heap and one list of arguments -/
def WCon (l : Launch) (Z : State) (n0 : Nat) (h0 : Heap) (y : MethodName) (bytes : ByteArray) (maxL : Nat) (ret : Option FieldType) (ws : List Jvm.Cond) (rm : Room) (as : Array Value) (Q : Option Value → Heap → Prop) : Prop :=
  MetFree l y (head1 (Jvm.Cond.code y bytes maxL ret :: ws) rm) (fun a U => a = as ∧ Z.Warmed39 U.vm ∧ U.heap = h0) (fun _ _ _ _ _ => True) (fun _ U o U' => ∃ v L, o = .returned v ∧ (Q v U'.heap ∧ Fr n0 L) ∧ FrameEnd U o U' L rm.cells rm.slots)

theorem WSt.here (S : WSt p l e R s m args below meth c Z n0 T h k n) : At T m c below := by obtain ⟨_, X, _⟩ := S; exact X.here
theorem WSt.eT (S : WSt p l e R s m args below meth c Z n0 T h k n) : T.heap = h := by obtain ⟨_, _, q, _⟩ := S; exact q
theorem WSt.ge (S : WSt p l e R s m args below meth c Z n0 T h k n) : n0 ≤ h.size := by
  obtain ⟨_, X, q, _, r, _⟩ := S
  have h1 : s.heap.size ≤ T.heap.size := X.same.2.1
  rw [← q]; omega
theorem WGo.st {T' : State} {g g' : JFrame} (q : ∀ t, Steps p.tables e below (T'.setTop g') t → Steps p.tables e below (T.setTop g) t) (r : WGo p e below s n0 Q K N T' g') : WGo p e below s n0 Q K N T g := by
  obtain ⟨s2, o, h1, r⟩ := r
  exact ⟨s2, o, q _ h1, r⟩
theorem WGo.cast {g g' : JFrame} (q : g = g') (r : WGo p e below s n0 Q K N T g') : WGo p e below s n0 Q K N T g := q ▸ r
theorem WCon.of {y : MethodName} {bytes : ByteArray} {maxL : Nat} {ret : Option FieldType} {ws : List Jvm.Cond} {rm : Room} {as : Array Value} {h0 : Heap} (hp : plainFor y = true) (hn0 : n0 ≤ h0.size)
    (body : ∀ (p : Program) (e : Env) (s : State) (m : MethodId) (below : List Frame) (meth : Method) (c : Code) (T : State), p.tables.exec = Jvm.exec → Z.Warmed39 s.vm → c.code = bytes → c.maxLocals = maxL → s.vm.findClass y.cls = some m.cls → meth.name = y.name → meth.sig.returnType = ret → WSt p l e rm s m as below meth c Z n0 T h0 0 0 → WGo p e below s n0 Q rm.cells rm.slots T (entryFrame m as maxL)) :
    WCon l Z n0 h0 y bytes maxL ret ws rm as Q := by
  refine MetFree.of_bodySF hp hisR ?_
  intro p e s m args below meth c s₁ Bd hml0 hP hK
  obtain ⟨rfl, hZ, hh⟩ := hP
  have X0 := Stand.of_body Bd
  exact body p e s m below meth c s₁ Bd.exec hZ Bd.bytes hml0 (findClass_of_methodNamed Bd.named) (name_of_methodNamed Bd.named Bd.method).1 Bd.returns ⟨[], X0, by rw [← hh, Bd.state]; rfl, Fr.nil _, by rw [hh]; exact hn0, Bd.exec, hZ, Bd.notSynchronized⟩
/-- the returns -/
theorem w_ret (S : WSt p l e R s m args below meth c Z n0 T h k n) {t : FieldType} {w : Value} {i : Instr} {pc : Nat} {Ls : Array Slot} {rest : List Value} (hret : meth.sig.returnType = some t) (hnw : narrow t w = w)
    (hi : (i = .ireturn ∧ (t = .int ∨ t = .boolean ∨ t = .byte ∨ t = .char ∨ t = .short) ∧ ∃ z, w = .int z) ∨ (i = .lreturn ∧ t = .long ∧ ∃ z, w = .long z) ∨ (i = .dreturn ∧ t = .double ∧ ∃ z, w = .double z) ∨ (i = .freturn ∧ t = .float ∧ ∃ z, w = .float z) ∨ (i = .areturn ∧ t.isReference = true ∧ w.isRef = true))
    (hd : decode c.code pc = .ok (i, 1)) (hk : k ≤ K) (hn : n ≤ N) (hQ : Q (some w) h) : WGo p e below s n0 Q K N T (mkF m pc Ls (w :: rest)) := by
  obtain ⟨locs, X, e1, N1, -, hx, hZ, hlk⟩ := S
  obtain ⟨fs, hr, hrun, hended, hW, hsame⟩ := X.leave (v := some w) (fun q => by rw [hret] at q; cases q) hlk
  refine ⟨_, _, retOut X hx hret hnw hi hd hr, hrun, hended, _, locs, rfl, ⟨?_, N1⟩, ⟨_, rfl⟩, hW, hsame.mono hk hn⟩
  show Q (some w) T.heap
  rw [e1]; exact hQ
theorem w_retI (S : WSt p l e R s m args below meth c Z n0 T h k n) {z : Int32} {pc : Nat} {Ls : Array Slot} {rest : List Value} (hret : meth.sig.returnType = some .int) (hd : decode c.code pc = .ok (.ireturn, 1)) (hk : k ≤ K) (hn : n ≤ N) (hQ : Q (some (.int z)) h) : WGo p e below s n0 Q K N T (mkF m pc Ls (.int z :: rest)) :=
  w_ret S hret rfl (Or.inl ⟨rfl, Or.inl rfl, _, rfl⟩) hd hk hn hQ
theorem w_retZ (S : WSt p l e R s m args below meth c Z n0 T h k n) {z : Int32} {pc : Nat} {Ls : Array Slot} {rest : List Value} (hret : meth.sig.returnType = some .boolean) (hd : decode c.code pc = .ok (.ireturn, 1)) (hz : z = 0 ∨ z = 1) (hk : k ≤ K) (hn : n ≤ N) (hQ : Q (some (.int z)) h) : WGo p e below s n0 Q K N T (mkF m pc Ls (.int z :: rest)) :=
  w_ret S hret (by rcases hz with rfl | rfl <;> rfl) (Or.inl ⟨rfl, Or.inr (Or.inl rfl), _, rfl⟩) hd hk hn hQ
theorem w_retJ (S : WSt p l e R s m args below meth c Z n0 T h k n) {z : Int64} {pc : Nat} {Ls : Array Slot} {rest : List Value} (hret : meth.sig.returnType = some .long) (hd : decode c.code pc = .ok (.lreturn, 1)) (hk : k ≤ K) (hn : n ≤ N) (hQ : Q (some (.long z)) h) : WGo p e below s n0 Q K N T (mkF m pc Ls (.long z :: rest)) :=
  w_ret S hret rfl (Or.inr (Or.inl ⟨rfl, rfl, _, rfl⟩)) hd hk hn hQ
theorem w_retA (S : WSt p l e R s m args below meth c Z n0 T h k n) {t : FieldType} {z : Addr} {pc : Nat} {Ls : Array Slot} {rest : List Value} (hret : meth.sig.returnType = some t) (ht : t.isReference = true) (hnw : narrow t (.ref z) = .ref z) (hd : decode c.code pc = .ok (.areturn, 1)) (hk : k ≤ K) (hn : n ≤ N) (hQ : Q (some (.ref z)) h) : WGo p e below s n0 Q K N T (mkF m pc Ls (.ref z :: rest)) :=
  w_ret S hret hnw (Or.inr (Or.inr (Or.inr (Or.inr ⟨rfl, ht, rfl⟩)))) hd hk hn hQ
theorem w_retV (S : WSt p l e R s m args below meth c Z n0 T h k n) {pc : Nat} {Ls : Array Slot} (hret : meth.sig.returnType = none) (hd : decode c.code pc = .ok (.return_, 1)) (hk : k ≤ K) (hn : n ≤ N) (hQ : Q none h) : WGo p e below s n0 Q K N T (mkF m pc Ls []) := by
  obtain ⟨locs, X, e1, N1, -, hx, hZ, hlk⟩ := S
  obtain ⟨fs, hr, hrun, hended, hW, hsame⟩ := X.leave (v := none) (fun _ => rfl) hlk
  refine ⟨_, _, X.returnOut hx hret hd hr, hrun, hended, _, locs, rfl, ⟨?_, N1⟩, ⟨_, rfl⟩, hW, hsame.mono hk hn⟩
  show Q none T.heap
  rw [e1]; exact hQ
/-- constants, remainder -/
theorem w_ldc (S : WSt p l e R s m args below meth c Z n0 T h k n) {own : String} {index : Nat} {v : Int32} (hown : s.vm.findClass own = some m.cls) (w : (Jvm.Cond.constant own index v).before a0 Z = true) {g : JFrame} (hg : g.method = m) (hd : decode c.code g.pc = .ok (.ldc index, 2))
    (r : WGo p e below s n0 Q K N T { g with pc := g.pc + 2, stack := .int v :: g.stack }) : WGo p e below s n0 Q K N T g := by
  obtain ⟨locs, X, e1, N1, -, hx, hZ, hlk⟩ := S
  exact WGo.st (X.ldcInt hx hown (mvT hZ w) hg hd) r
theorem w_ldc2 (S : WSt p l e R s m args below meth c Z n0 T h k n) {own : String} {index : Nat} {v : Int64} (hown : s.vm.findClass own = some m.cls) (w : (Jvm.Cond.constantLong own index v).before a0 Z = true) {g : JFrame} (hg : g.method = m) (hd : decode c.code g.pc = .ok (.ldc2_w index, 3))
    (r : WGo p e below s n0 Q K N T { g with pc := g.pc + 3, stack := .long v :: g.stack }) : WGo p e below s n0 Q K N T g := by
  obtain ⟨locs, X, e1, N1, -, hx, hZ, hlk⟩ := S
  exact WGo.st (X.ldc2Long hx hown (mvT hZ w) hg hd) r
theorem w_irem (S : WSt p l e R s m args below meth c Z n0 T h k n) {g : JFrame} (hg : g.method = m) {x y : Int32} {rest : List Value} (hd : decode c.code g.pc = .ok (.irem, 1)) (hs : g.stack = .int y :: .int x :: rest) (hy : y ≠ 0)
    (r : WGo p e below s n0 Q K N T { g with pc := g.pc + 1, stack := .int (x % y) :: rest }) : WGo p e below s n0 Q K N T g := by
  obtain ⟨locs, X, e1, N1, -, hx, hZ, hlk⟩ := S
  exact WGo.st (fun _ q => iremM X hx hg hd hs hy q) r
/-- arrays of ints, bytes, booleans, chars: the values in order -/
def AI (Z : State) (h : Heap) (a : Addr) (ty : FieldType) (L : List Int32) : Prop := ∃ cl : Cell, Arr Z h a cl ty ∧ cl.slots = (L.map Value.int).toArray
def gi (L : List Int32) (j : Int32) : Int32 := L.getD j.toNatClampNeg 0
def si (L : List Int32) (j : Int32) (v : Int32) : List Int32 := L.set j.toNatClampNeg v
variable {a b : Addr} {ty : FieldType} {L : List Int32} {h' : Heap} {ws : List Addr}
theorem AI.lt (A : AI Z h a ty L) : a < h.size := by obtain ⟨cl, A, -⟩ := A; exact A.lt
theorem AI.keep (A : AI Z h a ty L) (K : Keep h h' ws) (q : a ∉ ws) : AI Z h' a ty L := by obtain ⟨cl, A, r⟩ := A; exact ⟨cl, ⟨K.2.1 a cl A.1 q, A.2⟩, r⟩
theorem ai_size {cl : Cell} (r : cl.slots = (L.map Value.int).toArray) : cl.slots.size = L.length := by rw [r]; simp
theorem ai_in {cl : Cell} {j : Int32} (r : cl.slots = (L.map Value.int).toArray) (h0 : 0 ≤ j.toInt) (h1 : j.toInt < L.length) : ¬ (j < 0 ∨ cl.slots.size ≤ j.toNatClampNeg) := by
  rw [ai_size r]
  have : (0 : Int32).toInt = 0 := rfl
  simp only [Int32.lt_iff_toInt_lt, Int32.toNatClampNeg]; omega
theorem ai_at {cl : Cell} {j : Int32} (r : cl.slots = (L.map Value.int).toArray) (h0 : 0 ≤ j.toInt) (h1 : j.toInt < L.length) : cl.slots[j.toNatClampNeg]? = some (.int (gi L j)) := by
  have q : j.toNatClampNeg < L.length := by simp only [Int32.toNatClampNeg]; omega
  rw [r]
  simp [gi, q]
theorem keep_ext {h h' : Heap} (E : Ext h h') (ws : List Addr) : Keep h h' ws := (Keep.refl h ws).ext E
theorem ai_new {cl : ClassId} {ty : FieldType} {j : Int32} (hty : defaultValue ty = .int 0) : (newA cl ty j).slots = ((List.replicate j.toNatClampNeg (0 : Int32)).map Value.int).toArray := by
  simp [newA, hty]
theorem w_newarray (S : WSt p l e R s m args below meth c Z n0 T h k n) {aty : ArrayType} (w : (Jvm.Cond.arrayClass (newarray.typeOf aty)).before a0 Z = true) (hty : defaultValue (newarray.typeOf aty) = .int 0) {g : JFrame} (hg : g.method = m) (hd : decode c.code g.pc = .ok (.newarray aty, 2)) {j : Int32} {rest : List Value} (hs : g.stack = .int j :: rest)
    (hj : ¬ j < 0) {cap : Nat} (hcap : j.toNatClampNeg ≤ cap) (hb : cap * 8 ≤ 536870912) (hc : k + 1 ≤ R.cells) (hl : n + cap ≤ R.slots) {L : List Int32} (hL : List.replicate j.toNatClampNeg 0 = L)
    (r : ∀ T' h' a', WSt p l e R s m args below meth c Z n0 T' h' (k + 1) (n + cap) → Keep h h' [] → a' = h.size → n0 ≤ a' → AI Z h' a' (newarray.typeOf aty) L → WGo p e below s n0 Q K N T' { g with pc := g.pc + 2, stack := .ref a' :: rest }) : WGo p e below s n0 Q K N T g := by
  have hge := S.ge
  obtain ⟨locs, X, e1, N1, n1, hx, hZ, hlk⟩ := S
  obtain ⟨T', h', cA, X', e', E', A', st⟩ := newP X hx hZ w e1 hg hd hs hj hcap hb hc hl
  exact WGo.st st (r T' h' _ ⟨locs, X', e', N1, n1, hx, hZ, hlk⟩ (keep_ext E' _) rfl hge ⟨_, A', by rw [ai_new hty, hL]⟩)
theorem w_iaload (S : WSt p l e R s m args below meth c Z n0 T h k n) (A : AI Z h a .int L) {g : JFrame} (hg : g.method = m) (hd : decode c.code g.pc = .ok (.iaload, 1)) {j : Int32} {rest : List Value} (hs : g.stack = .int j :: .ref a :: rest) (h0 : 0 ≤ j.toInt) (h1 : j.toInt < L.length) {v : Int32} (hv : gi L j = v)
    (r : WGo p e below s n0 Q K N T { g with pc := g.pc + 1, stack := .int v :: rest }) : WGo p e below s n0 Q K N T g := by
  subst hv
  obtain ⟨locs, X, e1, N1, n1, hx, hZ, hlk⟩ := S
  obtain ⟨cl, A, q⟩ := A
  exact WGo.st (fun t u => X.iaload hx (j := j) (v := .int (gi L j)) (by rw [e1]; exact A.1) (State.isArrayOf_alike hZ.alike A.2.1) A.2.2 (ai_in q h0 h1) (ai_at q h0 h1) hg hs hd t u) r
theorem w_caload (S : WSt p l e R s m args below meth c Z n0 T h k n) (A : AI Z h a .char L) {g : JFrame} (hg : g.method = m) (hd : decode c.code g.pc = .ok (.caload, 1)) {j : Int32} {rest : List Value} (hs : g.stack = .int j :: .ref a :: rest) (h0 : 0 ≤ j.toInt) (h1 : j.toInt < L.length) {v : Int32} (hv : gi L j = v)
    (r : WGo p e below s n0 Q K N T { g with pc := g.pc + 1, stack := .int v :: rest }) : WGo p e below s n0 Q K N T g := by
  subst hv
  obtain ⟨locs, X, e1, N1, n1, hx, hZ, hlk⟩ := S
  obtain ⟨cl, A, q⟩ := A
  exact WGo.st (fun t u => X.caload hx (j := j) (v := .int (gi L j)) (by rw [e1]; exact A.1) (State.isArrayOf_alike hZ.alike A.2.1) A.2.2 (ai_in q h0 h1) (ai_at q h0 h1) hg hs hd t u) r
theorem w_baload (S : WSt p l e R s m args below meth c Z n0 T h k n) (A : AI Z h a .byte L) {g : JFrame} (hg : g.method = m) (hd : decode c.code g.pc = .ok (.baload, 1)) {j : Int32} {rest : List Value} (hs : g.stack = .int j :: .ref a :: rest) (h0 : 0 ≤ j.toInt) (h1 : j.toInt < L.length) {v : Int32} (hv : gi L j = v)
    (r : WGo p e below s n0 Q K N T { g with pc := g.pc + 1, stack := .int v :: rest }) : WGo p e below s n0 Q K N T g := by
  subst hv
  obtain ⟨locs, X, e1, N1, n1, hx, hZ, hlk⟩ := S
  obtain ⟨cl, A, q⟩ := A
  exact WGo.st (fun t u => X.baloadBytes hx (j := j) (v := .int (gi L j)) (by rw [e1]; exact A.1) (State.isArrayOf_alike hZ.alike A.2.1) A.2.2 (ai_in q h0 h1) (ai_at q h0 h1) hg hs hd t u) r
theorem w_zaload (S : WSt p l e R s m args below meth c Z n0 T h k n) (A : AI Z h a .boolean L) {g : JFrame} (hg : g.method = m) (hd : decode c.code g.pc = .ok (.baload, 1)) {j : Int32} {rest : List Value} (hs : g.stack = .int j :: .ref a :: rest) (h0 : 0 ≤ j.toInt) (h1 : j.toInt < L.length) {v : Int32} (hv : gi L j = v)
    (r : WGo p e below s n0 Q K N T { g with pc := g.pc + 1, stack := .int v :: rest }) : WGo p e below s n0 Q K N T g := by
  subst hv
  obtain ⟨locs, X, e1, N1, n1, hx, hZ, hlk⟩ := S
  obtain ⟨cl, A, q⟩ := A
  exact WGo.st (fun t u => X.baloadBooleans hx (j := j) (v := .int (gi L j)) (by rw [e1]; exact A.1) (State.isArrayOf_alike hZ.alike A.2.1) A.2.2 (ai_in q h0 h1) (ai_at q h0 h1) hg hs hd t u) r
theorem w_arraylength (S : WSt p l e R s m args below meth c Z n0 T h k n) (A : AI Z h a ty L) {g : JFrame} (hg : g.method = m) (hd : decode c.code g.pc = .ok (.arraylength, 1)) {rest : List Value} (hs : g.stack = .ref a :: rest) {z : Int32} (hz : L.length.toInt32 = z)
    (r : WGo p e below s n0 Q K N T { g with pc := g.pc + 1, stack := .int z :: rest }) : WGo p e below s n0 Q K N T g := by
  obtain ⟨locs, X, e1, N1, n1, hx, hZ, hlk⟩ := S
  obtain ⟨cl, A, q⟩ := A
  subst hz
  exact WGo.st (fun t u => X.arraylength hx (by rw [e1]; exact A.1) (State.isArrayOf_alike hZ.alike A.2.1) hg hs hd t (by rw [ai_size q]; exact u)) r
theorem ai_set {cl : Cell} {j x : Int32} (r : cl.slots = (L.map Value.int).toArray) : (cl.setSlot j.toNatClampNeg (.int x)).slots = ((si L j x).map Value.int).toArray := by
  simp [Cell.setSlot, r, si]
theorem w_iastore (S : WSt p l e R s m args below meth c Z n0 T h k n) (A : AI Z h a .int L) (ga : n0 ≤ a) {g : JFrame} (hg : g.method = m) (hd : decode c.code g.pc = .ok (.iastore, 1)) {j x : Int32} {rest : List Value} (hs : g.stack = .int x :: .int j :: .ref a :: rest) (h0 : 0 ≤ j.toInt) (h1 : j.toInt < L.length) {L' : List Int32} (hL : si L j x = L')
    (r : ∀ T' h', WSt p l e R s m args below meth c Z n0 T' h' k n → Keep h h' [a] → AI Z h' a .int L' → WGo p e below s n0 Q K N T' { g with pc := g.pc + 1, stack := rest }) : WGo p e below s n0 Q K N T g := by
  obtain ⟨locs, X, e1, N1, n1, hx, hZ, hlk⟩ := S
  obtain ⟨cl, A, q⟩ := A
  obtain ⟨T', h', X', e', W', st⟩ := stI X hx hZ e1 A (ai_in q h0 h1) hg hs hd
  exact WGo.st st (r T' h' ⟨_, X', e', Fr.snoc X' N1 ga, n1, hx, hZ, hlk⟩ (Keep.of_wr W') ⟨_, A.same W', by rw [ai_set q, hL]⟩)
theorem w_bastore (S : WSt p l e R s m args below meth c Z n0 T h k n) (A : AI Z h a .byte L) (ga : n0 ≤ a) {g : JFrame} (hg : g.method = m) (hd : decode c.code g.pc = .ok (.bastore, 1)) {j x : Int32} {rest : List Value} (hs : g.stack = .int x :: .int j :: .ref a :: rest) (h0 : 0 ≤ j.toInt) (h1 : j.toInt < L.length) {L' : List Int32} (hL : si L j x.toInt8.toInt32 = L')
    (r : ∀ T' h', WSt p l e R s m args below meth c Z n0 T' h' k n → Keep h h' [a] → AI Z h' a .byte L' → WGo p e below s n0 Q K N T' { g with pc := g.pc + 1, stack := rest }) : WGo p e below s n0 Q K N T g := by
  obtain ⟨locs, X, e1, N1, n1, hx, hZ, hlk⟩ := S
  obtain ⟨cl, A, q⟩ := A
  obtain ⟨T', h', X', e', W', st⟩ := stB X hx hZ e1 A (ai_in q h0 h1) hg hs hd
  exact WGo.st st (r T' h' ⟨_, X', e', Fr.snoc X' N1 ga, n1, hx, hZ, hlk⟩ (Keep.of_wr W') ⟨_, A.same W', by rw [ai_set q]; exact hL ▸ rfl⟩)
theorem w_zastore (S : WSt p l e R s m args below meth c Z n0 T h k n) (A : AI Z h a .boolean L) (ga : n0 ≤ a) {g : JFrame} (hg : g.method = m) (hd : decode c.code g.pc = .ok (.bastore, 1)) {j x : Int32} {rest : List Value} (hs : g.stack = .int x :: .int j :: .ref a :: rest) (h0 : 0 ≤ j.toInt) (h1 : j.toInt < L.length) (hb : x = 0 ∨ x = 1) {L' : List Int32} (hL : si L j x = L')
    (r : ∀ T' h', WSt p l e R s m args below meth c Z n0 T' h' k n → Keep h h' [a] → AI Z h' a .boolean L' → WGo p e below s n0 Q K N T' { g with pc := g.pc + 1, stack := rest }) : WGo p e below s n0 Q K N T g := by
  obtain ⟨locs, X, e1, N1, n1, hx, hZ, hlk⟩ := S
  obtain ⟨cl, A, q⟩ := A
  obtain ⟨T', h', X', e', W', st⟩ := stZ X hx hZ e1 A (ai_in q h0 h1) hg hs hd
  have hx1 : nar .boolean x = x := by rcases hb with rfl | rfl <;> rfl
  rw [hx1] at W'
  exact WGo.st st (r T' h' ⟨_, X', e', Fr.snoc X' N1 ga, n1, hx, hZ, hlk⟩ (Keep.of_wr W') ⟨_, A.same W', by rw [ai_set q, hL]⟩)
/-- calls by contract -/
theorem w_static (S : WSt p l e R s m args below meth c Z n0 T h k n) {own : String} {index : Nat} {y : MethodName} {bytes : ByteArray} {maxL : Nat} {ret : Option FieldType} (hown : s.vm.findClass own = some m.cls) (w1 : (Jvm.Cond.methodLink own index y).before a0 Z = true) (w2 : (Jvm.Cond.static y).before a0 Z = true) (w3 : (Jvm.Cond.initialized y.cls).before a0 Z = true) (w4 : (Jvm.Cond.code y bytes maxL ret).before a0 Z = true) (hy : y.cls ≠ "java/lang/invoke/MethodHandle" ∧ y.cls ≠ "java/lang/invoke/VarHandle")
    {rm : Room} {as : Array Value} {Qc : Option Value → Heap → Prop} (C : WCon l Z n0 h y bytes maxL ret [] rm as Qc) {W : Nat} (hf : rm.frames + 1 ≤ R.frames) (hl : W + (maxL + 11) + rm.locals ≤ R.locals) (hc : k + rm.cells ≤ R.cells) (hs : n + rm.slots ≤ R.slots)
    {g : JFrame} (hg : g.method = m) (hsize : g.locals.size = c.maxLocals) {argsL rest : List Value} {ps : List FieldType} {rt : Option FieldType} (hpd : parseMethodDescriptor y.desc = some ⟨ps, rt⟩) (hlen : argsL.length = ps.length) (hstack : g.stack = argsL.reverse ++ rest) (has : argsL.toArray = as) (hW : 2 * g.monitorRoom + (rest.map fun v => v.category).sum ≤ W) (hd : decode c.code g.pc = .ok (.invokestatic index, 3))
    (r : ∀ T' h' v, WSt p l e R s m args below meth c Z n0 T' h' (k + rm.cells) (n + rm.slots) → Qc v h' → WGo p e below s n0 Q K N T' { g with pc := g.pc + 3, stack := v.toList ++ rest }) : WGo p e below s n0 Q K N T g := by
  obtain ⟨locs, X, e1, N1, n1, hx, hZ, hlk⟩ := S
  have B := backOf (W := W) (s := s) (args := args) (R := R) (p := p) (e := e) (below := below) (len := 3) (a0 := a0) (Q := fun v h L => Qc v h ∧ Fr n0 L) C hZ w4 w3 hf hl
  obtain ⟨v, vm1, ⟨T1, L1, k1, m1⟩, -, X1, ⟨Lc, hQ, l1, y1, z1⟩, st⟩ := Jvm.LawKit.callS X hx (y := y) hown (mvT hZ w1) (mvT hZ w2) (mvT hZ w3) (mvT hZ w4) hy B hg hsize (lenOf hpd hlen) hstack hW hd (fun _ _ => ⟨has, e1, hc, hs⟩)
  dsimp only [Pt.U, Pt.locs, Pt.cells, Pt.slots] at X1 l1 y1 z1 st hQ
  subst l1 y1 z1
  exact WGo.st st (r _ _ v ⟨_, X1, rfl, Fr.app N1 hQ.2, n1, hx, hZ, hlk⟩ hQ.1)
theorem w_special (S : WSt p l e R s m args below meth c Z n0 T h k n) {own : String} {index : Nat} {y : MethodName} {bytes : ByteArray} {maxL : Nat} (hyn : y.name = "<init>") (hown : s.vm.findClass own = some m.cls) (w1 : (Jvm.Cond.methodLink own index y).before a0 Z = true) (w2 : (Jvm.Cond.instanceMethod y).before a0 Z = true) (w3 : (Jvm.Cond.initialized y.cls).before a0 Z = true) (w4 : (Jvm.Cond.code y bytes maxL none).before a0 Z = true) (hy : y.cls ≠ "java/lang/invoke/MethodHandle" ∧ y.cls ≠ "java/lang/invoke/VarHandle")
    {rm : Room} {as : Array Value} {Qc : Option Value → Heap → Prop} (C : WCon l Z n0 h y bytes maxL none [] rm as Qc) {W : Nat} (hf : rm.frames + 1 ≤ R.frames) (hl : W + (maxL + 11) + rm.locals ≤ R.locals) (hc : k + rm.cells ≤ R.cells) (hs : n + rm.slots ≤ R.slots)
    {g : JFrame} (hg : g.method = m) (hsize : g.locals.size = c.maxLocals) {argsL rest : List Value} {ps : List FieldType} {rt : Option FieldType} (hpd : parseMethodDescriptor y.desc = some ⟨ps, rt⟩) (hlen : argsL.length = ps.length) (hstack : g.stack = argsL.reverse ++ .ref a :: rest) (has : (Value.ref a :: argsL).toArray = as) (hW : 2 * g.monitorRoom + (rest.map fun v => v.category).sum ≤ W) (hd : decode c.code g.pc = .ok (.invokespecial index, 3))
    (r : ∀ T' h' v, WSt p l e R s m args below meth c Z n0 T' h' (k + rm.cells) (n + rm.slots) → Qc v h' → WGo p e below s n0 Q K N T' { g with pc := g.pc + 3, stack := v.toList ++ rest }) : WGo p e below s n0 Q K N T g := by
  obtain ⟨locs, X, e1, N1, n1, hx, hZ, hlk⟩ := S
  have B := backOf (W := W) (s := s) (args := args) (R := R) (p := p) (e := e) (below := below) (len := 3) (a0 := a0) (Q := fun v h L => Qc v h ∧ Fr n0 L) C hZ w4 w3 hf hl
  obtain ⟨v, vm1, ⟨T1, L1, k1, m1⟩, -, X1, ⟨Lc, hQ, l1, y1, z1⟩, st⟩ := X.specialBack hx (y := y) hyn hown (mvT hZ w1) (mvT hZ w2) (mvT hZ w4) hy B hg hsize (Steps.refl _) (lenOf hpd hlen) hstack hW hd (fun _ _ => ⟨has, e1, hc, hs⟩)
  dsimp only [Pt.U, Pt.locs, Pt.cells, Pt.slots] at X1 l1 y1 z1 st hQ
  subst l1 y1 z1
  exact WGo.st (fun _ q => st.trans q) (r _ _ v ⟨_, X1, rfl, Fr.app N1 hQ.2, n1, hx, hZ, hlk⟩ hQ.1)
theorem w_virtual (S : WSt p l e R s m args below meth c Z n0 T h k n) {own C : String} {index : Nat} {y : MethodName} {bytes : ByteArray} {maxL : Nat} {ret : Option FieldType} (hown : s.vm.findClass own = some m.cls) (w1 : (Jvm.Cond.methodLink own index y).before a0 Z = true) (w2 : (Jvm.Cond.declares y).before a0 Z = true) (w5 : (Jvm.Cond.selects C y y).before a0 Z = true) (w6 : (Jvm.Cond.instanceMethod y).before a0 Z = true) (w3 : (Jvm.Cond.initialized y.cls).before a0 Z = true) (w4 : (Jvm.Cond.code y bytes maxL ret).before a0 Z = true) (hy : y.cls ≠ "java/lang/invoke/MethodHandle" ∧ y.cls ≠ "java/lang/invoke/VarHandle") (E : Exa Z h a C)
    {rm : Room} {as : Array Value} {Qc : Option Value → Heap → Prop} (Cn : WCon l Z n0 h y bytes maxL ret [] rm as Qc) {W : Nat} (hf : rm.frames + 1 ≤ R.frames) (hl : W + (maxL + 11) + rm.locals ≤ R.locals) (hc : k + rm.cells ≤ R.cells) (hs : n + rm.slots ≤ R.slots)
    {g : JFrame} (hg : g.method = m) (hsize : g.locals.size = c.maxLocals) {argsL rest : List Value} {ps : List FieldType} {rt : Option FieldType} (hpd : parseMethodDescriptor y.desc = some ⟨ps, rt⟩) (hlen : argsL.length = ps.length) (hstack : g.stack = argsL.reverse ++ .ref a :: rest) (has : (Value.ref a :: argsL).toArray = as) (hW : 2 * g.monitorRoom + (rest.map fun v => v.category).sum ≤ W) (hd : decode c.code g.pc = .ok (.invokevirtual index, 3))
    (r : ∀ T' h' v, WSt p l e R s m args below meth c Z n0 T' h' (k + rm.cells) (n + rm.slots) → Qc v h' → WGo p e below s n0 Q K N T' { g with pc := g.pc + 3, stack := v.toList ++ rest }) : WGo p e below s n0 Q K N T g := by
  obtain ⟨locs, X, e1, N1, n1, hx, hZ, hlk⟩ := S
  have B := backOf (W := W) (s := s) (args := args) (R := R) (p := p) (e := e) (below := below) (len := 3) (a0 := a0) (Q := fun v h L => Qc v h ∧ Fr n0 L) Cn hZ w4 w3 hf hl
  obtain ⟨cq, kq, qa, qb, qc⟩ := isOf hZ e1 E
  obtain ⟨v, vm1, ⟨T1, L1, k1, m1⟩, -, X1, ⟨Lc, hQ, l1, y1, z1⟩, st⟩ := X.virtualBack hx (y := y) (z := y) hown (mvT hZ w1) (mvT hZ w2) (notFace_of_selects (args := #[]) (mvT hZ w5)) (mvT hZ w5) (mvT hZ w6) hy B qa qc hg hsize (Steps.refl _) (lenOf hpd hlen) hstack hW hd (fun _ _ => ⟨has, e1, hc, hs⟩)
  dsimp only [Pt.U, Pt.locs, Pt.cells, Pt.slots] at X1 l1 y1 z1 st hQ
  subst l1 y1 z1
  exact WGo.st (fun _ q => st.trans q) (r _ _ v ⟨_, X1, rfl, Fr.app N1 hQ.2, n1, hx, hZ, hlk⟩ hQ.1)
theorem w_private (S : WSt p l e R s m args below meth c Z n0 T h k n) {own C : String} {index : Nat} {y z : MethodName} {bytes : ByteArray} {maxL : Nat} {ret : Option FieldType} (hown : s.vm.findClass own = some m.cls) (w1 : (Jvm.Cond.methodLink own index y).before a0 Z = true) (w6 : (Jvm.Cond.instanceMethod y).before a0 Z = true) (w7 : (Jvm.Cond.privateMethod y).before a0 Z = true) (w3 : (Jvm.Cond.initialized y.cls).before a0 Z = true) (w4 : (Jvm.Cond.code y bytes maxL ret).before a0 Z = true) (w5 : (Jvm.Cond.selects z.cls z z).before a0 Z = true) (hzy : z.cls = y.cls) (hy : y.cls ≠ "java/lang/invoke/MethodHandle" ∧ y.cls ≠ "java/lang/invoke/VarHandle") (E : Exa Z h a C)
    {rm : Room} {as : Array Value} {Qc : Option Value → Heap → Prop} (Cn : WCon l Z n0 h y bytes maxL ret [] rm as Qc) {W : Nat} (hf : rm.frames + 1 ≤ R.frames) (hl : W + (maxL + 11) + rm.locals ≤ R.locals) (hc : k + rm.cells ≤ R.cells) (hs : n + rm.slots ≤ R.slots)
    {g : JFrame} (hg : g.method = m) (hsize : g.locals.size = c.maxLocals) {argsL rest : List Value} {ps : List FieldType} {rt : Option FieldType} (hpd : parseMethodDescriptor y.desc = some ⟨ps, rt⟩) (hlen : argsL.length = ps.length) (hstack : g.stack = argsL.reverse ++ .ref a :: rest) (has : (Value.ref a :: argsL).toArray = as) (hW : 2 * g.monitorRoom + (rest.map fun v => v.category).sum ≤ W) (hd : decode c.code g.pc = .ok (.invokevirtual index, 3))
    (r : ∀ T' h' v, WSt p l e R s m args below meth c Z n0 T' h' (k + rm.cells) (n + rm.slots) → Qc v h' → WGo p e below s n0 Q K N T' { g with pc := g.pc + 3, stack := v.toList ++ rest }) : WGo p e below s n0 Q K N T g := by
  obtain ⟨locs, X, e1, N1, n1, hx, hZ, hlk⟩ := S
  have B := backOf (W := W) (s := s) (args := args) (R := R) (p := p) (e := e) (below := below) (len := 3) (a0 := a0) (Q := fun v h L => Qc v h ∧ Fr n0 L) Cn hZ w4 w3 hf hl
  have hpriv := Cond.privateMethod_at (mvP hZ w7 (args := #[]))
  have hsel : (Jvm.Cond.selects y.cls y y).before args s = true := by
    have q5 : (Jvm.Cond.selects z.cls z z).before args s = true := mvT hZ w5
    obtain ⟨c2, r2, m2, -, -, q3, -, kP, hkP, hkPi⟩ := Cond.selects_spec q5
    have hfc := findClass_of_methodNamed q3
    rw [hzy] at hfc
    exact selects_self_of_private hfc hkP hkPi hpriv (mvT hZ w6) hy
  obtain ⟨cq, q1, q2⟩ := E.cell
  obtain ⟨v, vm1, ⟨T1, L1, k1, m1⟩, -, X1, ⟨Lc, hQ, l1, y1, z1⟩, st⟩ := X.privateBack hx (y := y) hown (mvT hZ w1) (mvT hZ w6) hsel hpriv (mvT hZ w4) hy B hg hsize (Steps.refl _) (a := a) (by rw [e1]; exact q1) q2 (lenOf hpd hlen) hstack hW hd (fun _ _ => ⟨has, e1, hc, hs⟩)
  dsimp only [Pt.U, Pt.locs, Pt.cells, Pt.slots] at X1 l1 y1 z1 st hQ
  subst l1 y1 z1
  exact WGo.st (fun _ q => st.trans q) (r _ _ v ⟨_, X1, rfl, Fr.app N1 hQ.2, n1, hx, hZ, hlk⟩ hQ.1)
/-- objects -/
theorem w_objinit (S : WSt p l e R s m args below meth c Z n0 T h k n) {own : String} {idx : Nat} (hown : s.vm.findClass own = some m.cls) (w1 : (Jvm.Cond.methodLink own idx Lib.objectInit).before a0 Z = true) (w2 : (Jvm.Cond.instanceMethod Lib.objectInit).before a0 Z = true) (w3 : (Jvm.Cond.code Lib.objectInit ⟨#[0xb1]⟩ 1 none).before a0 Z = true)
    {g : JFrame} (hg : g.method = m) (hsize : g.locals.size = c.maxLocals) {rest : List Value} (hs : g.stack = .ref a :: rest) (hd : decode c.code g.pc = .ok (.invokespecial idx, 3)) (hf : 1 ≤ R.frames) {W : Nat} (hW : 2 * g.monitorRoom + (rest.map fun v => v.category).sum ≤ W) (hl : W + 12 ≤ R.locals)
    (r : ∀ T', WSt p l e R s m args below meth c Z n0 T' h k n → WGo p e below s n0 Q K N T' { g with pc := g.pc + 3, stack := rest }) : WGo p e below s n0 Q K N T g := by
  obtain ⟨locs, X, e1, N1, n1, hx, hZ, hlk⟩ := S
  obtain ⟨T', X', e', st⟩ := initO X hx hZ hown w1 w2 w3 e1 hg hsize hs hd hf hW hl
  exact WGo.st st (r T' ⟨locs, X', e', N1, n1, hx, hZ, hlk⟩)
theorem w_new (S : WSt p l e R s m args below meth c Z n0 T h k n) {own C : String} {index nn : Nat} (hown : s.vm.findClass own = some m.cls) (w : (Jvm.Cond.classLink own index C).before a0 Z = true) (wi : (Jvm.Cond.instantiable C nn).before a0 Z = true) (wz : (Jvm.Cond.initialized C).before a0 Z = true)
    {g : JFrame} (hg : g.method = m) (hd : decode c.code g.pc = .ok (.new index, 3)) (hc : k + 1 ≤ R.cells) (hl : n + nn ≤ R.slots)
    (r : ∀ T' h' a', WSt p l e R s m args below meth c Z n0 T' h' (k + 1) (n + nn) → Keep h h' [] → a' = h.size → n0 ≤ a' → Exa Z h' a' C → (∀ {O nm d : String} {ty : FieldType}, Laid Z a0 C O nm d → parseFieldDescriptor d = some ty → Fld Z h' a' O nm d (defaultValue ty)) → WGo p e below s n0 Q K N T' { g with pc := g.pc + 3, stack := .ref a' :: g.stack }) : WGo p e below s n0 Q K N T g := by
  have hge := S.ge
  obtain ⟨locs, X, e1, N1, n1, hx, hZ, hlk⟩ := S
  obtain ⟨T', h', X', e', E', A', D', -, st⟩ := newO X hx hZ hown w wi wz e1 hg hd hc hl
  exact WGo.st st (r T' h' _ ⟨locs, X', e', N1, n1, hx, hZ, hlk⟩ (keep_ext E' _) rfl hge A' D')
theorem w_getfield (S : WSt p l e R s m args below meth c Z n0 T h k n) {own R0 O f d : String} {index : Nat} (hown : s.vm.findClass own = some m.cls) (w : (Jvm.Cond.fieldLink own index R0 f d).before a0 Z = true) (via : Via Z R0 O f d) {v : Value} (F : Fld Z h a O f d v) {g : JFrame} (hg : g.method = m) {rest : List Value} (hs : g.stack = .ref a :: rest) (hd : decode c.code g.pc = .ok (.getfield index, 3))
    (r : ∀ T', WSt p l e R s m args below meth c Z n0 T' h k n → WGo p e below s n0 Q K N T' { g with pc := g.pc + 3, stack := v :: rest }) : WGo p e below s n0 Q K N T g := by
  obtain ⟨locs, X, e1, N1, n1, hx, hZ, hlk⟩ := S
  obtain ⟨T', X', e', st⟩ := getF X hx hZ hown (host := "") (Or.inl w) via e1 F hg hs hd
  exact WGo.st st (r T' ⟨locs, X', e', N1, n1, hx, hZ, hlk⟩)
theorem w_putfield (S : WSt p l e R s m args below meth c Z n0 T h k n) {own R0 O f d C : String} {index kk : Nat} {ty : FieldType} (hown : s.vm.findClass own = some m.cls) (w : (Jvm.Cond.fieldLink own index R0 f d).before a0 Z = true) (via : Via Z R0 O f d) {v old : Value} (F : Fld Z h a O f d old) (E : Exa Z h a C)
    (L : (Jvm.Cond.lays C O f d).before a0 Z = true ∨ ((Jvm.Cond.laysFinal C O f d).before a0 Z = true ∧ own = O ∧ meth.name = "<init>")) (wi : (Jvm.Cond.instantiable C kk).before a0 Z = true) (ga : n0 ≤ a)
    (hty : parseFieldDescriptor d = some ty) (hn : narrow ty v = v) (hf : fits ty v = true) {g : JFrame} (hg : g.method = m) {rest : List Value} (hs : g.stack = v :: .ref a :: rest) (hd : decode c.code g.pc = .ok (.putfield index, 3))
    (r : ∀ T' h', WSt p l e R s m args below meth c Z n0 T' h' k n → Wr h h' a (Jvm.RoadKit.slotOf Z O f d) v → Keep h h' [a] → WGo p e below s n0 Q K N T' { g with pc := g.pc + 3, stack := rest }) : WGo p e below s n0 Q K N T g := by
  obtain ⟨locs, X, e1, N1, n1, hx, hZ, hlk⟩ := S
  obtain ⟨T', h', X', e', W', st⟩ := putF X hx hZ hown (host := "") (Or.inl w) via e1 F E L wi hty hn hf hg hs hd
  exact WGo.st st (r T' h' ⟨_, X', e', Fr.snoc X' N1 ga, n1, hx, hZ, hlk⟩ W' (Keep.of_wr W'))
theorem w_getstatic (S : WSt p l e R s m args below meth c Z n0 T h k n) {own R0 O f d : String} {index : Nat} (hown : s.vm.findClass own = some m.cls) (w : (Jvm.Cond.fieldLink own index R0 f d).before a0 Z = true) (via : Via Z R0 O f d) {v : Value} (F : Sta Z h O f d v) {g : JFrame} (hg : g.method = m) (hd : decode c.code g.pc = .ok (.getstatic index, 3))
    (r : ∀ T', WSt p l e R s m args below meth c Z n0 T' h k n → WGo p e below s n0 Q K N T' { g with pc := g.pc + 3, stack := v :: g.stack }) : WGo p e below s n0 Q K N T g := by
  obtain ⟨locs, X, e1, N1, n1, hx, hZ, hlk⟩ := S
  obtain ⟨T', X', e', st⟩ := getS X hx hZ hown (host := "") w via e1 F hg hd
  exact WGo.st st (r T' ⟨locs, X', e', N1, n1, hx, hZ, hlk⟩)
/-- comparisons of longs -/
theorem cl_lt {x y : Int64} (q : x < y) : lcmpW x y = -1 := Int32.toInt_inj.mp ((c_lcmp x y).1 (Int64.lt_iff_toInt_lt.mp q))
theorem cl_eq {x y : Int64} (q : x = y) : lcmpW x y = 0 := Int32.toInt_inj.mp ((c_lcmp x y).2.1 (by rw [q]))
theorem cl_gt {x y : Int64} (q : y < x) : lcmpW x y = 1 := Int32.toInt_inj.mp ((c_lcmp x y).2.2 (Int64.lt_iff_toInt_lt.mp q))
theorem cl_tri (x y : Int64) : x < y ∨ x = y ∨ y < x := by
  simp only [Int64.lt_iff_toInt_lt]
  rcases Int.lt_trichotomy x.toInt y.toInt with q | q | q
  · exact Or.inl q
  · exact Or.inr (Or.inl (Int64.toInt_inj.mp q))
  · exact Or.inr (Or.inr q)
theorem tltJ {x y : Int64} (q : x < y) : ifCond.holds .lt (lcmpW x y) = true ∧ ifCond.holds .ge (lcmpW x y) = false := by rw [cl_lt q]; decide
theorem fltJ {x y : Int64} (q : ¬ x < y) : ifCond.holds .lt (lcmpW x y) = false ∧ ifCond.holds .ge (lcmpW x y) = true := by
  rcases cl_tri x y with r | r | r
  · exact absurd r q
  · rw [cl_eq r]; decide
  · rw [cl_gt r]; decide
theorem tgtJ {x y : Int64} (q : y < x) : ifCond.holds .gt (lcmpW x y) = true ∧ ifCond.holds .le (lcmpW x y) = false := by rw [cl_gt q]; decide
theorem fgtJ {x y : Int64} (q : ¬ y < x) : ifCond.holds .gt (lcmpW x y) = false ∧ ifCond.holds .le (lcmpW x y) = true := by
  rcases cl_tri x y with r | r | r
  · rw [cl_lt r]; decide
  · rw [cl_eq r]; decide
  · exact absurd r q
theorem teqJ {x y : Int64} (q : x = y) : ifCond.holds .eq (lcmpW x y) = true ∧ ifCond.holds .ne (lcmpW x y) = false := by rw [cl_eq q]; decide
theorem feqJ {x y : Int64} (q : ¬ x = y) : ifCond.holds .eq (lcmpW x y) = false ∧ ifCond.holds .ne (lcmpW x y) = true := by
  rcases cl_tri x y with r | r | r
  · rw [cl_lt r]; decide
  · exact absurd r q
  · rw [cl_gt r]; decide
theorem w_dupX2 {tb : Tables} [Ours tb] {target : State} {g : JFrame} (h : At T m c below) (hx : tb.exec = Jvm.exec) (hg : g.method = m) {x y z : Value} {rest : List Value} (hd : decode c.code g.pc = .ok (.dup_x2, 1)) (hs : g.stack = x :: y :: z :: rest) (hc : x.category = 1) (hc1 : y.category = 1) (hc2 : z.category = 1)
    (hr : Steps tb e below (T.setTop { g with pc := g.pc + 1, stack := x :: y :: z :: x :: rest }) target) : Steps tb e below (T.setTop g) target := by
  subst hg
  jvm_step h [h.top, hx, hd, hs, hc, hc1, hc2]
  exact hr
end Core
section Arith
theorem rem_rng (x y : Int32) (d : Int) (hy : y.toInt = d) (hd : 0 < d) : 0 ≤ ((x &&& (2147483647 : Int32)) % y).toInt ∧ ((x &&& (2147483647 : Int32)) % y).toInt < d := by
  have h1 := c_mask x 2147483647 31 (by decide) (by decide)
  have h2 := (c_irem (x &&& 2147483647) y d hy).1 (by omega)
  rw [h2]
  exact ⟨Int.emod_nonneg _ (by omega), Int.emod_lt_of_pos _ hd⟩
theorem byte_idem (x : Int32) : x.toInt8.toInt32.toInt8.toInt32 = x.toInt8.toInt32 := by
  have h1 := c_i2b x
  have h2 := c_i2b x.toInt8.toInt32
  apply Int32.toInt_inj.mp
  omega
theorem si_len (L : List Int32) (j v : Int32) : (si L j v).length = L.length := by simp [si]
theorem gi_same (L : List Int32) (j v : Int32) (h0 : 0 ≤ j.toInt) (h1 : j.toInt < L.length) : gi (si L j v) j = v := by
  have q : j.toNatClampNeg < L.length := by simp only [Int32.toNatClampNeg]; omega
  simp [gi, si, q]
theorem gi_other (L : List Int32) (i j v : Int32) (h0 : 0 ≤ i.toInt) (h1 : 0 ≤ j.toInt) (hne : i.toInt ≠ j.toInt) : gi (si L j v) i = gi L i := by
  have q : j.toNatClampNeg ≠ i.toNatClampNeg := by simp only [Int32.toNatClampNeg]; omega
  simp [gi, si, List.getElem?_set, q]
theorem add_c {x k : Int32} {z : Int} (hz : k.toInt = z) (h0 : -2147483648 ≤ x.toInt + z) (h1 : x.toInt + z < 2147483648) : (x + k).toInt = x.toInt + z := by
  have h := c_iadd x k
  have r := rng32 (x + k)
  omega
theorem sub_c {x k : Int32} {z : Int} (hz : k.toInt = z) (h0 : -2147483648 ≤ x.toInt - z) (h1 : x.toInt - z < 2147483648) : (x - k).toInt = x.toInt - z := by
  have h := c_isub x k
  have r := rng32 (x - k)
  omega
theorem two_st (L : List Int32) (p q x y : Int32) (p0 : 0 ≤ p.toInt) (p1 : p.toInt < L.length) (q0 : 0 ≤ q.toInt) (q1 : q.toInt < L.length) (ne : p.toInt ≠ q.toInt) : gi (si (si L p x) q y) p = x ∧ gi (si (si L p x) q y) q = y :=
  ⟨by rw [gi_other _ _ _ _ p0 q0 ne]; exact gi_same L p x p0 p1, gi_same _ q y q0 (by rw [si_len]; exact q1)⟩
end Arith

theorem four_st (L : List Int32) (p q r s x y z w : Int32) (p0 : 0 ≤ p.toInt) (p1 : p.toInt < L.length) (q0 : 0 ≤ q.toInt) (q1 : q.toInt < L.length) (r0 : 0 ≤ r.toInt) (r1 : r.toInt < L.length) (s0 : 0 ≤ s.toInt) (s1 : s.toInt < L.length) (d1 : p.toInt ≠ q.toInt) (d2 : p.toInt ≠ r.toInt) (d3 : p.toInt ≠ s.toInt) (d4 : q.toInt ≠ r.toInt) (d5 : q.toInt ≠ s.toInt) (d6 : r.toInt ≠ s.toInt) : gi (si (si (si (si L p x) q y) r z) s w) p = x ∧ gi (si (si (si (si L p x) q y) r z) s w) q = y ∧ gi (si (si (si (si L p x) q y) r z) s w) r = z ∧ gi (si (si (si (si L p x) q y) r z) s w) s = w := by
  refine ⟨?_, ?_, ?_, ?_⟩
  · rw [gi_other _ _ _ _ p0 s0 d3, gi_other _ _ _ _ p0 r0 d2, gi_other _ _ _ _ p0 q0 d1]; exact gi_same L p x p0 p1
  · rw [gi_other _ _ _ _ q0 s0 d5, gi_other _ _ _ _ q0 r0 d4]; exact gi_same _ q y q0 (by rw [si_len]; exact q1)
  · rw [gi_other _ _ _ _ r0 s0 d6]; exact gi_same _ r z r0 (by rw [si_len, si_len]; exact r1)
  · exact gi_same _ s w s0 (by rw [si_len, si_len, si_len]; exact s1)
theorem fin_word (x b0 b1 b2 b3 : Int32) (h0 : b0 = (((x.toUInt32 >>> ((24 : Int32) &&& 31).toUInt32).toInt32).toInt8.toInt32)) (h1 : b1 = (((x.toUInt32 >>> ((16 : Int32) &&& 31).toUInt32).toInt32).toInt8.toInt32)) (h2 : b2 = (((x.toUInt32 >>> ((8 : Int32) &&& 31).toUInt32).toInt32).toInt8.toInt32)) (h3 : b3 = (x.toInt8.toInt32)) : ((((b0 <<< ((24 : Int32) &&& 31)) ||| ((b1 &&& (255 : Int32)) <<< ((16 : Int32) &&& 31))) ||| ((b2 &&& (255 : Int32)) <<< ((8 : Int32) &&& 31))) ||| (b3 &&& (255 : Int32))) = x := by
  have u0 := c_iushr x 24 24 (by decide) (by decide)
  have u1 := c_iushr x 16 16 (by decide) (by decide)
  have u2 := c_iushr x 8 8 (by decide) (by decide)
  have v0 := c_i2b ((x.toUInt32 >>> ((24 : Int32) &&& 31).toUInt32).toInt32)
  have v1 := c_i2b ((x.toUInt32 >>> ((16 : Int32) &&& 31).toUInt32).toInt32)
  have v2 := c_i2b ((x.toUInt32 >>> ((8 : Int32) &&& 31).toUInt32).toInt32)
  have v3 := c_i2b x
  rw [← h0] at v0
  rw [← h1] at v1
  rw [← h2] at v2
  rw [← h3] at v3
  have rx := rng32 x
  have m1 := c_mask b1 255 8 (by decide) (by decide)
  have m2 := c_mask b2 255 8 (by decide) (by decide)
  have m3 := c_mask b3 255 8 (by decide) (by decide)
  have s0 := c_ishl b0 24 24 (by decide)
  have s1 := c_ishl (b1 &&& 255) 16 16 (by decide)
  have s2 := c_ishl (b2 &&& 255) 8 8 (by decide)
  have r0 := rng32 (b0 <<< ((24 : Int32) &&& 31))
  have r1 := rng32 ((b1 &&& 255) <<< ((16 : Int32) &&& 31))
  have r2 := rng32 ((b2 &&& 255) <<< ((8 : Int32) &&& 31))
  generalize hx0 : (b0 <<< ((24 : Int32) &&& 31)) = t0 at *
  generalize hx1 : ((b1 &&& (255 : Int32)) <<< ((16 : Int32) &&& 31)) = t1 at *
  generalize hx2 : ((b2 &&& (255 : Int32)) <<< ((8 : Int32) &&& 31)) = t2 at *
  generalize hx3 : (b3 &&& (255 : Int32)) = t3 at *
  have e1 : 0 ≤ t1.toInt ∧ t1.toInt < 16777216 ∧ t1.toInt % 65536 = 0 := by omega
  have e2 : 0 ≤ t2.toInt ∧ t2.toInt < 65536 ∧ t2.toInt % 256 = 0 := by omega
  have e0 : t0.toInt % 16777216 = 0 := by omega
  have o1 := c_or t0 t1 24 (by decide) 16777216 (by decide) e0 e1.1 e1.2.1
  have q1 := rng32 (t0 ||| t1)
  have o2 := c_or (t0 ||| t1) t2 16 (by decide) 65536 (by decide) (by omega) e2.1 e2.2.1
  have q2 := rng32 ((t0 ||| t1) ||| t2)
  have o3 := c_or ((t0 ||| t1) ||| t2) t3 8 (by decide) 256 (by decide) (by omega) (by omega) (by omega)
  have q3 := rng32 (((t0 ||| t1) ||| t2) ||| t3)
  apply Int32.toInt_inj.mp
  omega
theorem d_prog_7_method_3_code_0 : decode prog_7_method_3_code 0 = .ok (.aload_n 0, 1) := by decide +kernel
theorem d_prog_7_method_3_code_1 : decode prog_7_method_3_code 1 = .ok (.iload_n 1, 1) := by decide +kernel
theorem d_prog_7_method_3_code_2 : decode prog_7_method_3_code 2 = .ok (.baload, 1) := by decide +kernel
theorem d_prog_7_method_3_code_3 : decode prog_7_method_3_code 3 = .ok (.bipush 24, 2) := by decide +kernel
theorem d_prog_7_method_3_code_5 : decode prog_7_method_3_code 5 = .ok (.ishl, 1) := by decide +kernel
theorem d_prog_7_method_3_code_6 : decode prog_7_method_3_code 6 = .ok (.aload_n 0, 1) := by decide +kernel
theorem d_prog_7_method_3_code_7 : decode prog_7_method_3_code 7 = .ok (.iload_n 1, 1) := by decide +kernel
theorem d_prog_7_method_3_code_8 : decode prog_7_method_3_code 8 = .ok (.iconst 1, 1) := by decide +kernel
theorem d_prog_7_method_3_code_9 : decode prog_7_method_3_code 9 = .ok (.iadd, 1) := by decide +kernel
theorem d_prog_7_method_3_code_10 : decode prog_7_method_3_code 10 = .ok (.baload, 1) := by decide +kernel
theorem d_prog_7_method_3_code_11 : decode prog_7_method_3_code 11 = .ok (.sipush 255, 3) := by decide +kernel
theorem d_prog_7_method_3_code_14 : decode prog_7_method_3_code 14 = .ok (.iand, 1) := by decide +kernel
theorem d_prog_7_method_3_code_15 : decode prog_7_method_3_code 15 = .ok (.bipush 16, 2) := by decide +kernel
theorem d_prog_7_method_3_code_17 : decode prog_7_method_3_code 17 = .ok (.ishl, 1) := by decide +kernel
theorem d_prog_7_method_3_code_18 : decode prog_7_method_3_code 18 = .ok (.ior, 1) := by decide +kernel
theorem d_prog_7_method_3_code_19 : decode prog_7_method_3_code 19 = .ok (.aload_n 0, 1) := by decide +kernel
theorem d_prog_7_method_3_code_20 : decode prog_7_method_3_code 20 = .ok (.iload_n 1, 1) := by decide +kernel
theorem d_prog_7_method_3_code_21 : decode prog_7_method_3_code 21 = .ok (.iconst 2, 1) := by decide +kernel
theorem d_prog_7_method_3_code_22 : decode prog_7_method_3_code 22 = .ok (.iadd, 1) := by decide +kernel
theorem d_prog_7_method_3_code_23 : decode prog_7_method_3_code 23 = .ok (.baload, 1) := by decide +kernel
theorem d_prog_7_method_3_code_24 : decode prog_7_method_3_code 24 = .ok (.sipush 255, 3) := by decide +kernel
theorem d_prog_7_method_3_code_27 : decode prog_7_method_3_code 27 = .ok (.iand, 1) := by decide +kernel
theorem d_prog_7_method_3_code_28 : decode prog_7_method_3_code 28 = .ok (.bipush 8, 2) := by decide +kernel
theorem d_prog_7_method_3_code_30 : decode prog_7_method_3_code 30 = .ok (.ishl, 1) := by decide +kernel
theorem d_prog_7_method_3_code_31 : decode prog_7_method_3_code 31 = .ok (.ior, 1) := by decide +kernel
theorem d_prog_7_method_3_code_32 : decode prog_7_method_3_code 32 = .ok (.aload_n 0, 1) := by decide +kernel
theorem d_prog_7_method_3_code_33 : decode prog_7_method_3_code 33 = .ok (.iload_n 1, 1) := by decide +kernel
theorem d_prog_7_method_3_code_34 : decode prog_7_method_3_code 34 = .ok (.iconst 3, 1) := by decide +kernel
theorem d_prog_7_method_3_code_35 : decode prog_7_method_3_code 35 = .ok (.iadd, 1) := by decide +kernel
theorem d_prog_7_method_3_code_36 : decode prog_7_method_3_code 36 = .ok (.baload, 1) := by decide +kernel
theorem d_prog_7_method_3_code_37 : decode prog_7_method_3_code 37 = .ok (.sipush 255, 3) := by decide +kernel
theorem d_prog_7_method_3_code_40 : decode prog_7_method_3_code 40 = .ok (.iand, 1) := by decide +kernel
theorem d_prog_7_method_3_code_41 : decode prog_7_method_3_code 41 = .ok (.ior, 1) := by decide +kernel
theorem d_prog_7_method_3_code_42 : decode prog_7_method_3_code 42 = .ok (.ireturn, 1) := by decide +kernel
def QA (Z : State) (n0 : Nat) (h0 : Heap) (a1 : Addr) (p2 : Int32) (L : List Int32) (v : Option Value) (h : Heap) : Prop := v = some (.int (((((gi L p2) <<< ((24 : Int32) &&& 31)) ||| (((gi L (p2 + (1 : Int32))) &&& (255 : Int32)) <<< ((16 : Int32) &&& 31))) ||| (((gi L (p2 + (2 : Int32))) &&& (255 : Int32)) <<< ((8 : Int32) &&& 31))) ||| ((gi L (p2 + (3 : Int32))) &&& (255 : Int32)))) ∧ h = h0
theorem ef_A (m : MethodId) (a1 : Addr) (p2 : Int32) : entryFrame m #[(.ref a1), (.int p2)] 2 = mkF m 0 #[.val (.ref a1), .val (.int p2)] [] := by first | (simp [entryFrame, mkF, argsToLocals, Value.category, maxLocals]; done) | rfl
set_option maxRecDepth 65536 in
set_option maxHeartbeats 40000000 in
theorem rm_A (l : Launch) (Z : State) (a0 : Array Value) (hw : ∀ d ∈ tables_1, d.before a0 Z = true) (n0 : Nat) (h0 : Heap) (a1 : Addr) (p2 : Int32) (L : List Int32) (Z0 : n0 ≤ h0.size) (A1 : AI Z h0 a1 .byte L) (b0 : 0 ≤ p2.toInt) (c0 : p2.toInt < L.length) (b1 : 0 ≤ (p2 + (1 : Int32)).toInt) (c1 : (p2 + (1 : Int32)).toInt < L.length) (b2 : 0 ≤ (p2 + (2 : Int32)).toInt) (c2 : (p2 + (2 : Int32)).toInt < L.length) (b3 : 0 ≤ (p2 + (3 : Int32)).toInt) (c3 : (p2 + (3 : Int32)).toInt < L.length) :
    WCon l Z n0 h0 (⟨"com/example/keyrange/keyrange/BigEndian", "intAt", "([BI)I"⟩ : MethodName) prog_7_method_3_code 2 (some .int) [] ({ frames := 0, cells := 0, slots := 0, locals := 0 } : Room) #[(.ref a1), (.int p2)] (QA Z n0 h0 a1 p2 L) := by
  refine WCon.of (by first | exact plainFor_of_name (by decide +kernel) | decide +kernel) Z0 ?_
  intro p e s m below meth c T hx hZ hby hml hown hnm hret S
  refine WGo.cast (ef_A m a1 p2) ?_
  show WGo _ _ _ _ _ _ _ _ T (mkF m 0 #[.val (.ref a1), .val (.int p2)] [])
  refine WGo.st (fun _ q => XS.aloadN S.here hx rfl (hb hby d_prog_7_method_3_code_0) rfl rfl q) ?_
  show WGo _ _ _ _ _ _ _ _ T (mkF m 1 #[.val (.ref a1), .val (.int p2)] [(.ref a1)])
  refine WGo.st (fun _ q => XS.iloadN S.here hx rfl (hb hby d_prog_7_method_3_code_1) rfl q) ?_
  show WGo _ _ _ _ _ _ _ _ T (mkF m 2 #[.val (.ref a1), .val (.int p2)] [(.int p2), (.ref a1)])
  refine w_baload S A1 rfl (hb hby d_prog_7_method_3_code_2) rfl b0 c0 rfl ?_
  show WGo _ _ _ _ _ _ _ _ T (mkF m 3 #[.val (.ref a1), .val (.int p2)] [(.int (gi L p2))])
  refine WGo.st (fun _ q => XS.bipush S.here hx rfl (hb hby d_prog_7_method_3_code_3) q) ?_
  show WGo _ _ _ _ _ _ _ _ T (mkF m 5 #[.val (.ref a1), .val (.int p2)] [(.int (24 : Int32)), (.int (gi L p2))])
  refine WGo.st (fun _ q => XS.ishl S.here hx rfl (hb hby d_prog_7_method_3_code_5) rfl q) ?_
  show WGo _ _ _ _ _ _ _ _ T (mkF m 6 #[.val (.ref a1), .val (.int p2)] [(.int ((gi L p2) <<< ((24 : Int32) &&& 31)))])
  refine WGo.st (fun _ q => XS.aloadN S.here hx rfl (hb hby d_prog_7_method_3_code_6) rfl rfl q) ?_
  show WGo _ _ _ _ _ _ _ _ T (mkF m 7 #[.val (.ref a1), .val (.int p2)] [(.ref a1), (.int ((gi L p2) <<< ((24 : Int32) &&& 31)))])
  refine WGo.st (fun _ q => XS.iloadN S.here hx rfl (hb hby d_prog_7_method_3_code_7) rfl q) ?_
  show WGo _ _ _ _ _ _ _ _ T (mkF m 8 #[.val (.ref a1), .val (.int p2)] [(.int p2), (.ref a1), (.int ((gi L p2) <<< ((24 : Int32) &&& 31)))])
  refine WGo.st (fun _ q => XS.iconst S.here hx rfl (hb hby d_prog_7_method_3_code_8) q) ?_
  show WGo _ _ _ _ _ _ _ _ T (mkF m 9 #[.val (.ref a1), .val (.int p2)] [(.int (1 : Int32)), (.int p2), (.ref a1), (.int ((gi L p2) <<< ((24 : Int32) &&& 31)))])
  refine WGo.st (fun _ q => XS.iadd S.here hx rfl (hb hby d_prog_7_method_3_code_9) rfl q) ?_
  show WGo _ _ _ _ _ _ _ _ T (mkF m 10 #[.val (.ref a1), .val (.int p2)] [(.int (p2 + (1 : Int32))), (.ref a1), (.int ((gi L p2) <<< ((24 : Int32) &&& 31)))])
  refine w_baload S A1 rfl (hb hby d_prog_7_method_3_code_10) rfl b1 c1 rfl ?_
  show WGo _ _ _ _ _ _ _ _ T (mkF m 11 #[.val (.ref a1), .val (.int p2)] [(.int (gi L (p2 + (1 : Int32)))), (.int ((gi L p2) <<< ((24 : Int32) &&& 31)))])
  refine WGo.st (fun _ q => XS.sipush S.here hx rfl (hb hby d_prog_7_method_3_code_11) q) ?_
  show WGo _ _ _ _ _ _ _ _ T (mkF m 14 #[.val (.ref a1), .val (.int p2)] [(.int (255 : Int32)), (.int (gi L (p2 + (1 : Int32)))), (.int ((gi L p2) <<< ((24 : Int32) &&& 31)))])
  refine WGo.st (fun _ q => XS.iand S.here hx rfl (hb hby d_prog_7_method_3_code_14) rfl q) ?_
  show WGo _ _ _ _ _ _ _ _ T (mkF m 15 #[.val (.ref a1), .val (.int p2)] [(.int ((gi L (p2 + (1 : Int32))) &&& (255 : Int32))), (.int ((gi L p2) <<< ((24 : Int32) &&& 31)))])
  refine WGo.st (fun _ q => XS.bipush S.here hx rfl (hb hby d_prog_7_method_3_code_15) q) ?_
  show WGo _ _ _ _ _ _ _ _ T (mkF m 17 #[.val (.ref a1), .val (.int p2)] [(.int (16 : Int32)), (.int ((gi L (p2 + (1 : Int32))) &&& (255 : Int32))), (.int ((gi L p2) <<< ((24 : Int32) &&& 31)))])
  refine WGo.st (fun _ q => XS.ishl S.here hx rfl (hb hby d_prog_7_method_3_code_17) rfl q) ?_
  show WGo _ _ _ _ _ _ _ _ T (mkF m 18 #[.val (.ref a1), .val (.int p2)] [(.int (((gi L (p2 + (1 : Int32))) &&& (255 : Int32)) <<< ((16 : Int32) &&& 31))), (.int ((gi L p2) <<< ((24 : Int32) &&& 31)))])
  refine WGo.st (fun _ q => XS.ior S.here hx rfl (hb hby d_prog_7_method_3_code_18) rfl q) ?_
  show WGo _ _ _ _ _ _ _ _ T (mkF m 19 #[.val (.ref a1), .val (.int p2)] [(.int (((gi L p2) <<< ((24 : Int32) &&& 31)) ||| (((gi L (p2 + (1 : Int32))) &&& (255 : Int32)) <<< ((16 : Int32) &&& 31))))])
  refine WGo.st (fun _ q => XS.aloadN S.here hx rfl (hb hby d_prog_7_method_3_code_19) rfl rfl q) ?_
  show WGo _ _ _ _ _ _ _ _ T (mkF m 20 #[.val (.ref a1), .val (.int p2)] [(.ref a1), (.int (((gi L p2) <<< ((24 : Int32) &&& 31)) ||| (((gi L (p2 + (1 : Int32))) &&& (255 : Int32)) <<< ((16 : Int32) &&& 31))))])
  refine WGo.st (fun _ q => XS.iloadN S.here hx rfl (hb hby d_prog_7_method_3_code_20) rfl q) ?_
  show WGo _ _ _ _ _ _ _ _ T (mkF m 21 #[.val (.ref a1), .val (.int p2)] [(.int p2), (.ref a1), (.int (((gi L p2) <<< ((24 : Int32) &&& 31)) ||| (((gi L (p2 + (1 : Int32))) &&& (255 : Int32)) <<< ((16 : Int32) &&& 31))))])
  refine WGo.st (fun _ q => XS.iconst S.here hx rfl (hb hby d_prog_7_method_3_code_21) q) ?_
  show WGo _ _ _ _ _ _ _ _ T (mkF m 22 #[.val (.ref a1), .val (.int p2)] [(.int (2 : Int32)), (.int p2), (.ref a1), (.int (((gi L p2) <<< ((24 : Int32) &&& 31)) ||| (((gi L (p2 + (1 : Int32))) &&& (255 : Int32)) <<< ((16 : Int32) &&& 31))))])
  refine WGo.st (fun _ q => XS.iadd S.here hx rfl (hb hby d_prog_7_method_3_code_22) rfl q) ?_
  show WGo _ _ _ _ _ _ _ _ T (mkF m 23 #[.val (.ref a1), .val (.int p2)] [(.int (p2 + (2 : Int32))), (.ref a1), (.int (((gi L p2) <<< ((24 : Int32) &&& 31)) ||| (((gi L (p2 + (1 : Int32))) &&& (255 : Int32)) <<< ((16 : Int32) &&& 31))))])
  refine w_baload S A1 rfl (hb hby d_prog_7_method_3_code_23) rfl b2 c2 rfl ?_
  show WGo _ _ _ _ _ _ _ _ T (mkF m 24 #[.val (.ref a1), .val (.int p2)] [(.int (gi L (p2 + (2 : Int32)))), (.int (((gi L p2) <<< ((24 : Int32) &&& 31)) ||| (((gi L (p2 + (1 : Int32))) &&& (255 : Int32)) <<< ((16 : Int32) &&& 31))))])
  refine WGo.st (fun _ q => XS.sipush S.here hx rfl (hb hby d_prog_7_method_3_code_24) q) ?_
  show WGo _ _ _ _ _ _ _ _ T (mkF m 27 #[.val (.ref a1), .val (.int p2)] [(.int (255 : Int32)), (.int (gi L (p2 + (2 : Int32)))), (.int (((gi L p2) <<< ((24 : Int32) &&& 31)) ||| (((gi L (p2 + (1 : Int32))) &&& (255 : Int32)) <<< ((16 : Int32) &&& 31))))])
  refine WGo.st (fun _ q => XS.iand S.here hx rfl (hb hby d_prog_7_method_3_code_27) rfl q) ?_
  show WGo _ _ _ _ _ _ _ _ T (mkF m 28 #[.val (.ref a1), .val (.int p2)] [(.int ((gi L (p2 + (2 : Int32))) &&& (255 : Int32))), (.int (((gi L p2) <<< ((24 : Int32) &&& 31)) ||| (((gi L (p2 + (1 : Int32))) &&& (255 : Int32)) <<< ((16 : Int32) &&& 31))))])
  refine WGo.st (fun _ q => XS.bipush S.here hx rfl (hb hby d_prog_7_method_3_code_28) q) ?_
  show WGo _ _ _ _ _ _ _ _ T (mkF m 30 #[.val (.ref a1), .val (.int p2)] [(.int (8 : Int32)), (.int ((gi L (p2 + (2 : Int32))) &&& (255 : Int32))), (.int (((gi L p2) <<< ((24 : Int32) &&& 31)) ||| (((gi L (p2 + (1 : Int32))) &&& (255 : Int32)) <<< ((16 : Int32) &&& 31))))])
  refine WGo.st (fun _ q => XS.ishl S.here hx rfl (hb hby d_prog_7_method_3_code_30) rfl q) ?_
  show WGo _ _ _ _ _ _ _ _ T (mkF m 31 #[.val (.ref a1), .val (.int p2)] [(.int (((gi L (p2 + (2 : Int32))) &&& (255 : Int32)) <<< ((8 : Int32) &&& 31))), (.int (((gi L p2) <<< ((24 : Int32) &&& 31)) ||| (((gi L (p2 + (1 : Int32))) &&& (255 : Int32)) <<< ((16 : Int32) &&& 31))))])
  refine WGo.st (fun _ q => XS.ior S.here hx rfl (hb hby d_prog_7_method_3_code_31) rfl q) ?_
  show WGo _ _ _ _ _ _ _ _ T (mkF m 32 #[.val (.ref a1), .val (.int p2)] [(.int ((((gi L p2) <<< ((24 : Int32) &&& 31)) ||| (((gi L (p2 + (1 : Int32))) &&& (255 : Int32)) <<< ((16 : Int32) &&& 31))) ||| (((gi L (p2 + (2 : Int32))) &&& (255 : Int32)) <<< ((8 : Int32) &&& 31))))])
  refine WGo.st (fun _ q => XS.aloadN S.here hx rfl (hb hby d_prog_7_method_3_code_32) rfl rfl q) ?_
  show WGo _ _ _ _ _ _ _ _ T (mkF m 33 #[.val (.ref a1), .val (.int p2)] [(.ref a1), (.int ((((gi L p2) <<< ((24 : Int32) &&& 31)) ||| (((gi L (p2 + (1 : Int32))) &&& (255 : Int32)) <<< ((16 : Int32) &&& 31))) ||| (((gi L (p2 + (2 : Int32))) &&& (255 : Int32)) <<< ((8 : Int32) &&& 31))))])
  refine WGo.st (fun _ q => XS.iloadN S.here hx rfl (hb hby d_prog_7_method_3_code_33) rfl q) ?_
  show WGo _ _ _ _ _ _ _ _ T (mkF m 34 #[.val (.ref a1), .val (.int p2)] [(.int p2), (.ref a1), (.int ((((gi L p2) <<< ((24 : Int32) &&& 31)) ||| (((gi L (p2 + (1 : Int32))) &&& (255 : Int32)) <<< ((16 : Int32) &&& 31))) ||| (((gi L (p2 + (2 : Int32))) &&& (255 : Int32)) <<< ((8 : Int32) &&& 31))))])
  refine WGo.st (fun _ q => XS.iconst S.here hx rfl (hb hby d_prog_7_method_3_code_34) q) ?_
  show WGo _ _ _ _ _ _ _ _ T (mkF m 35 #[.val (.ref a1), .val (.int p2)] [(.int (3 : Int32)), (.int p2), (.ref a1), (.int ((((gi L p2) <<< ((24 : Int32) &&& 31)) ||| (((gi L (p2 + (1 : Int32))) &&& (255 : Int32)) <<< ((16 : Int32) &&& 31))) ||| (((gi L (p2 + (2 : Int32))) &&& (255 : Int32)) <<< ((8 : Int32) &&& 31))))])
  refine WGo.st (fun _ q => XS.iadd S.here hx rfl (hb hby d_prog_7_method_3_code_35) rfl q) ?_
  show WGo _ _ _ _ _ _ _ _ T (mkF m 36 #[.val (.ref a1), .val (.int p2)] [(.int (p2 + (3 : Int32))), (.ref a1), (.int ((((gi L p2) <<< ((24 : Int32) &&& 31)) ||| (((gi L (p2 + (1 : Int32))) &&& (255 : Int32)) <<< ((16 : Int32) &&& 31))) ||| (((gi L (p2 + (2 : Int32))) &&& (255 : Int32)) <<< ((8 : Int32) &&& 31))))])
  refine w_baload S A1 rfl (hb hby d_prog_7_method_3_code_36) rfl b3 c3 rfl ?_
  show WGo _ _ _ _ _ _ _ _ T (mkF m 37 #[.val (.ref a1), .val (.int p2)] [(.int (gi L (p2 + (3 : Int32)))), (.int ((((gi L p2) <<< ((24 : Int32) &&& 31)) ||| (((gi L (p2 + (1 : Int32))) &&& (255 : Int32)) <<< ((16 : Int32) &&& 31))) ||| (((gi L (p2 + (2 : Int32))) &&& (255 : Int32)) <<< ((8 : Int32) &&& 31))))])
  refine WGo.st (fun _ q => XS.sipush S.here hx rfl (hb hby d_prog_7_method_3_code_37) q) ?_
  show WGo _ _ _ _ _ _ _ _ T (mkF m 40 #[.val (.ref a1), .val (.int p2)] [(.int (255 : Int32)), (.int (gi L (p2 + (3 : Int32)))), (.int ((((gi L p2) <<< ((24 : Int32) &&& 31)) ||| (((gi L (p2 + (1 : Int32))) &&& (255 : Int32)) <<< ((16 : Int32) &&& 31))) ||| (((gi L (p2 + (2 : Int32))) &&& (255 : Int32)) <<< ((8 : Int32) &&& 31))))])
  refine WGo.st (fun _ q => XS.iand S.here hx rfl (hb hby d_prog_7_method_3_code_40) rfl q) ?_
  show WGo _ _ _ _ _ _ _ _ T (mkF m 41 #[.val (.ref a1), .val (.int p2)] [(.int ((gi L (p2 + (3 : Int32))) &&& (255 : Int32))), (.int ((((gi L p2) <<< ((24 : Int32) &&& 31)) ||| (((gi L (p2 + (1 : Int32))) &&& (255 : Int32)) <<< ((16 : Int32) &&& 31))) ||| (((gi L (p2 + (2 : Int32))) &&& (255 : Int32)) <<< ((8 : Int32) &&& 31))))])
  refine WGo.st (fun _ q => XS.ior S.here hx rfl (hb hby d_prog_7_method_3_code_41) rfl q) ?_
  show WGo _ _ _ _ _ _ _ _ T (mkF m 42 #[.val (.ref a1), .val (.int p2)] [(.int (((((gi L p2) <<< ((24 : Int32) &&& 31)) ||| (((gi L (p2 + (1 : Int32))) &&& (255 : Int32)) <<< ((16 : Int32) &&& 31))) ||| (((gi L (p2 + (2 : Int32))) &&& (255 : Int32)) <<< ((8 : Int32) &&& 31))) ||| ((gi L (p2 + (3 : Int32))) &&& (255 : Int32))))])
  refine w_retI S hret (hb hby d_prog_7_method_3_code_42) (by decide) (by decide) ?_
  exact ⟨rfl, rfl⟩
def Q0 (Z : State) (n0 : Nat) (h0 : Heap) (p1 : Int32) (p2 : Int32) (p3 : Int64) (v : Option Value) (h : Heap) : Prop := v = some (.int 1)
theorem ef_0 (m : MethodId) (p1 : Int32) (p2 : Int32) (p3 : Int64) : entryFrame m #[(.int p1), (.int p2), (.long p3)] maxLocals = mkF m 0 #[.val (.int p1), .val (.int p2), .val (.long p3), .second, .unset, .unset] [] := by first | (simp [entryFrame, mkF, argsToLocals, Value.category, maxLocals]; done) | rfl
set_option maxRecDepth 65536 in
set_option maxHeartbeats 40000000 in
theorem rm_0 (l : Launch) (Z : State) (a0 : Array Value) (hw : ∀ d ∈ tables_1, d.before a0 Z = true) (n0 : Nat) (h0 : Heap) (p1 : Int32) (p2 : Int32) (p3 : Int64) (Z0 : n0 ≤ h0.size)  :
    WCon l Z n0 h0 x code maxLocals ret tables_1 room_1 #[(.int p1), (.int p2), (.long p3)] (Q0 Z n0 h0 p1 p2 p3) := by
  refine WCon.of (by first | exact plainFor_of_name (by decide +kernel) | decide +kernel) Z0 ?_
  intro p e s m below meth c T hx hZ hby hml hown hnm hret S
  refine WGo.cast (ef_0 m p1 p2 p3) ?_
  show WGo _ _ _ _ _ _ _ _ T (mkF m 0 #[.val (.int p1), .val (.int p2), .val (.long p3), .second, .unset, .unset] [])
  refine WGo.st (fun _ q => XS.bipush S.here hx rfl (hb hby at_0) q) ?_
  show WGo _ _ _ _ _ _ _ _ T (mkF m 2 #[.val (.int p1), .val (.int p2), .val (.long p3), .second, .unset, .unset] [(.int (8 : Int32))])
  refine w_newarray S (hw _ (List.mem_of_getElem? (i := 0) rfl)) rfl rfl (hb hby at_2) rfl (by decide) (cap := 8) (by decide) (by decide) (by decide) (by decide) (L := [(0 : Int32), (0 : Int32), (0 : Int32), (0 : Int32), (0 : Int32), (0 : Int32), (0 : Int32), (0 : Int32)]) rfl ?_
  intro T1 h2 a2 S3 K4 e_a2 g_a2 A_a2
  show WGo _ _ _ _ _ _ _ _ T1 (mkF m 4 #[.val (.int p1), .val (.int p2), .val (.long p3), .second, .unset, .unset] [(.ref a2)])
  refine WGo.st (fun _ q => XS.astore S3.here hx rfl (hb hby at_4) rfl rfl (l' := #[.val (.int p1), .val (.int p2), .val (.long p3), .second, .val (.ref a2), .unset]) rfl q) ?_
  show WGo _ _ _ _ _ _ _ _ T1 (mkF m 6 #[.val (.int p1), .val (.int p2), .val (.long p3), .second, .val (.ref a2), .unset] [])
  refine WGo.st (fun _ q => XS.aload S3.here hx rfl (hb hby at_6) rfl rfl q) ?_
  show WGo _ _ _ _ _ _ _ _ T1 (mkF m 8 #[.val (.int p1), .val (.int p2), .val (.long p3), .second, .val (.ref a2), .unset] [(.ref a2)])
  refine WGo.st (fun _ q => XS.iconst S3.here hx rfl (hb hby at_8) q) ?_
  show WGo _ _ _ _ _ _ _ _ T1 (mkF m 9 #[.val (.int p1), .val (.int p2), .val (.long p3), .second, .val (.ref a2), .unset] [(.int (0 : Int32)), (.ref a2)])
  refine WGo.st (fun _ q => XS.lloadN S3.here hx rfl (hb hby at_9) rfl q) ?_
  show WGo _ _ _ _ _ _ _ _ T1 (mkF m 10 #[.val (.int p1), .val (.int p2), .val (.long p3), .second, .val (.ref a2), .unset] [(.long p3), (.int (0 : Int32)), (.ref a2)])
  refine WGo.st (fun _ q => XS.l2i S3.here hx rfl (hb hby at_10) rfl q) ?_
  show WGo _ _ _ _ _ _ _ _ T1 (mkF m 11 #[.val (.int p1), .val (.int p2), .val (.long p3), .second, .val (.ref a2), .unset] [(.int (p3.toInt32)), (.int (0 : Int32)), (.ref a2)])
  refine WGo.st (fun _ q => XS.i2b S3.here hx rfl (hb hby at_11) rfl q) ?_
  show WGo _ _ _ _ _ _ _ _ T1 (mkF m 12 #[.val (.int p1), .val (.int p2), .val (.long p3), .second, .val (.ref a2), .unset] [(.int ((p3.toInt32).toInt8.toInt32)), (.int (0 : Int32)), (.ref a2)])
  generalize ((p3.toInt32).toInt8.toInt32) = z12
  show WGo _ _ _ _ _ _ _ _ T1 (mkF m 12 #[.val (.int p1), .val (.int p2), .val (.long p3), .second, .val (.ref a2), .unset] [(.int z12), (.int (0 : Int32)), (.ref a2)])
  refine w_bastore S3 A_a2 g_a2 rfl (hb hby at_12) rfl (by decide) (by decide : (0 : Int32).toInt < ((8 : Nat) : Int)) (L' := [(z12.toInt8.toInt32), (0 : Int32), (0 : Int32), (0 : Int32), (0 : Int32), (0 : Int32), (0 : Int32), (0 : Int32)]) rfl ?_
  intro T5 h6 S7 K8 A9
  show WGo _ _ _ _ _ _ _ _ T5 (mkF m 13 #[.val (.int p1), .val (.int p2), .val (.long p3), .second, .val (.ref a2), .unset] [])
  refine WGo.st (fun _ q => XS.aload S7.here hx rfl (hb hby at_13) rfl rfl q) ?_
  show WGo _ _ _ _ _ _ _ _ T5 (mkF m 15 #[.val (.int p1), .val (.int p2), .val (.long p3), .second, .val (.ref a2), .unset] [(.ref a2)])
  refine WGo.st (fun _ q => XS.iconst S7.here hx rfl (hb hby at_15) q) ?_
  show WGo _ _ _ _ _ _ _ _ T5 (mkF m 16 #[.val (.int p1), .val (.int p2), .val (.long p3), .second, .val (.ref a2), .unset] [(.int (1 : Int32)), (.ref a2)])
  refine WGo.st (fun _ q => XS.lloadN S7.here hx rfl (hb hby at_16) rfl q) ?_
  show WGo _ _ _ _ _ _ _ _ T5 (mkF m 17 #[.val (.int p1), .val (.int p2), .val (.long p3), .second, .val (.ref a2), .unset] [(.long p3), (.int (1 : Int32)), (.ref a2)])
  refine WGo.st (fun _ q => XS.bipush S7.here hx rfl (hb hby at_17) q) ?_
  show WGo _ _ _ _ _ _ _ _ T5 (mkF m 19 #[.val (.int p1), .val (.int p2), .val (.long p3), .second, .val (.ref a2), .unset] [(.int (8 : Int32)), (.long p3), (.int (1 : Int32)), (.ref a2)])
  refine WGo.st (fun _ q => XS.lushr S7.here hx rfl (hb hby at_19) rfl q) ?_
  show WGo _ _ _ _ _ _ _ _ T5 (mkF m 20 #[.val (.int p1), .val (.int p2), .val (.long p3), .second, .val (.ref a2), .unset] [(.long ((p3.toUInt64 >>> ((8 : Int32) &&& 0x3f).toInt64.toUInt64).toInt64)), (.int (1 : Int32)), (.ref a2)])
  refine WGo.st (fun _ q => XS.l2i S7.here hx rfl (hb hby at_20) rfl q) ?_
  show WGo _ _ _ _ _ _ _ _ T5 (mkF m 21 #[.val (.int p1), .val (.int p2), .val (.long p3), .second, .val (.ref a2), .unset] [(.int (((p3.toUInt64 >>> ((8 : Int32) &&& 0x3f).toInt64.toUInt64).toInt64).toInt32)), (.int (1 : Int32)), (.ref a2)])
  refine WGo.st (fun _ q => XS.i2b S7.here hx rfl (hb hby at_21) rfl q) ?_
  show WGo _ _ _ _ _ _ _ _ T5 (mkF m 22 #[.val (.int p1), .val (.int p2), .val (.long p3), .second, .val (.ref a2), .unset] [(.int ((((p3.toUInt64 >>> ((8 : Int32) &&& 0x3f).toInt64.toUInt64).toInt64).toInt32).toInt8.toInt32)), (.int (1 : Int32)), (.ref a2)])
  generalize ((((p3.toUInt64 >>> ((8 : Int32) &&& 0x3f).toInt64.toUInt64).toInt64).toInt32).toInt8.toInt32) = z22
  show WGo _ _ _ _ _ _ _ _ T5 (mkF m 22 #[.val (.int p1), .val (.int p2), .val (.long p3), .second, .val (.ref a2), .unset] [(.int z22), (.int (1 : Int32)), (.ref a2)])
  refine w_bastore S7 A9 g_a2 rfl (hb hby at_22) rfl (by decide) (by decide : (1 : Int32).toInt < ((8 : Nat) : Int)) (L' := [(z12.toInt8.toInt32), (z22.toInt8.toInt32), (0 : Int32), (0 : Int32), (0 : Int32), (0 : Int32), (0 : Int32), (0 : Int32)]) rfl ?_
  intro T10 h11 S12 K13 A14
  show WGo _ _ _ _ _ _ _ _ T10 (mkF m 23 #[.val (.int p1), .val (.int p2), .val (.long p3), .second, .val (.ref a2), .unset] [])
  refine WGo.st (fun _ q => XS.aload S12.here hx rfl (hb hby at_23) rfl rfl q) ?_
  show WGo _ _ _ _ _ _ _ _ T10 (mkF m 25 #[.val (.int p1), .val (.int p2), .val (.long p3), .second, .val (.ref a2), .unset] [(.ref a2)])
  refine WGo.st (fun _ q => XS.iconst S12.here hx rfl (hb hby at_25) q) ?_
  show WGo _ _ _ _ _ _ _ _ T10 (mkF m 26 #[.val (.int p1), .val (.int p2), .val (.long p3), .second, .val (.ref a2), .unset] [(.int (2 : Int32)), (.ref a2)])
  refine WGo.st (fun _ q => XS.lloadN S12.here hx rfl (hb hby at_26) rfl q) ?_
  show WGo _ _ _ _ _ _ _ _ T10 (mkF m 27 #[.val (.int p1), .val (.int p2), .val (.long p3), .second, .val (.ref a2), .unset] [(.long p3), (.int (2 : Int32)), (.ref a2)])
  refine WGo.st (fun _ q => XS.bipush S12.here hx rfl (hb hby at_27) q) ?_
  show WGo _ _ _ _ _ _ _ _ T10 (mkF m 29 #[.val (.int p1), .val (.int p2), .val (.long p3), .second, .val (.ref a2), .unset] [(.int (16 : Int32)), (.long p3), (.int (2 : Int32)), (.ref a2)])
  refine WGo.st (fun _ q => XS.lushr S12.here hx rfl (hb hby at_29) rfl q) ?_
  show WGo _ _ _ _ _ _ _ _ T10 (mkF m 30 #[.val (.int p1), .val (.int p2), .val (.long p3), .second, .val (.ref a2), .unset] [(.long ((p3.toUInt64 >>> ((16 : Int32) &&& 0x3f).toInt64.toUInt64).toInt64)), (.int (2 : Int32)), (.ref a2)])
  refine WGo.st (fun _ q => XS.l2i S12.here hx rfl (hb hby at_30) rfl q) ?_
  show WGo _ _ _ _ _ _ _ _ T10 (mkF m 31 #[.val (.int p1), .val (.int p2), .val (.long p3), .second, .val (.ref a2), .unset] [(.int (((p3.toUInt64 >>> ((16 : Int32) &&& 0x3f).toInt64.toUInt64).toInt64).toInt32)), (.int (2 : Int32)), (.ref a2)])
  refine WGo.st (fun _ q => XS.i2b S12.here hx rfl (hb hby at_31) rfl q) ?_
  show WGo _ _ _ _ _ _ _ _ T10 (mkF m 32 #[.val (.int p1), .val (.int p2), .val (.long p3), .second, .val (.ref a2), .unset] [(.int ((((p3.toUInt64 >>> ((16 : Int32) &&& 0x3f).toInt64.toUInt64).toInt64).toInt32).toInt8.toInt32)), (.int (2 : Int32)), (.ref a2)])
  generalize ((((p3.toUInt64 >>> ((16 : Int32) &&& 0x3f).toInt64.toUInt64).toInt64).toInt32).toInt8.toInt32) = z32
  show WGo _ _ _ _ _ _ _ _ T10 (mkF m 32 #[.val (.int p1), .val (.int p2), .val (.long p3), .second, .val (.ref a2), .unset] [(.int z32), (.int (2 : Int32)), (.ref a2)])
  refine w_bastore S12 A14 g_a2 rfl (hb hby at_32) rfl (by decide) (by decide : (2 : Int32).toInt < ((8 : Nat) : Int)) (L' := [(z12.toInt8.toInt32), (z22.toInt8.toInt32), (z32.toInt8.toInt32), (0 : Int32), (0 : Int32), (0 : Int32), (0 : Int32), (0 : Int32)]) rfl ?_
  intro T15 h16 S17 K18 A19
  show WGo _ _ _ _ _ _ _ _ T15 (mkF m 33 #[.val (.int p1), .val (.int p2), .val (.long p3), .second, .val (.ref a2), .unset] [])
  refine WGo.st (fun _ q => XS.aload S17.here hx rfl (hb hby at_33) rfl rfl q) ?_
  show WGo _ _ _ _ _ _ _ _ T15 (mkF m 35 #[.val (.int p1), .val (.int p2), .val (.long p3), .second, .val (.ref a2), .unset] [(.ref a2)])
  refine WGo.st (fun _ q => XS.iconst S17.here hx rfl (hb hby at_35) q) ?_
  show WGo _ _ _ _ _ _ _ _ T15 (mkF m 36 #[.val (.int p1), .val (.int p2), .val (.long p3), .second, .val (.ref a2), .unset] [(.int (3 : Int32)), (.ref a2)])
  refine WGo.st (fun _ q => XS.lloadN S17.here hx rfl (hb hby at_36) rfl q) ?_
  show WGo _ _ _ _ _ _ _ _ T15 (mkF m 37 #[.val (.int p1), .val (.int p2), .val (.long p3), .second, .val (.ref a2), .unset] [(.long p3), (.int (3 : Int32)), (.ref a2)])
  refine WGo.st (fun _ q => XS.bipush S17.here hx rfl (hb hby at_37) q) ?_
  show WGo _ _ _ _ _ _ _ _ T15 (mkF m 39 #[.val (.int p1), .val (.int p2), .val (.long p3), .second, .val (.ref a2), .unset] [(.int (24 : Int32)), (.long p3), (.int (3 : Int32)), (.ref a2)])
  refine WGo.st (fun _ q => XS.lushr S17.here hx rfl (hb hby at_39) rfl q) ?_
  show WGo _ _ _ _ _ _ _ _ T15 (mkF m 40 #[.val (.int p1), .val (.int p2), .val (.long p3), .second, .val (.ref a2), .unset] [(.long ((p3.toUInt64 >>> ((24 : Int32) &&& 0x3f).toInt64.toUInt64).toInt64)), (.int (3 : Int32)), (.ref a2)])
  refine WGo.st (fun _ q => XS.l2i S17.here hx rfl (hb hby at_40) rfl q) ?_
  show WGo _ _ _ _ _ _ _ _ T15 (mkF m 41 #[.val (.int p1), .val (.int p2), .val (.long p3), .second, .val (.ref a2), .unset] [(.int (((p3.toUInt64 >>> ((24 : Int32) &&& 0x3f).toInt64.toUInt64).toInt64).toInt32)), (.int (3 : Int32)), (.ref a2)])
  refine WGo.st (fun _ q => XS.i2b S17.here hx rfl (hb hby at_41) rfl q) ?_
  show WGo _ _ _ _ _ _ _ _ T15 (mkF m 42 #[.val (.int p1), .val (.int p2), .val (.long p3), .second, .val (.ref a2), .unset] [(.int ((((p3.toUInt64 >>> ((24 : Int32) &&& 0x3f).toInt64.toUInt64).toInt64).toInt32).toInt8.toInt32)), (.int (3 : Int32)), (.ref a2)])
  generalize ((((p3.toUInt64 >>> ((24 : Int32) &&& 0x3f).toInt64.toUInt64).toInt64).toInt32).toInt8.toInt32) = z42
  show WGo _ _ _ _ _ _ _ _ T15 (mkF m 42 #[.val (.int p1), .val (.int p2), .val (.long p3), .second, .val (.ref a2), .unset] [(.int z42), (.int (3 : Int32)), (.ref a2)])
  refine w_bastore S17 A19 g_a2 rfl (hb hby at_42) rfl (by decide) (by decide : (3 : Int32).toInt < ((8 : Nat) : Int)) (L' := [(z12.toInt8.toInt32), (z22.toInt8.toInt32), (z32.toInt8.toInt32), (z42.toInt8.toInt32), (0 : Int32), (0 : Int32), (0 : Int32), (0 : Int32)]) rfl ?_
  intro T20 h21 S22 K23 A24
  show WGo _ _ _ _ _ _ _ _ T20 (mkF m 43 #[.val (.int p1), .val (.int p2), .val (.long p3), .second, .val (.ref a2), .unset] [])
  refine WGo.st (fun _ q => XS.aload S22.here hx rfl (hb hby at_43) rfl rfl q) ?_
  show WGo _ _ _ _ _ _ _ _ T20 (mkF m 45 #[.val (.int p1), .val (.int p2), .val (.long p3), .second, .val (.ref a2), .unset] [(.ref a2)])
  refine WGo.st (fun _ q => XS.iconst S22.here hx rfl (hb hby at_45) q) ?_
  show WGo _ _ _ _ _ _ _ _ T20 (mkF m 46 #[.val (.int p1), .val (.int p2), .val (.long p3), .second, .val (.ref a2), .unset] [(.int (4 : Int32)), (.ref a2)])
  refine WGo.st (fun _ q => XS.lloadN S22.here hx rfl (hb hby at_46) rfl q) ?_
  show WGo _ _ _ _ _ _ _ _ T20 (mkF m 47 #[.val (.int p1), .val (.int p2), .val (.long p3), .second, .val (.ref a2), .unset] [(.long p3), (.int (4 : Int32)), (.ref a2)])
  refine WGo.st (fun _ q => XS.bipush S22.here hx rfl (hb hby at_47) q) ?_
  show WGo _ _ _ _ _ _ _ _ T20 (mkF m 49 #[.val (.int p1), .val (.int p2), .val (.long p3), .second, .val (.ref a2), .unset] [(.int (32 : Int32)), (.long p3), (.int (4 : Int32)), (.ref a2)])
  refine WGo.st (fun _ q => XS.lushr S22.here hx rfl (hb hby at_49) rfl q) ?_
  show WGo _ _ _ _ _ _ _ _ T20 (mkF m 50 #[.val (.int p1), .val (.int p2), .val (.long p3), .second, .val (.ref a2), .unset] [(.long ((p3.toUInt64 >>> ((32 : Int32) &&& 0x3f).toInt64.toUInt64).toInt64)), (.int (4 : Int32)), (.ref a2)])
  refine WGo.st (fun _ q => XS.l2i S22.here hx rfl (hb hby at_50) rfl q) ?_
  show WGo _ _ _ _ _ _ _ _ T20 (mkF m 51 #[.val (.int p1), .val (.int p2), .val (.long p3), .second, .val (.ref a2), .unset] [(.int (((p3.toUInt64 >>> ((32 : Int32) &&& 0x3f).toInt64.toUInt64).toInt64).toInt32)), (.int (4 : Int32)), (.ref a2)])
  refine WGo.st (fun _ q => XS.i2b S22.here hx rfl (hb hby at_51) rfl q) ?_
  show WGo _ _ _ _ _ _ _ _ T20 (mkF m 52 #[.val (.int p1), .val (.int p2), .val (.long p3), .second, .val (.ref a2), .unset] [(.int ((((p3.toUInt64 >>> ((32 : Int32) &&& 0x3f).toInt64.toUInt64).toInt64).toInt32).toInt8.toInt32)), (.int (4 : Int32)), (.ref a2)])
  generalize ((((p3.toUInt64 >>> ((32 : Int32) &&& 0x3f).toInt64.toUInt64).toInt64).toInt32).toInt8.toInt32) = z52
  show WGo _ _ _ _ _ _ _ _ T20 (mkF m 52 #[.val (.int p1), .val (.int p2), .val (.long p3), .second, .val (.ref a2), .unset] [(.int z52), (.int (4 : Int32)), (.ref a2)])
  refine w_bastore S22 A24 g_a2 rfl (hb hby at_52) rfl (by decide) (by decide : (4 : Int32).toInt < ((8 : Nat) : Int)) (L' := [(z12.toInt8.toInt32), (z22.toInt8.toInt32), (z32.toInt8.toInt32), (z42.toInt8.toInt32), (z52.toInt8.toInt32), (0 : Int32), (0 : Int32), (0 : Int32)]) rfl ?_
  intro T25 h26 S27 K28 A29
  show WGo _ _ _ _ _ _ _ _ T25 (mkF m 53 #[.val (.int p1), .val (.int p2), .val (.long p3), .second, .val (.ref a2), .unset] [])
  refine WGo.st (fun _ q => XS.aload S27.here hx rfl (hb hby at_53) rfl rfl q) ?_
  show WGo _ _ _ _ _ _ _ _ T25 (mkF m 55 #[.val (.int p1), .val (.int p2), .val (.long p3), .second, .val (.ref a2), .unset] [(.ref a2)])
  refine WGo.st (fun _ q => XS.iconst S27.here hx rfl (hb hby at_55) q) ?_
  show WGo _ _ _ _ _ _ _ _ T25 (mkF m 56 #[.val (.int p1), .val (.int p2), .val (.long p3), .second, .val (.ref a2), .unset] [(.int (5 : Int32)), (.ref a2)])
  refine WGo.st (fun _ q => XS.lloadN S27.here hx rfl (hb hby at_56) rfl q) ?_
  show WGo _ _ _ _ _ _ _ _ T25 (mkF m 57 #[.val (.int p1), .val (.int p2), .val (.long p3), .second, .val (.ref a2), .unset] [(.long p3), (.int (5 : Int32)), (.ref a2)])
  refine WGo.st (fun _ q => XS.bipush S27.here hx rfl (hb hby at_57) q) ?_
  show WGo _ _ _ _ _ _ _ _ T25 (mkF m 59 #[.val (.int p1), .val (.int p2), .val (.long p3), .second, .val (.ref a2), .unset] [(.int (40 : Int32)), (.long p3), (.int (5 : Int32)), (.ref a2)])
  refine WGo.st (fun _ q => XS.lushr S27.here hx rfl (hb hby at_59) rfl q) ?_
  show WGo _ _ _ _ _ _ _ _ T25 (mkF m 60 #[.val (.int p1), .val (.int p2), .val (.long p3), .second, .val (.ref a2), .unset] [(.long ((p3.toUInt64 >>> ((40 : Int32) &&& 0x3f).toInt64.toUInt64).toInt64)), (.int (5 : Int32)), (.ref a2)])
  refine WGo.st (fun _ q => XS.l2i S27.here hx rfl (hb hby at_60) rfl q) ?_
  show WGo _ _ _ _ _ _ _ _ T25 (mkF m 61 #[.val (.int p1), .val (.int p2), .val (.long p3), .second, .val (.ref a2), .unset] [(.int (((p3.toUInt64 >>> ((40 : Int32) &&& 0x3f).toInt64.toUInt64).toInt64).toInt32)), (.int (5 : Int32)), (.ref a2)])
  refine WGo.st (fun _ q => XS.i2b S27.here hx rfl (hb hby at_61) rfl q) ?_
  show WGo _ _ _ _ _ _ _ _ T25 (mkF m 62 #[.val (.int p1), .val (.int p2), .val (.long p3), .second, .val (.ref a2), .unset] [(.int ((((p3.toUInt64 >>> ((40 : Int32) &&& 0x3f).toInt64.toUInt64).toInt64).toInt32).toInt8.toInt32)), (.int (5 : Int32)), (.ref a2)])
  generalize ((((p3.toUInt64 >>> ((40 : Int32) &&& 0x3f).toInt64.toUInt64).toInt64).toInt32).toInt8.toInt32) = z62
  show WGo _ _ _ _ _ _ _ _ T25 (mkF m 62 #[.val (.int p1), .val (.int p2), .val (.long p3), .second, .val (.ref a2), .unset] [(.int z62), (.int (5 : Int32)), (.ref a2)])
  refine w_bastore S27 A29 g_a2 rfl (hb hby at_62) rfl (by decide) (by decide : (5 : Int32).toInt < ((8 : Nat) : Int)) (L' := [(z12.toInt8.toInt32), (z22.toInt8.toInt32), (z32.toInt8.toInt32), (z42.toInt8.toInt32), (z52.toInt8.toInt32), (z62.toInt8.toInt32), (0 : Int32), (0 : Int32)]) rfl ?_
  intro T30 h31 S32 K33 A34
  show WGo _ _ _ _ _ _ _ _ T30 (mkF m 63 #[.val (.int p1), .val (.int p2), .val (.long p3), .second, .val (.ref a2), .unset] [])
  refine WGo.st (fun _ q => XS.aload S32.here hx rfl (hb hby at_63) rfl rfl q) ?_
  show WGo _ _ _ _ _ _ _ _ T30 (mkF m 65 #[.val (.int p1), .val (.int p2), .val (.long p3), .second, .val (.ref a2), .unset] [(.ref a2)])
  refine WGo.st (fun _ q => XS.bipush S32.here hx rfl (hb hby at_65) q) ?_
  show WGo _ _ _ _ _ _ _ _ T30 (mkF m 67 #[.val (.int p1), .val (.int p2), .val (.long p3), .second, .val (.ref a2), .unset] [(.int (6 : Int32)), (.ref a2)])
  refine WGo.st (fun _ q => XS.lloadN S32.here hx rfl (hb hby at_67) rfl q) ?_
  show WGo _ _ _ _ _ _ _ _ T30 (mkF m 68 #[.val (.int p1), .val (.int p2), .val (.long p3), .second, .val (.ref a2), .unset] [(.long p3), (.int (6 : Int32)), (.ref a2)])
  refine WGo.st (fun _ q => XS.bipush S32.here hx rfl (hb hby at_68) q) ?_
  show WGo _ _ _ _ _ _ _ _ T30 (mkF m 70 #[.val (.int p1), .val (.int p2), .val (.long p3), .second, .val (.ref a2), .unset] [(.int (48 : Int32)), (.long p3), (.int (6 : Int32)), (.ref a2)])
  refine WGo.st (fun _ q => XS.lushr S32.here hx rfl (hb hby at_70) rfl q) ?_
  show WGo _ _ _ _ _ _ _ _ T30 (mkF m 71 #[.val (.int p1), .val (.int p2), .val (.long p3), .second, .val (.ref a2), .unset] [(.long ((p3.toUInt64 >>> ((48 : Int32) &&& 0x3f).toInt64.toUInt64).toInt64)), (.int (6 : Int32)), (.ref a2)])
  refine WGo.st (fun _ q => XS.l2i S32.here hx rfl (hb hby at_71) rfl q) ?_
  show WGo _ _ _ _ _ _ _ _ T30 (mkF m 72 #[.val (.int p1), .val (.int p2), .val (.long p3), .second, .val (.ref a2), .unset] [(.int (((p3.toUInt64 >>> ((48 : Int32) &&& 0x3f).toInt64.toUInt64).toInt64).toInt32)), (.int (6 : Int32)), (.ref a2)])
  refine WGo.st (fun _ q => XS.i2b S32.here hx rfl (hb hby at_72) rfl q) ?_
  show WGo _ _ _ _ _ _ _ _ T30 (mkF m 73 #[.val (.int p1), .val (.int p2), .val (.long p3), .second, .val (.ref a2), .unset] [(.int ((((p3.toUInt64 >>> ((48 : Int32) &&& 0x3f).toInt64.toUInt64).toInt64).toInt32).toInt8.toInt32)), (.int (6 : Int32)), (.ref a2)])
  generalize ((((p3.toUInt64 >>> ((48 : Int32) &&& 0x3f).toInt64.toUInt64).toInt64).toInt32).toInt8.toInt32) = z73
  show WGo _ _ _ _ _ _ _ _ T30 (mkF m 73 #[.val (.int p1), .val (.int p2), .val (.long p3), .second, .val (.ref a2), .unset] [(.int z73), (.int (6 : Int32)), (.ref a2)])
  refine w_bastore S32 A34 g_a2 rfl (hb hby at_73) rfl (by decide) (by decide : (6 : Int32).toInt < ((8 : Nat) : Int)) (L' := [(z12.toInt8.toInt32), (z22.toInt8.toInt32), (z32.toInt8.toInt32), (z42.toInt8.toInt32), (z52.toInt8.toInt32), (z62.toInt8.toInt32), (z73.toInt8.toInt32), (0 : Int32)]) rfl ?_
  intro T35 h36 S37 K38 A39
  show WGo _ _ _ _ _ _ _ _ T35 (mkF m 74 #[.val (.int p1), .val (.int p2), .val (.long p3), .second, .val (.ref a2), .unset] [])
  refine WGo.st (fun _ q => XS.aload S37.here hx rfl (hb hby at_74) rfl rfl q) ?_
  show WGo _ _ _ _ _ _ _ _ T35 (mkF m 76 #[.val (.int p1), .val (.int p2), .val (.long p3), .second, .val (.ref a2), .unset] [(.ref a2)])
  refine WGo.st (fun _ q => XS.bipush S37.here hx rfl (hb hby at_76) q) ?_
  show WGo _ _ _ _ _ _ _ _ T35 (mkF m 78 #[.val (.int p1), .val (.int p2), .val (.long p3), .second, .val (.ref a2), .unset] [(.int (7 : Int32)), (.ref a2)])
  refine WGo.st (fun _ q => XS.lloadN S37.here hx rfl (hb hby at_78) rfl q) ?_
  show WGo _ _ _ _ _ _ _ _ T35 (mkF m 79 #[.val (.int p1), .val (.int p2), .val (.long p3), .second, .val (.ref a2), .unset] [(.long p3), (.int (7 : Int32)), (.ref a2)])
  refine WGo.st (fun _ q => XS.bipush S37.here hx rfl (hb hby at_79) q) ?_
  show WGo _ _ _ _ _ _ _ _ T35 (mkF m 81 #[.val (.int p1), .val (.int p2), .val (.long p3), .second, .val (.ref a2), .unset] [(.int (56 : Int32)), (.long p3), (.int (7 : Int32)), (.ref a2)])
  refine WGo.st (fun _ q => XS.lushr S37.here hx rfl (hb hby at_81) rfl q) ?_
  show WGo _ _ _ _ _ _ _ _ T35 (mkF m 82 #[.val (.int p1), .val (.int p2), .val (.long p3), .second, .val (.ref a2), .unset] [(.long ((p3.toUInt64 >>> ((56 : Int32) &&& 0x3f).toInt64.toUInt64).toInt64)), (.int (7 : Int32)), (.ref a2)])
  refine WGo.st (fun _ q => XS.l2i S37.here hx rfl (hb hby at_82) rfl q) ?_
  show WGo _ _ _ _ _ _ _ _ T35 (mkF m 83 #[.val (.int p1), .val (.int p2), .val (.long p3), .second, .val (.ref a2), .unset] [(.int (((p3.toUInt64 >>> ((56 : Int32) &&& 0x3f).toInt64.toUInt64).toInt64).toInt32)), (.int (7 : Int32)), (.ref a2)])
  refine WGo.st (fun _ q => XS.i2b S37.here hx rfl (hb hby at_83) rfl q) ?_
  show WGo _ _ _ _ _ _ _ _ T35 (mkF m 84 #[.val (.int p1), .val (.int p2), .val (.long p3), .second, .val (.ref a2), .unset] [(.int ((((p3.toUInt64 >>> ((56 : Int32) &&& 0x3f).toInt64.toUInt64).toInt64).toInt32).toInt8.toInt32)), (.int (7 : Int32)), (.ref a2)])
  generalize ((((p3.toUInt64 >>> ((56 : Int32) &&& 0x3f).toInt64.toUInt64).toInt64).toInt32).toInt8.toInt32) = z84
  show WGo _ _ _ _ _ _ _ _ T35 (mkF m 84 #[.val (.int p1), .val (.int p2), .val (.long p3), .second, .val (.ref a2), .unset] [(.int z84), (.int (7 : Int32)), (.ref a2)])
  refine w_bastore S37 A39 g_a2 rfl (hb hby at_84) rfl (by decide) (by decide : (7 : Int32).toInt < ((8 : Nat) : Int)) (L' := [(z12.toInt8.toInt32), (z22.toInt8.toInt32), (z32.toInt8.toInt32), (z42.toInt8.toInt32), (z52.toInt8.toInt32), (z62.toInt8.toInt32), (z73.toInt8.toInt32), (z84.toInt8.toInt32)]) rfl ?_
  intro T40 h41 S42 K43 A44
  show WGo _ _ _ _ _ _ _ _ T40 (mkF m 85 #[.val (.int p1), .val (.int p2), .val (.long p3), .second, .val (.ref a2), .unset] [])
  refine WGo.st (fun _ q => XS.iloadN S42.here hx rfl (hb hby at_85) rfl q) ?_
  show WGo _ _ _ _ _ _ _ _ T40 (mkF m 86 #[.val (.int p1), .val (.int p2), .val (.long p3), .second, .val (.ref a2), .unset] [(.int p2)])
  refine w_ldc S42 hown (hw _ (List.mem_of_getElem? (i := 1) rfl)) rfl (hb hby at_86) ?_
  show WGo _ _ _ _ _ _ _ _ T40 (mkF m 88 #[.val (.int p1), .val (.int p2), .val (.long p3), .second, .val (.ref a2), .unset] [(.int (2147483647 : Int32)), (.int p2)])
  refine WGo.st (fun _ q => XS.iand S42.here hx rfl (hb hby at_88) rfl q) ?_
  show WGo _ _ _ _ _ _ _ _ T40 (mkF m 89 #[.val (.int p1), .val (.int p2), .val (.long p3), .second, .val (.ref a2), .unset] [(.int (p2 &&& (2147483647 : Int32)))])
  refine WGo.st (fun _ q => XS.iconst S42.here hx rfl (hb hby at_89) q) ?_
  show WGo _ _ _ _ _ _ _ _ T40 (mkF m 90 #[.val (.int p1), .val (.int p2), .val (.long p3), .second, .val (.ref a2), .unset] [(.int (5 : Int32)), (.int (p2 &&& (2147483647 : Int32)))])
  refine w_irem S42 rfl (hb hby at_90) rfl (by decide) ?_
  show WGo _ _ _ _ _ _ _ _ T40 (mkF m 91 #[.val (.int p1), .val (.int p2), .val (.long p3), .second, .val (.ref a2), .unset] [(.int ((p2 &&& (2147483647 : Int32)) % (5 : Int32)))])
  refine WGo.st (fun _ q => XS.istore S42.here hx rfl (hb hby at_91) rfl (l' := #[.val (.int p1), .val (.int p2), .val (.long p3), .second, .val (.ref a2), .val (.int ((p2 &&& (2147483647 : Int32)) % (5 : Int32)))]) rfl q) ?_
  show WGo _ _ _ _ _ _ _ _ T40 (mkF m 93 #[.val (.int p1), .val (.int p2), .val (.long p3), .second, .val (.ref a2), .val (.int ((p2 &&& (2147483647 : Int32)) % (5 : Int32)))] [])
  generalize hv91 : ((p2 &&& (2147483647 : Int32)) % (5 : Int32)) = v91
  show WGo _ _ _ _ _ _ _ _ T40 (mkF m 93 #[.val (.int p1), .val (.int p2), .val (.long p3), .second, .val (.ref a2), .val (.int v91)] [])
  obtain ⟨b0, c0'⟩ : 0 ≤ v91.toInt ∧ v91.toInt < 5 := by rw [← hv91]; exact rem_rng _ _ _ (by decide) (by decide)
  have c0 : v91.toInt < ((8 : Nat) : Int) := by omega
  have q1 : (v91 + (1 : Int32)).toInt = v91.toInt + 1 := add_c (by decide) (by omega) (by omega)
  have b1 : 0 ≤ (v91 + (1 : Int32)).toInt := by omega
  have c1 : (v91 + (1 : Int32)).toInt < ((8 : Nat) : Int) := by omega
  have q2 : (v91 + (2 : Int32)).toInt = v91.toInt + 2 := add_c (by decide) (by omega) (by omega)
  have b2 : 0 ≤ (v91 + (2 : Int32)).toInt := by omega
  have c2 : (v91 + (2 : Int32)).toInt < ((8 : Nat) : Int) := by omega
  have q3 : (v91 + (3 : Int32)).toInt = v91.toInt + 3 := add_c (by decide) (by omega) (by omega)
  have b3 : 0 ≤ (v91 + (3 : Int32)).toInt := by omega
  have c3 : (v91 + (3 : Int32)).toInt < ((8 : Nat) : Int) := by omega
  refine WGo.st (fun _ q => XS.aload S42.here hx rfl (hb hby at_93) rfl rfl q) ?_
  show WGo _ _ _ _ _ _ _ _ T40 (mkF m 95 #[.val (.int p1), .val (.int p2), .val (.long p3), .second, .val (.ref a2), .val (.int v91)] [(.ref a2)])
  refine WGo.st (fun _ q => XS.iload S42.here hx rfl (hb hby at_95) rfl q) ?_
  show WGo _ _ _ _ _ _ _ _ T40 (mkF m 97 #[.val (.int p1), .val (.int p2), .val (.long p3), .second, .val (.ref a2), .val (.int v91)] [(.int v91), (.ref a2)])
  refine WGo.st (fun _ q => XS.iloadN S42.here hx rfl (hb hby at_97) rfl q) ?_
  show WGo _ _ _ _ _ _ _ _ T40 (mkF m 98 #[.val (.int p1), .val (.int p2), .val (.long p3), .second, .val (.ref a2), .val (.int v91)] [(.int p1), (.int v91), (.ref a2)])
  refine WGo.st (fun _ q => XS.bipush S42.here hx rfl (hb hby at_98) q) ?_
  show WGo _ _ _ _ _ _ _ _ T40 (mkF m 100 #[.val (.int p1), .val (.int p2), .val (.long p3), .second, .val (.ref a2), .val (.int v91)] [(.int (24 : Int32)), (.int p1), (.int v91), (.ref a2)])
  refine WGo.st (fun _ q => XS.iushr S42.here hx rfl (hb hby at_100) rfl q) ?_
  show WGo _ _ _ _ _ _ _ _ T40 (mkF m 101 #[.val (.int p1), .val (.int p2), .val (.long p3), .second, .val (.ref a2), .val (.int v91)] [(.int ((p1.toUInt32 >>> ((24 : Int32) &&& 31).toUInt32).toInt32)), (.int v91), (.ref a2)])
  refine WGo.st (fun _ q => XS.i2b S42.here hx rfl (hb hby at_101) rfl q) ?_
  show WGo _ _ _ _ _ _ _ _ T40 (mkF m 102 #[.val (.int p1), .val (.int p2), .val (.long p3), .second, .val (.ref a2), .val (.int v91)] [(.int (((p1.toUInt32 >>> ((24 : Int32) &&& 31).toUInt32).toInt32).toInt8.toInt32)), (.int v91), (.ref a2)])
  refine w_bastore S42 A44 g_a2 rfl (hb hby at_102) rfl b0 c0 (L' := (si [(z12.toInt8.toInt32), (z22.toInt8.toInt32), (z32.toInt8.toInt32), (z42.toInt8.toInt32), (z52.toInt8.toInt32), (z62.toInt8.toInt32), (z73.toInt8.toInt32), (z84.toInt8.toInt32)] v91 (((p1.toUInt32 >>> ((24 : Int32) &&& 31).toUInt32).toInt32).toInt8.toInt32))) (by rw [byte_idem]) ?_
  intro T45 h46 S47 K48 A49
  show WGo _ _ _ _ _ _ _ _ T45 (mkF m 103 #[.val (.int p1), .val (.int p2), .val (.long p3), .second, .val (.ref a2), .val (.int v91)] [])
  refine WGo.st (fun _ q => XS.aload S47.here hx rfl (hb hby at_103) rfl rfl q) ?_
  show WGo _ _ _ _ _ _ _ _ T45 (mkF m 105 #[.val (.int p1), .val (.int p2), .val (.long p3), .second, .val (.ref a2), .val (.int v91)] [(.ref a2)])
  refine WGo.st (fun _ q => XS.iload S47.here hx rfl (hb hby at_105) rfl q) ?_
  show WGo _ _ _ _ _ _ _ _ T45 (mkF m 107 #[.val (.int p1), .val (.int p2), .val (.long p3), .second, .val (.ref a2), .val (.int v91)] [(.int v91), (.ref a2)])
  refine WGo.st (fun _ q => XS.iconst S47.here hx rfl (hb hby at_107) q) ?_
  show WGo _ _ _ _ _ _ _ _ T45 (mkF m 108 #[.val (.int p1), .val (.int p2), .val (.long p3), .second, .val (.ref a2), .val (.int v91)] [(.int (1 : Int32)), (.int v91), (.ref a2)])
  refine WGo.st (fun _ q => XS.iadd S47.here hx rfl (hb hby at_108) rfl q) ?_
  show WGo _ _ _ _ _ _ _ _ T45 (mkF m 109 #[.val (.int p1), .val (.int p2), .val (.long p3), .second, .val (.ref a2), .val (.int v91)] [(.int (v91 + (1 : Int32))), (.ref a2)])
  refine WGo.st (fun _ q => XS.iloadN S47.here hx rfl (hb hby at_109) rfl q) ?_
  show WGo _ _ _ _ _ _ _ _ T45 (mkF m 110 #[.val (.int p1), .val (.int p2), .val (.long p3), .second, .val (.ref a2), .val (.int v91)] [(.int p1), (.int (v91 + (1 : Int32))), (.ref a2)])
  refine WGo.st (fun _ q => XS.bipush S47.here hx rfl (hb hby at_110) q) ?_
  show WGo _ _ _ _ _ _ _ _ T45 (mkF m 112 #[.val (.int p1), .val (.int p2), .val (.long p3), .second, .val (.ref a2), .val (.int v91)] [(.int (16 : Int32)), (.int p1), (.int (v91 + (1 : Int32))), (.ref a2)])
  refine WGo.st (fun _ q => XS.iushr S47.here hx rfl (hb hby at_112) rfl q) ?_
  show WGo _ _ _ _ _ _ _ _ T45 (mkF m 113 #[.val (.int p1), .val (.int p2), .val (.long p3), .second, .val (.ref a2), .val (.int v91)] [(.int ((p1.toUInt32 >>> ((16 : Int32) &&& 31).toUInt32).toInt32)), (.int (v91 + (1 : Int32))), (.ref a2)])
  refine WGo.st (fun _ q => XS.i2b S47.here hx rfl (hb hby at_113) rfl q) ?_
  show WGo _ _ _ _ _ _ _ _ T45 (mkF m 114 #[.val (.int p1), .val (.int p2), .val (.long p3), .second, .val (.ref a2), .val (.int v91)] [(.int (((p1.toUInt32 >>> ((16 : Int32) &&& 31).toUInt32).toInt32).toInt8.toInt32)), (.int (v91 + (1 : Int32))), (.ref a2)])
  refine w_bastore S47 A49 g_a2 rfl (hb hby at_114) rfl b1 (by rw [si_len]; exact c1) (L' := (si (si [(z12.toInt8.toInt32), (z22.toInt8.toInt32), (z32.toInt8.toInt32), (z42.toInt8.toInt32), (z52.toInt8.toInt32), (z62.toInt8.toInt32), (z73.toInt8.toInt32), (z84.toInt8.toInt32)] v91 (((p1.toUInt32 >>> ((24 : Int32) &&& 31).toUInt32).toInt32).toInt8.toInt32)) (v91 + (1 : Int32)) (((p1.toUInt32 >>> ((16 : Int32) &&& 31).toUInt32).toInt32).toInt8.toInt32))) (by rw [byte_idem]) ?_
  intro T50 h51 S52 K53 A54
  show WGo _ _ _ _ _ _ _ _ T50 (mkF m 115 #[.val (.int p1), .val (.int p2), .val (.long p3), .second, .val (.ref a2), .val (.int v91)] [])
  refine WGo.st (fun _ q => XS.aload S52.here hx rfl (hb hby at_115) rfl rfl q) ?_
  show WGo _ _ _ _ _ _ _ _ T50 (mkF m 117 #[.val (.int p1), .val (.int p2), .val (.long p3), .second, .val (.ref a2), .val (.int v91)] [(.ref a2)])
  refine WGo.st (fun _ q => XS.iload S52.here hx rfl (hb hby at_117) rfl q) ?_
  show WGo _ _ _ _ _ _ _ _ T50 (mkF m 119 #[.val (.int p1), .val (.int p2), .val (.long p3), .second, .val (.ref a2), .val (.int v91)] [(.int v91), (.ref a2)])
  refine WGo.st (fun _ q => XS.iconst S52.here hx rfl (hb hby at_119) q) ?_
  show WGo _ _ _ _ _ _ _ _ T50 (mkF m 120 #[.val (.int p1), .val (.int p2), .val (.long p3), .second, .val (.ref a2), .val (.int v91)] [(.int (2 : Int32)), (.int v91), (.ref a2)])
  refine WGo.st (fun _ q => XS.iadd S52.here hx rfl (hb hby at_120) rfl q) ?_
  show WGo _ _ _ _ _ _ _ _ T50 (mkF m 121 #[.val (.int p1), .val (.int p2), .val (.long p3), .second, .val (.ref a2), .val (.int v91)] [(.int (v91 + (2 : Int32))), (.ref a2)])
  refine WGo.st (fun _ q => XS.iloadN S52.here hx rfl (hb hby at_121) rfl q) ?_
  show WGo _ _ _ _ _ _ _ _ T50 (mkF m 122 #[.val (.int p1), .val (.int p2), .val (.long p3), .second, .val (.ref a2), .val (.int v91)] [(.int p1), (.int (v91 + (2 : Int32))), (.ref a2)])
  refine WGo.st (fun _ q => XS.bipush S52.here hx rfl (hb hby at_122) q) ?_
  show WGo _ _ _ _ _ _ _ _ T50 (mkF m 124 #[.val (.int p1), .val (.int p2), .val (.long p3), .second, .val (.ref a2), .val (.int v91)] [(.int (8 : Int32)), (.int p1), (.int (v91 + (2 : Int32))), (.ref a2)])
  refine WGo.st (fun _ q => XS.iushr S52.here hx rfl (hb hby at_124) rfl q) ?_
  show WGo _ _ _ _ _ _ _ _ T50 (mkF m 125 #[.val (.int p1), .val (.int p2), .val (.long p3), .second, .val (.ref a2), .val (.int v91)] [(.int ((p1.toUInt32 >>> ((8 : Int32) &&& 31).toUInt32).toInt32)), (.int (v91 + (2 : Int32))), (.ref a2)])
  refine WGo.st (fun _ q => XS.i2b S52.here hx rfl (hb hby at_125) rfl q) ?_
  show WGo _ _ _ _ _ _ _ _ T50 (mkF m 126 #[.val (.int p1), .val (.int p2), .val (.long p3), .second, .val (.ref a2), .val (.int v91)] [(.int (((p1.toUInt32 >>> ((8 : Int32) &&& 31).toUInt32).toInt32).toInt8.toInt32)), (.int (v91 + (2 : Int32))), (.ref a2)])
  refine w_bastore S52 A54 g_a2 rfl (hb hby at_126) rfl b2 (by rw [si_len, si_len]; exact c2) (L' := (si (si (si [(z12.toInt8.toInt32), (z22.toInt8.toInt32), (z32.toInt8.toInt32), (z42.toInt8.toInt32), (z52.toInt8.toInt32), (z62.toInt8.toInt32), (z73.toInt8.toInt32), (z84.toInt8.toInt32)] v91 (((p1.toUInt32 >>> ((24 : Int32) &&& 31).toUInt32).toInt32).toInt8.toInt32)) (v91 + (1 : Int32)) (((p1.toUInt32 >>> ((16 : Int32) &&& 31).toUInt32).toInt32).toInt8.toInt32)) (v91 + (2 : Int32)) (((p1.toUInt32 >>> ((8 : Int32) &&& 31).toUInt32).toInt32).toInt8.toInt32))) (by rw [byte_idem]) ?_
  intro T55 h56 S57 K58 A59
  show WGo _ _ _ _ _ _ _ _ T55 (mkF m 127 #[.val (.int p1), .val (.int p2), .val (.long p3), .second, .val (.ref a2), .val (.int v91)] [])
  refine WGo.st (fun _ q => XS.aload S57.here hx rfl (hb hby at_127) rfl rfl q) ?_
  show WGo _ _ _ _ _ _ _ _ T55 (mkF m 129 #[.val (.int p1), .val (.int p2), .val (.long p3), .second, .val (.ref a2), .val (.int v91)] [(.ref a2)])
  refine WGo.st (fun _ q => XS.iload S57.here hx rfl (hb hby at_129) rfl q) ?_
  show WGo _ _ _ _ _ _ _ _ T55 (mkF m 131 #[.val (.int p1), .val (.int p2), .val (.long p3), .second, .val (.ref a2), .val (.int v91)] [(.int v91), (.ref a2)])
  refine WGo.st (fun _ q => XS.iconst S57.here hx rfl (hb hby at_131) q) ?_
  show WGo _ _ _ _ _ _ _ _ T55 (mkF m 132 #[.val (.int p1), .val (.int p2), .val (.long p3), .second, .val (.ref a2), .val (.int v91)] [(.int (3 : Int32)), (.int v91), (.ref a2)])
  refine WGo.st (fun _ q => XS.iadd S57.here hx rfl (hb hby at_132) rfl q) ?_
  show WGo _ _ _ _ _ _ _ _ T55 (mkF m 133 #[.val (.int p1), .val (.int p2), .val (.long p3), .second, .val (.ref a2), .val (.int v91)] [(.int (v91 + (3 : Int32))), (.ref a2)])
  refine WGo.st (fun _ q => XS.iloadN S57.here hx rfl (hb hby at_133) rfl q) ?_
  show WGo _ _ _ _ _ _ _ _ T55 (mkF m 134 #[.val (.int p1), .val (.int p2), .val (.long p3), .second, .val (.ref a2), .val (.int v91)] [(.int p1), (.int (v91 + (3 : Int32))), (.ref a2)])
  refine WGo.st (fun _ q => XS.i2b S57.here hx rfl (hb hby at_134) rfl q) ?_
  show WGo _ _ _ _ _ _ _ _ T55 (mkF m 135 #[.val (.int p1), .val (.int p2), .val (.long p3), .second, .val (.ref a2), .val (.int v91)] [(.int (p1.toInt8.toInt32)), (.int (v91 + (3 : Int32))), (.ref a2)])
  refine w_bastore S57 A59 g_a2 rfl (hb hby at_135) rfl b3 (by rw [si_len, si_len, si_len]; exact c3) (L' := (si (si (si (si [(z12.toInt8.toInt32), (z22.toInt8.toInt32), (z32.toInt8.toInt32), (z42.toInt8.toInt32), (z52.toInt8.toInt32), (z62.toInt8.toInt32), (z73.toInt8.toInt32), (z84.toInt8.toInt32)] v91 (((p1.toUInt32 >>> ((24 : Int32) &&& 31).toUInt32).toInt32).toInt8.toInt32)) (v91 + (1 : Int32)) (((p1.toUInt32 >>> ((16 : Int32) &&& 31).toUInt32).toInt32).toInt8.toInt32)) (v91 + (2 : Int32)) (((p1.toUInt32 >>> ((8 : Int32) &&& 31).toUInt32).toInt32).toInt8.toInt32)) (v91 + (3 : Int32)) (p1.toInt8.toInt32))) (by rw [byte_idem]) ?_
  intro T60 h61 S62 K63 A64
  show WGo _ _ _ _ _ _ _ _ T60 (mkF m 136 #[.val (.int p1), .val (.int p2), .val (.long p3), .second, .val (.ref a2), .val (.int v91)] [])
  refine WGo.st (fun _ q => XS.aload S62.here hx rfl (hb hby at_136) rfl rfl q) ?_
  show WGo _ _ _ _ _ _ _ _ T60 (mkF m 138 #[.val (.int p1), .val (.int p2), .val (.long p3), .second, .val (.ref a2), .val (.int v91)] [(.ref a2)])
  refine WGo.st (fun _ q => XS.iload S62.here hx rfl (hb hby at_138) rfl q) ?_
  show WGo _ _ _ _ _ _ _ _ T60 (mkF m 140 #[.val (.int p1), .val (.int p2), .val (.long p3), .second, .val (.ref a2), .val (.int v91)] [(.int v91), (.ref a2)])
  refine w_static S62 (y := (⟨"com/example/keyrange/keyrange/BigEndian", "intAt", "([BI)I"⟩ : MethodName)) hown (hw _ (List.mem_of_getElem? (i := 2) rfl)) (hw _ (List.mem_of_getElem? (i := 3) rfl)) (hw _ (List.mem_of_getElem? (i := 4) rfl)) (hw _ (List.mem_of_getElem? (i := 5) rfl)) (by decide) (rm_A l Z a0 hw n0 h61 a2 v91 (si (si (si (si [(z12.toInt8.toInt32), (z22.toInt8.toInt32), (z32.toInt8.toInt32), (z42.toInt8.toInt32), (z52.toInt8.toInt32), (z62.toInt8.toInt32), (z73.toInt8.toInt32), (z84.toInt8.toInt32)] v91 (((p1.toUInt32 >>> ((24 : Int32) &&& 31).toUInt32).toInt32).toInt8.toInt32)) (v91 + (1 : Int32)) (((p1.toUInt32 >>> ((16 : Int32) &&& 31).toUInt32).toInt32).toInt8.toInt32)) (v91 + (2 : Int32)) (((p1.toUInt32 >>> ((8 : Int32) &&& 31).toUInt32).toInt32).toInt8.toInt32)) (v91 + (3 : Int32)) (p1.toInt8.toInt32)) S62.ge A64 b0 (by rw [si_len, si_len, si_len, si_len]; exact c0) b1 (by rw [si_len, si_len, si_len, si_len]; exact c1) b2 (by rw [si_len, si_len, si_len, si_len]; exact c2) b3 (by rw [si_len, si_len, si_len, si_len]; exact c3)) (W := 0) (by decide) (by decide) (by decide) (by decide) rfl (by rw [hml]; rfl) (argsL := [(.ref a2), (.int v91)]) (rest := []) (ps := [(.array .byte), .int]) (rt := (some .int)) (by decide) rfl rfl rfl (by show 2 * 0 + _ ≤ _; exact Nat.le_of_eq rfl) (hb hby at_140) ?_
  intro T65 h67 w68 S66 q69
  obtain ⟨q69a, q69b⟩ := q69
  subst q69a
  replace q69b := Eq.symm q69b
  subst q69b
  show WGo _ _ _ _ _ _ _ _ T65 (mkF m 143 #[.val (.int p1), .val (.int p2), .val (.long p3), .second, .val (.ref a2), .val (.int v91)] [(.int (((((gi (si (si (si (si [(z12.toInt8.toInt32), (z22.toInt8.toInt32), (z32.toInt8.toInt32), (z42.toInt8.toInt32), (z52.toInt8.toInt32), (z62.toInt8.toInt32), (z73.toInt8.toInt32), (z84.toInt8.toInt32)] v91 (((p1.toUInt32 >>> ((24 : Int32) &&& 31).toUInt32).toInt32).toInt8.toInt32)) (v91 + (1 : Int32)) (((p1.toUInt32 >>> ((16 : Int32) &&& 31).toUInt32).toInt32).toInt8.toInt32)) (v91 + (2 : Int32)) (((p1.toUInt32 >>> ((8 : Int32) &&& 31).toUInt32).toInt32).toInt8.toInt32)) (v91 + (3 : Int32)) (p1.toInt8.toInt32)) v91) <<< ((24 : Int32) &&& 31)) ||| (((gi (si (si (si (si [(z12.toInt8.toInt32), (z22.toInt8.toInt32), (z32.toInt8.toInt32), (z42.toInt8.toInt32), (z52.toInt8.toInt32), (z62.toInt8.toInt32), (z73.toInt8.toInt32), (z84.toInt8.toInt32)] v91 (((p1.toUInt32 >>> ((24 : Int32) &&& 31).toUInt32).toInt32).toInt8.toInt32)) (v91 + (1 : Int32)) (((p1.toUInt32 >>> ((16 : Int32) &&& 31).toUInt32).toInt32).toInt8.toInt32)) (v91 + (2 : Int32)) (((p1.toUInt32 >>> ((8 : Int32) &&& 31).toUInt32).toInt32).toInt8.toInt32)) (v91 + (3 : Int32)) (p1.toInt8.toInt32)) (v91 + (1 : Int32))) &&& (255 : Int32)) <<< ((16 : Int32) &&& 31))) ||| (((gi (si (si (si (si [(z12.toInt8.toInt32), (z22.toInt8.toInt32), (z32.toInt8.toInt32), (z42.toInt8.toInt32), (z52.toInt8.toInt32), (z62.toInt8.toInt32), (z73.toInt8.toInt32), (z84.toInt8.toInt32)] v91 (((p1.toUInt32 >>> ((24 : Int32) &&& 31).toUInt32).toInt32).toInt8.toInt32)) (v91 + (1 : Int32)) (((p1.toUInt32 >>> ((16 : Int32) &&& 31).toUInt32).toInt32).toInt8.toInt32)) (v91 + (2 : Int32)) (((p1.toUInt32 >>> ((8 : Int32) &&& 31).toUInt32).toInt32).toInt8.toInt32)) (v91 + (3 : Int32)) (p1.toInt8.toInt32)) (v91 + (2 : Int32))) &&& (255 : Int32)) <<< ((8 : Int32) &&& 31))) ||| ((gi (si (si (si (si [(z12.toInt8.toInt32), (z22.toInt8.toInt32), (z32.toInt8.toInt32), (z42.toInt8.toInt32), (z52.toInt8.toInt32), (z62.toInt8.toInt32), (z73.toInt8.toInt32), (z84.toInt8.toInt32)] v91 (((p1.toUInt32 >>> ((24 : Int32) &&& 31).toUInt32).toInt32).toInt8.toInt32)) (v91 + (1 : Int32)) (((p1.toUInt32 >>> ((16 : Int32) &&& 31).toUInt32).toInt32).toInt8.toInt32)) (v91 + (2 : Int32)) (((p1.toUInt32 >>> ((8 : Int32) &&& 31).toUInt32).toInt32).toInt8.toInt32)) (v91 + (3 : Int32)) (p1.toInt8.toInt32)) (v91 + (3 : Int32))) &&& (255 : Int32))))])
  refine WGo.st (fun _ q => XS.iloadN S66.here hx rfl (hb hby at_143) rfl q) ?_
  show WGo _ _ _ _ _ _ _ _ T65 (mkF m 144 #[.val (.int p1), .val (.int p2), .val (.long p3), .second, .val (.ref a2), .val (.int v91)] [(.int p1), (.int (((((gi (si (si (si (si [(z12.toInt8.toInt32), (z22.toInt8.toInt32), (z32.toInt8.toInt32), (z42.toInt8.toInt32), (z52.toInt8.toInt32), (z62.toInt8.toInt32), (z73.toInt8.toInt32), (z84.toInt8.toInt32)] v91 (((p1.toUInt32 >>> ((24 : Int32) &&& 31).toUInt32).toInt32).toInt8.toInt32)) (v91 + (1 : Int32)) (((p1.toUInt32 >>> ((16 : Int32) &&& 31).toUInt32).toInt32).toInt8.toInt32)) (v91 + (2 : Int32)) (((p1.toUInt32 >>> ((8 : Int32) &&& 31).toUInt32).toInt32).toInt8.toInt32)) (v91 + (3 : Int32)) (p1.toInt8.toInt32)) v91) <<< ((24 : Int32) &&& 31)) ||| (((gi (si (si (si (si [(z12.toInt8.toInt32), (z22.toInt8.toInt32), (z32.toInt8.toInt32), (z42.toInt8.toInt32), (z52.toInt8.toInt32), (z62.toInt8.toInt32), (z73.toInt8.toInt32), (z84.toInt8.toInt32)] v91 (((p1.toUInt32 >>> ((24 : Int32) &&& 31).toUInt32).toInt32).toInt8.toInt32)) (v91 + (1 : Int32)) (((p1.toUInt32 >>> ((16 : Int32) &&& 31).toUInt32).toInt32).toInt8.toInt32)) (v91 + (2 : Int32)) (((p1.toUInt32 >>> ((8 : Int32) &&& 31).toUInt32).toInt32).toInt8.toInt32)) (v91 + (3 : Int32)) (p1.toInt8.toInt32)) (v91 + (1 : Int32))) &&& (255 : Int32)) <<< ((16 : Int32) &&& 31))) ||| (((gi (si (si (si (si [(z12.toInt8.toInt32), (z22.toInt8.toInt32), (z32.toInt8.toInt32), (z42.toInt8.toInt32), (z52.toInt8.toInt32), (z62.toInt8.toInt32), (z73.toInt8.toInt32), (z84.toInt8.toInt32)] v91 (((p1.toUInt32 >>> ((24 : Int32) &&& 31).toUInt32).toInt32).toInt8.toInt32)) (v91 + (1 : Int32)) (((p1.toUInt32 >>> ((16 : Int32) &&& 31).toUInt32).toInt32).toInt8.toInt32)) (v91 + (2 : Int32)) (((p1.toUInt32 >>> ((8 : Int32) &&& 31).toUInt32).toInt32).toInt8.toInt32)) (v91 + (3 : Int32)) (p1.toInt8.toInt32)) (v91 + (2 : Int32))) &&& (255 : Int32)) <<< ((8 : Int32) &&& 31))) ||| ((gi (si (si (si (si [(z12.toInt8.toInt32), (z22.toInt8.toInt32), (z32.toInt8.toInt32), (z42.toInt8.toInt32), (z52.toInt8.toInt32), (z62.toInt8.toInt32), (z73.toInt8.toInt32), (z84.toInt8.toInt32)] v91 (((p1.toUInt32 >>> ((24 : Int32) &&& 31).toUInt32).toInt32).toInt8.toInt32)) (v91 + (1 : Int32)) (((p1.toUInt32 >>> ((16 : Int32) &&& 31).toUInt32).toInt32).toInt8.toInt32)) (v91 + (2 : Int32)) (((p1.toUInt32 >>> ((8 : Int32) &&& 31).toUInt32).toInt32).toInt8.toInt32)) (v91 + (3 : Int32)) (p1.toInt8.toInt32)) (v91 + (3 : Int32))) &&& (255 : Int32))))])
  have heq : (((((gi (si (si (si (si [(z12.toInt8.toInt32), (z22.toInt8.toInt32), (z32.toInt8.toInt32), (z42.toInt8.toInt32), (z52.toInt8.toInt32), (z62.toInt8.toInt32), (z73.toInt8.toInt32), (z84.toInt8.toInt32)] v91 (((p1.toUInt32 >>> ((24 : Int32) &&& 31).toUInt32).toInt32).toInt8.toInt32)) (v91 + (1 : Int32)) (((p1.toUInt32 >>> ((16 : Int32) &&& 31).toUInt32).toInt32).toInt8.toInt32)) (v91 + (2 : Int32)) (((p1.toUInt32 >>> ((8 : Int32) &&& 31).toUInt32).toInt32).toInt8.toInt32)) (v91 + (3 : Int32)) (p1.toInt8.toInt32)) v91) <<< ((24 : Int32) &&& 31)) ||| (((gi (si (si (si (si [(z12.toInt8.toInt32), (z22.toInt8.toInt32), (z32.toInt8.toInt32), (z42.toInt8.toInt32), (z52.toInt8.toInt32), (z62.toInt8.toInt32), (z73.toInt8.toInt32), (z84.toInt8.toInt32)] v91 (((p1.toUInt32 >>> ((24 : Int32) &&& 31).toUInt32).toInt32).toInt8.toInt32)) (v91 + (1 : Int32)) (((p1.toUInt32 >>> ((16 : Int32) &&& 31).toUInt32).toInt32).toInt8.toInt32)) (v91 + (2 : Int32)) (((p1.toUInt32 >>> ((8 : Int32) &&& 31).toUInt32).toInt32).toInt8.toInt32)) (v91 + (3 : Int32)) (p1.toInt8.toInt32)) (v91 + (1 : Int32))) &&& (255 : Int32)) <<< ((16 : Int32) &&& 31))) ||| (((gi (si (si (si (si [(z12.toInt8.toInt32), (z22.toInt8.toInt32), (z32.toInt8.toInt32), (z42.toInt8.toInt32), (z52.toInt8.toInt32), (z62.toInt8.toInt32), (z73.toInt8.toInt32), (z84.toInt8.toInt32)] v91 (((p1.toUInt32 >>> ((24 : Int32) &&& 31).toUInt32).toInt32).toInt8.toInt32)) (v91 + (1 : Int32)) (((p1.toUInt32 >>> ((16 : Int32) &&& 31).toUInt32).toInt32).toInt8.toInt32)) (v91 + (2 : Int32)) (((p1.toUInt32 >>> ((8 : Int32) &&& 31).toUInt32).toInt32).toInt8.toInt32)) (v91 + (3 : Int32)) (p1.toInt8.toInt32)) (v91 + (2 : Int32))) &&& (255 : Int32)) <<< ((8 : Int32) &&& 31))) ||| ((gi (si (si (si (si [(z12.toInt8.toInt32), (z22.toInt8.toInt32), (z32.toInt8.toInt32), (z42.toInt8.toInt32), (z52.toInt8.toInt32), (z62.toInt8.toInt32), (z73.toInt8.toInt32), (z84.toInt8.toInt32)] v91 (((p1.toUInt32 >>> ((24 : Int32) &&& 31).toUInt32).toInt32).toInt8.toInt32)) (v91 + (1 : Int32)) (((p1.toUInt32 >>> ((16 : Int32) &&& 31).toUInt32).toInt32).toInt8.toInt32)) (v91 + (2 : Int32)) (((p1.toUInt32 >>> ((8 : Int32) &&& 31).toUInt32).toInt32).toInt8.toInt32)) (v91 + (3 : Int32)) (p1.toInt8.toInt32)) (v91 + (3 : Int32))) &&& (255 : Int32))) = p1 := by
    obtain ⟨u0, u1, u2, u3⟩ := four_st [(z12.toInt8.toInt32), (z22.toInt8.toInt32), (z32.toInt8.toInt32), (z42.toInt8.toInt32), (z52.toInt8.toInt32), (z62.toInt8.toInt32), (z73.toInt8.toInt32), (z84.toInt8.toInt32)] v91 (v91 + (1 : Int32)) (v91 + (2 : Int32)) (v91 + (3 : Int32)) (((p1.toUInt32 >>> ((24 : Int32) &&& 31).toUInt32).toInt32).toInt8.toInt32) (((p1.toUInt32 >>> ((16 : Int32) &&& 31).toUInt32).toInt32).toInt8.toInt32) (((p1.toUInt32 >>> ((8 : Int32) &&& 31).toUInt32).toInt32).toInt8.toInt32) (p1.toInt8.toInt32) b0 c0 b1 c1 b2 c2 b3 c3 (by omega) (by omega) (by omega) (by omega) (by omega) (by omega)
    exact fin_word p1 _ _ _ _ u0 u1 u2 u3
  refine WGo.st (fun _ q => XS.icmpNo S66.here hx rfl (hb hby at_144) rfl (teq heq).2 q) ?_
  show WGo _ _ _ _ _ _ _ _ T65 (mkF m 147 #[.val (.int p1), .val (.int p2), .val (.long p3), .second, .val (.ref a2), .val (.int v91)] [])
  refine WGo.st (fun _ q => XS.iconst S66.here hx rfl (hb hby at_147) q) ?_
  show WGo _ _ _ _ _ _ _ _ T65 (mkF m 148 #[.val (.int p1), .val (.int p2), .val (.long p3), .second, .val (.ref a2), .val (.int v91)] [(.int (1 : Int32))])
  refine WGo.st (fun _ q => XS.goto S66.here hx rfl (pc0 := 148) (pc' := 152) rfl (hb hby at_148) (by decide) (by decide) q) ?_
  show WGo _ _ _ _ _ _ _ _ T65 (mkF m 152 #[.val (.int p1), .val (.int p2), .val (.long p3), .second, .val (.ref a2), .val (.int v91)] [(.int (1 : Int32))])
  refine w_retZ S66 hret (hb hby at_152) (by decide) (by decide) (by decide) ?_
  exact rfl
set_option maxRecDepth 65536 in
set_option maxHeartbeats 40000000 in
theorem comes_1 {Post : Tables → Env → Array Value → State → Outcome → State → Prop} (hpost : ∀ tb e args s v u, (limb_1_1.after args s (.returned v) u = true ∧ limb_1_2.after args s (.returned v) u = true ∧ True) → FrameEnd s (.returned v) u (Jvm.fieldLocs frame_1_writes args s ++ Jvm.arrayLocs frame_1_arrays args s ++ Jvm.staticLocs frame_1_statics s) 16 128 → Post tb e args s (.returned v) u) :
    ArmFor flags0 classFile x code maxLocals ret World_1 tables_1 room_1 Calls_1 rest_1 Pre_1 Post := by
  intro l hfl _ _ p e ha hc hk s m args below hf hA hF happ hP
  obtain ⟨hcalls, hrest, hpre⟩ := hP
  obtain ⟨-, -, -, hnamed, -, -, -, hat⟩ := (Spec.applies_iff hf).mp happ
  obtain ⟨hg, hn⟩ := and_e (Cond.before_iff.mp (show (Jvm.Cond.and given_1 narrow_1).before args s = true from hpre))
  obtain ⟨hcount, hg0⟩ := and_e hg
  obtain ⟨ha0, hg1⟩ := and_e hg0
  obtain ⟨ha1, hg2⟩ := and_e hg1
  obtain ⟨w0, w1, w2, rfl⟩ : ∃ (w0 : Value) (w1 : Value) (w2 : Value), args = #[w0, w1, w2] := by
    have hs : args.size = 3 := by simpa [Cond.value, given_1] using hcount
    obtain ⟨L⟩ := args
    match L, hs with
    | [w0, w1, w2], _ => exact ⟨w0, w1, w2, rfl⟩
  have hw := fun d (hd : d ∈ tables_1) => atoms_spec (ws := Jvm.Cond.code x code maxLocals ret :: tables_1) hat d (List.mem_cons_of_mem _ hd)
  obtain ⟨i0, e0⟩ := is_v ha0
  obtain rfl : w0 = (.int i0) := Option.some.inj e0
  obtain ⟨i1, e1⟩ := is_v ha1
  obtain rfl : w1 = (.int i1) := Option.some.inj e1
  obtain ⟨i2, e2⟩ := isL_v hg2
  obtain rfl : w2 = (.long i2) := Option.some.inj e2
  obtain ⟨n, o, h1, h2, h3, _, L, rfl, ⟨hQ, N⟩, hq⟩ := rm_0 l s _ hw s.heap.size s.heap i0 i1 i2  (Nat.le_refl _)  p e ha hc hk s m _ below hf ((Spec.applies_iff_loose hf).mp happ).1 ⟨rfl, State.Warmed39.refl s, rfl⟩ trivial
  obtain rfl := hQ
  refine ⟨n, _, h1, h2, h3, hpost _ _ _ _ _ _ ⟨Cond.after_iff.mpr rfl, Cond.after_iff.mpr (eq_i res_at (Term.int_eval (1)) rfl), trivial⟩ ⟨hq.1, hq.2.1, (hq.2.2.sift fun y hy => Or.inr (N y hy)).mono (by decide) (by decide)⟩⟩
theorem main_1_1 : Claimed_1_1 := comes_1 fun _ _ _ _ _ _ h hF => ⟨h.1, hF⟩
theorem main_1_2 : Claimed_1_2 := comes_1 fun _ _ _ _ _ _ h hF => ⟨h.2.1, hF⟩
end Jvm.Pilot.@@N@@
namespace Jvm.Pilot.@@N@@
open Jvm Jvm.ClassFile Sem Op Lib Jvm.Free Jvm.Stand Jvm.Pilot.@@N@@.Jvm.D
/-! MADE BY PROGRAM (witnessworld.py) out of the Statement's table words and the real class files: 9 classes; the members and pool entries that the words name. The judged class is class 1, her method 1. -/
namespace start1
open Jvm.ClassFile
def u (s : String) : CpInfo := .utf8 (stringToUtf16 s)
/-- a pool by its gaps: so many unusable entries, then the entry; so many at the end -/
def gap : Nat → List CpInfo → List CpInfo
  | 0, r => r
  | n + 1, r => .unusable :: gap n r
def poolList (es : List (Nat × CpInfo)) (last : Nat) : List CpInfo := es.foldr (fun e r => gap e.1 (e.2 :: r)) (gap last [])
def pool (es : List (Nat × CpInfo)) (last : Nat) : Array CpInfo := ⟨poolList es last⟩
def fileOf (pool : Array CpInfo) (this : Nat) (attrs : Array Attribute := #[]) (ms : Array MethodInfo := #[]) (fl : Nat := 33) (sup : Nat := 0) (ifs : Array Nat := #[]) (fds : Array FieldInfo := #[]) : ClassFile where
  minorVersion := 0
  majorVersion := 65
  constantPool := pool
  accessFlags := fl
  thisClass := this
  superClass := sup
  interfaces := ifs
  fields := fds
  methods := ms
  attributes := attrs
def plain (name : String) (sup : Option ClassId) : Class where
  name := name
  kind := .ordinary
  loader := none
  accessFlags := 33
  super := sup
  interfaces := #[]
  cf := none
  fields := #[]
  methods := #[]
  instanceTypes := #[]
  staticTypes := #[]
  resolved := #[]
  callSites := []
  init := .initialized
  statics := none
  mirror := none

def pool0 : Array CpInfo := pool [(5, u "<init>"), (0, u "()V"), (1, .class_ 10), (1, u "java/lang/Object")] 113

def k0m0 : Method := { name := "<init>", desc := "()V", sig := { parameters := [], returnType := none }, accessFlags := 1, code := none }
/-- java/lang/Object -/
def k0 : Class := { plain "java/lang/Object" none with
  accessFlags := 33
  interfaces := #[]
  cf := some (fileOf pool0 8 #[] #[{ accessFlags := 1, nameIndex := 5, descriptorIndex := 6, attributes := #[] }] 33 0 #[] #[])
  fields := #[]
  methods := #[k0m0]
  instanceTypes := #[]
  staticTypes := #[]
  resolved := Array.replicate 124 none
  statics := none }

def pool1 : Array CpInfo := pool [(2, .class_ 4), (1, u "java/lang/Object"), (0, u "<init>"), (0, u "()V"), (0, .integer 2147483647), (0, .methodref 9 10), (0, .class_ 11), (0, .nameAndType 12 13), (0, u "com/example/keyrange/keyrange/BigEndian"), (0, u "intAt"), (0, u "([BI)I"), (0, .class_ 15), (0, u "com/example/keyrange/keyrange/BigEndianIntAtPinLaw"), (2, u "law"), (0, u "(IIJ)Z")] 5

def k1m0 : Method := { name := "<init>", desc := "()V", sig := { parameters := [], returnType := none }, accessFlags := 2, code := none }
def k1c1 : Code := { maxStack := 5, maxLocals := 6, code := code, exceptionTable := #[], attributes := #[] }
def k1m1 : Method := { name := "law", desc := "(IIJ)Z", sig := { parameters := [.int, .int, .long], returnType := some .boolean }, accessFlags := 9, code := some k1c1 }
/-- com/example/keyrange/keyrange/BigEndianIntAtPinLaw -/
def k1 : Class := { plain "com/example/keyrange/keyrange/BigEndianIntAtPinLaw" (some 0) with
  accessFlags := 49
  interfaces := #[]
  cf := some (fileOf pool1 14 #[] #[{ accessFlags := 2, nameIndex := 5, descriptorIndex := 6, attributes := #[] }, { accessFlags := 9, nameIndex := 18, descriptorIndex := 19, attributes := #[] }] 49 2 #[] #[])
  fields := #[]
  methods := #[k1m0, k1m1]
  instanceTypes := #[]
  staticTypes := #[]
  resolved := Array.replicate 25 none
  statics := none }

def pool2 : Array CpInfo := pool [(2, .class_ 4), (1, u "java/lang/Object"), (0, u "<init>"), (0, u "()V"), (1, .class_ 10), (1, u "com/example/keyrange/keyrange/BigEndian"), (0, u "intAt"), (0, u "([BI)I")] 11

def k2m0 : Method := { name := "<init>", desc := "()V", sig := { parameters := [], returnType := none }, accessFlags := 2, code := none }
def k2c1 : Code := { maxStack := 4, maxLocals := 2, code := prog_7_method_3_code, exceptionTable := #[], attributes := #[] }
def k2m1 : Method := { name := "intAt", desc := "([BI)I", sig := { parameters := [(.array .byte), .int], returnType := some .int }, accessFlags := 8, code := some k2c1 }
/-- com/example/keyrange/keyrange/BigEndian -/
def k2 : Class := { plain "com/example/keyrange/keyrange/BigEndian" (some 0) with
  accessFlags := 48
  interfaces := #[]
  cf := some (fileOf pool2 8 #[] #[{ accessFlags := 2, nameIndex := 5, descriptorIndex := 6, attributes := #[] }, { accessFlags := 8, nameIndex := 11, descriptorIndex := 12, attributes := #[] }] 48 2 #[] #[])
  fields := #[]
  methods := #[k2m0, k2m1]
  instanceTypes := #[]
  staticTypes := #[]
  resolved := Array.replicate 24 none
  statics := none }

def pool3 : Array CpInfo := pool [(1, u "java/lang/Cloneable"), (0, .class_ 1), (0, u "java/lang/Object"), (0, .class_ 3)] 3

/-- java/lang/Cloneable -/
def k3 : Class := { plain "java/lang/Cloneable" (some 0) with
  accessFlags := 1537
  interfaces := #[]
  cf := some (fileOf pool3 2 #[] #[] 1537 4 #[] #[])
  fields := #[]
  methods := #[]
  instanceTypes := #[]
  staticTypes := #[]
  resolved := Array.replicate 8 none
  statics := none }

def pool4 : Array CpInfo := pool [(1, u "java/io/Serializable"), (0, .class_ 1), (0, u "java/lang/Object"), (0, .class_ 3)] 3

/-- java/io/Serializable -/
def k4 : Class := { plain "java/io/Serializable" (some 0) with
  accessFlags := 1537
  interfaces := #[]
  cf := some (fileOf pool4 2 #[] #[] 1537 4 #[] #[])
  fields := #[]
  methods := #[]
  instanceTypes := #[]
  staticTypes := #[]
  resolved := Array.replicate 8 none
  statics := none }

/-- the primitive byte -/
def k5 : Class := { plain "byte" none with kind := .primitive 'B', accessFlags := 0x411 }
/-- [B -/
def k6 : Class := { plain "[B" (some 0) with kind := .array 5 .byte, interfaces := #[3, 4], accessFlags := 1041 }

/-- the primitive int -/
def k7 : Class := { plain "int" none with kind := .primitive 'I', accessFlags := 0x411 }
/-- [I -/
def k8 : Class := { plain "[I" (some 0) with kind := .array 7 .int, interfaces := #[3, 4], accessFlags := 1041 }

def heap : Heap := #[]
def classes : Array Class := #[k0, k1, k2, k3, k4, k5, k6, k7, k8]
def interned : List (Array UInt16 × Addr) := []
def slotsUsed : Nat := 0
def theMethod : MethodId := ⟨1, 1⟩
def args0 : Array Value := #[.int 5, .int 300, .long 7]
def aboutOver (below : List Frame) : State where
  vm := { classes := classes, interned := interned.toArray }
  heap := heap
  slotsUsed := slotsUsed
  threads := #[{ frames := .invoking theMethod args0 :: below }]
def below0 : List Frame := [.native { method := ⟨0, 0⟩, args := #[] }]
def about1 : State := aboutOver below0
def p0 : Program := .bare "" "" ""
def e0 : Env := launch0.env 0 0 0
theorem w_frames : about1.frames = Frame.invoking theMethod args0 :: below0 := rfl
set_option maxRecDepth 65536 in
theorem w_args : argsFit about1.vm theMethod args0 = true := by decide +kernel
set_option maxRecDepth 65536 in
theorem w_heap : heapFits about1 = true := by decide +kernel
set_option maxRecDepth 65536 in
theorem w_runnable : about1.curStatus? = some .runnable := by decide +kernel
set_option maxRecDepth 65536 in
theorem w_alone : about1.alone = true := by decide +kernel
set_option maxRecDepth 65536 in
theorem w_named : about1.methodNamed? x = some theMethod := by decide +kernel
set_option maxRecDepth 65536 in
theorem w_hears : about1.hears theMethod below0 = true := by decide +kernel
set_option maxRecDepth 65536 in
theorem w_ripe : about1.ripe theMethod args0 below0 = true := by decide +kernel
theorem w_running : about1.status = .running := rfl
set_option maxRecDepth 65536 in
theorem w_room : about1.hasRoom e0.platform room_1 = true :=
  launch0.hasRoom_least _ room_1 (by decide +kernel) (by decide +kernel) (by decide +kernel) (by decide +kernel) (by decide +kernel) (by decide +kernel)
theorem allAtoms_all (ts : List Jvm.Cond) (a : Array Jvm.Value) (st : Jvm.State) : (allAtoms ts).before a st = ts.all (fun c => c.before a st) := by
  induction ts with
  | nil => rfl
  | cons c t ih =>
    show (Jvm.Cond.and c (allAtoms t)).before a st = _
    rw [Jvm.Cond.before_and, ih, List.all_cons]
def words1 : List Jvm.Cond := Jvm.Cond.code x code maxLocals ret :: tables_1
/-- a 'code' word, met by the world's own term for the bytes: nothing is compared byte by byte -/
theorem code_word {y : MethodName} {bytes : ByteArray} {mx : Nat} {rt : Option FieldType} {a : Array Value} {s : State} {m : MethodId} {meth : Method} {c : Code} (h1 : s.methodNamed? y = some m) (h2 : s.vm.method? m = some meth) (h3 : meth.code = some c) (h4 : c.code = bytes)
    (h5 : (c.maxLocals == mx && c.exceptionTable.isEmpty && decide (c.maxStack ≤ mostOperands) && decide (meth.sig.returnType = rt) && !meth.locks && decide (parseMethodDescriptor y.desc = some meth.sig)) = true) : (Jvm.Cond.code y bytes mx rt).before a s = true := by
  simp only [Bool.and_eq_true, beq_iff_eq, Bool.not_eq_true', decide_eq_true_eq] at h5
  obtain ⟨⟨⟨⟨⟨g1, g2⟩, g3⟩, g4⟩, g5⟩, g6⟩ := h5
  simp [Cond.before, Cond.holds, Cond.value, h1, h2, h3, h4, g1, g2, g3, g4, g5, g6]
def isCode : Jvm.Cond → Bool
  | .code _ _ _ _ => true
  | _ => false
theorem all_split {L : List Jvm.Cond} {P : Jvm.Cond → Bool} (h1 : L.all (fun c => isCode c || P c) = true) (h2 : ∀ c ∈ L.filter isCode, P c = true) : L.all P = true := by
  refine List.all_eq_true.mpr fun c hc => ?_
  have h := List.all_eq_true.mp h1 c hc
  rcases Bool.eq_false_or_eq_true (isCode c) with hi | hi
  · exact h2 c (List.mem_filter.mpr ⟨hc, hi⟩)
  · simpa [hi] using h
set_option maxRecDepth 65536 in
theorem w_c0 : (Jvm.Cond.code x code maxLocals ret).before args0 about1 = true := code_word (m := ⟨1, 1⟩) (meth := k1m1) (c := k1c1) (by decide +kernel) rfl rfl rfl (by decide +kernel)
set_option maxRecDepth 65536 in
theorem w_c1 : (Jvm.Cond.code ({ cls := "com/example/keyrange/keyrange/BigEndian", name := "intAt", desc := "([BI)I" } : Jvm.MethodName) prog_7_method_3_code (2 : Nat) (Option.some Jvm.ClassFile.FieldType.int)).before args0 about1 = true := code_word (m := ⟨2, 1⟩) (meth := k2m1) (c := k2c1) (by decide +kernel) rfl rfl rfl (by decide +kernel)
def codes1 : List Jvm.Cond := [Jvm.Cond.code x code maxLocals ret, Jvm.Cond.code ({ cls := "com/example/keyrange/keyrange/BigEndian", name := "intAt", desc := "([BI)I" } : Jvm.MethodName) prog_7_method_3_code (2 : Nat) (Option.some Jvm.ClassFile.FieldType.int)]
set_option maxRecDepth 65536 in
theorem codes_eq : words1.filter isCode = codes1 := rfl
theorem w_codes : ∀ c ∈ words1.filter isCode, c.before args0 about1 = true := by
  rw [codes_eq]
  intro c hc
  simp only [codes1, List.mem_cons, List.not_mem_nil, or_false] at hc
  rcases hc with rfl | rfl
  · exact w_c0
  · exact w_c1
set_option maxRecDepth 65536 in
theorem w_t1 : words1.all (fun c => isCode c || c.before args0 about1) = true := by decide +kernel
theorem w_tables : (allAtoms (Jvm.Cond.code x code maxLocals ret :: tables_1)).before args0 about1 = true := by
  rw [allAtoms_all]
  show words1.all (fun c => c.before args0 about1) = true
  refine all_split ?_ w_codes
  rw [w_t1]
set_option maxRecDepth 65536 in
theorem w_case : (Jvm.Cond.and given_1 narrow_1).before args0 about1 = true := by decide +kernel
theorem w_applies : (headSpec (Jvm.Cond.code x code maxLocals ret :: tables_1) room_1).applies x e0.platform about1 = true :=
  (Spec.applies_iff w_frames).mpr ⟨w_running, w_runnable, w_alone, w_named, w_hears, w_ripe, w_room, w_tables⟩
theorem atStart : AtStart classFile x code maxLocals ret World_1 tables_1 room_1 Calls_1 rest_1 Pre_1 launch0 p0 e0 about1 theMethod args0 below0 :=
  ⟨lists_1, trivial, launch0.admits_env _ _ _, launch0.least_env, fairChoices_fair.cas, fairChoices_fair.clock, w_frames, w_args, w_heap, w_applies, trivial, trivial, w_case⟩
end start1
theorem witness_1 : WitnessClaimed_1 := ⟨start1.p0, start1.e0, start1.about1, start1.theMethod, start1.args0, start1.below0, start1.atStart⟩
end Jvm.Pilot.@@N@@
