import JvmDerived
import JvmDerived.Pilot.@@N@@Statement
import JvmDerived.Pilot.@@N@@Code
set_option linter.unusedVariables false
set_option linter.unusedSimpArgs false
namespace Jvm.Pilot.@@N@@
open Jvm Jvm.ClassFile Sem Op Lib Jvm.Free Jvm.Stand Jvm.LawKit Jvm.RoadKit Bundle Jvm.Pilot.@@N@@.Jvm.D
section Core
variable {p : Program} {l : Launch} {e : Env} {R : Room} {s : State} {m : MethodId} {args : Array Value} {below : List Frame} {meth : Method} {c : Code} {Z : State} {n0 : Nat} {T : State} {h : Heap} {k n : Nat} {Q : Option Value → Heap → Prop} {K N : Nat} {a0 : Array Value}
/-- where a walk stands: the state T, its heap h, k cells and n slots made so far; every place that was written is new -/
def WSt (p : Program) (l : Launch) (e : Env) (R : Room) (s : State) (m : MethodId) (args : Array Value) (below : List Frame) (meth : Method) (c : Code) (Z : State) (n0 : Nat) (T : State) (h : Heap) (k n : Nat) : Prop :=
  ∃ locs, Stand p l e R s m args below meth c T locs k n ∧ T.heap = h ∧ Fr n0 locs ∧ n0 ≤ s.heap.size ∧ p.tables.exec = Jvm.exec ∧ Z.Warmed39 s.vm ∧ meth.locks = false
/-- from here the invocation returns, and what it leaves answers to Q -/
def WGo (p : Program) (e : Env) (below : List Frame) (s : State) (n0 : Nat) (Q : Option Value → Heap → Prop) (K N : Nat) (T : State) (g : JFrame) : Prop :=
  ∃ s₂ o, Steps p.tables e below (T.setTop g) s₂ ∧ s₂.status = .running ∧ Ended s₂ below o ∧ ∃ v L, o = .returned v ∧ (Q v s₂.heap ∧ Fr n0 L) ∧ FrameEnd s o s₂ L K N
/-- a body's contract at one heap and one list of arguments -/
def WCon (l : Launch) (Z : State) (n0 : Nat) (h0 : Heap) (y : MethodName) (bytes : ByteArray) (maxL : Nat) (ret : Option FieldType) (ws : List Jvm.Cond) (rm : Room) (as : Array Value) (Q : Option Value → Heap → Prop) : Prop :=
  MetFree l y (head1 (Jvm.Cond.code y bytes maxL ret :: ws) rm) (fun a U => a = as ∧ Z.Warmed39 U.vm ∧ U.heap = h0) (fun _ _ _ _ _ => True) (fun _ U o U' => ∃ v L, o = .returned v ∧ (Q v U'.heap ∧ Fr n0 L) ∧ FrameEnd U o U' L rm.cells rm.slots)

theorem WSt.here (S : WSt p l e R s m args below meth c Z n0 T h k n) : At T m c below := by obtain ⟨_, X, _⟩ := S; exact X.here
theorem WSt.eT (S : WSt p l e R s m args below meth c Z n0 T h k n) : T.heap = h := by obtain ⟨_, _, q, _⟩ := S; exact q
theorem WSt.ge (S : WSt p l e R s m args below meth c Z n0 T h k n) : n0 ≤ h.size := by
  obtain ⟨_, X, q, _, r, _⟩ := S
  have h1 : s.heap.size ≤ T.heap.size := X.same.2.1
  rw [← q]; omega
theorem WGo.st {T' : State} {g g' : JFrame} (q : ∀ t, Steps p.tables e below (T'.setTop g') t → Steps p.tables e below (T.setTop g) t) (r : WGo p e below s n0 Q K N T' g') : WGo p e below s n0 Q K N T g := by
  obtain ⟨s2, o, h1, r⟩ := r
  exact ⟨s2, o, q _ h1, r⟩
theorem WGo.cast {g g' : JFrame} (q : g = g') (r : WGo p e below s n0 Q K N T g') : WGo p e below s n0 Q K N T g := q ▸ r
theorem WCon.of {y : MethodName} {bytes : ByteArray} {maxL : Nat} {ret : Option FieldType} {ws : List Jvm.Cond} {rm : Room} {as : Array Value} {h0 : Heap} (hp : plainFor y = true) (hn0 : n0 ≤ h0.size)
    (body : ∀ (p : Program) (e : Env) (s : State) (m : MethodId) (below : List Frame) (meth : Method) (c : Code) (T : State), p.tables.exec = Jvm.exec → Z.Warmed39 s.vm → c.code = bytes → c.maxLocals = maxL → s.vm.findClass y.cls = some m.cls → meth.name = y.name → meth.sig.returnType = ret → WSt p l e rm s m as below meth c Z n0 T h0 0 0 → WGo p e below s n0 Q rm.cells rm.slots T (entryFrame m as maxL)) :
    WCon l Z n0 h0 y bytes maxL ret ws rm as Q := by
  refine MetFree.of_bodySF hp hisR ?_
  intro p e s m args below meth c s₁ Bd hml0 hP hK
  obtain ⟨rfl, hZ, hh⟩ := hP
  have X0 := Stand.of_body Bd
  exact body p e s m below meth c s₁ Bd.exec hZ Bd.bytes hml0 (findClass_of_methodNamed Bd.named) (name_of_methodNamed Bd.named Bd.method).1 Bd.returns ⟨[], X0, by rw [← hh, Bd.state]; rfl, Fr.nil _, by rw [hh]; exact hn0, Bd.exec, hZ, Bd.notSynchronized⟩
/-- the returns -/
theorem w_ret (S : WSt p l e R s m args below meth c Z n0 T h k n) {t : FieldType} {w : Value} {i : Instr} {pc : Nat} {Ls : Array Slot} {rest : List Value} (hret : meth.sig.returnType = some t) (hnw : narrow t w = w)
    (hi : (i = .ireturn ∧ (t = .int ∨ t = .boolean ∨ t = .byte ∨ t = .char ∨ t = .short) ∧ ∃ z, w = .int z) ∨ (i = .lreturn ∧ t = .long ∧ ∃ z, w = .long z) ∨ (i = .dreturn ∧ t = .double ∧ ∃ z, w = .double z) ∨ (i = .freturn ∧ t = .float ∧ ∃ z, w = .float z) ∨ (i = .areturn ∧ t.isReference = true ∧ w.isRef = true))
    (hd : decode c.code pc = .ok (i, 1)) (hk : k ≤ K) (hn : n ≤ N) (hQ : Q (some w) h) : WGo p e below s n0 Q K N T (mkF m pc Ls (w :: rest)) := by
  obtain ⟨locs, X, e1, N1, -, hx, hZ, hlk⟩ := S
  obtain ⟨fs, hr, hrun, hended, hW, hsame⟩ := X.leave (v := some w) (fun q => by rw [hret] at q; cases q) hlk
  refine ⟨_, _, retOut X hx hret hnw hi hd hr, hrun, hended, _, locs, rfl, ⟨?_, N1⟩, ⟨_, rfl⟩, hW, hsame.mono hk hn⟩
  show Q (some w) T.heap
  rw [e1]; exact hQ
theorem w_retI (S : WSt p l e R s m args below meth c Z n0 T h k n) {z : Int32} {pc : Nat} {Ls : Array Slot} {rest : List Value} (hret : meth.sig.returnType = some .int) (hd : decode c.code pc = .ok (.ireturn, 1)) (hk : k ≤ K) (hn : n ≤ N) (hQ : Q (some (.int z)) h) : WGo p e below s n0 Q K N T (mkF m pc Ls (.int z :: rest)) :=
  w_ret S hret rfl (Or.inl ⟨rfl, Or.inl rfl, _, rfl⟩) hd hk hn hQ
theorem w_retZ (S : WSt p l e R s m args below meth c Z n0 T h k n) {z : Int32} {pc : Nat} {Ls : Array Slot} {rest : List Value} (hret : meth.sig.returnType = some .boolean) (hd : decode c.code pc = .ok (.ireturn, 1)) (hz : z = 0 ∨ z = 1) (hk : k ≤ K) (hn : n ≤ N) (hQ : Q (some (.int z)) h) : WGo p e below s n0 Q K N T (mkF m pc Ls (.int z :: rest)) :=
  w_ret S hret (by rcases hz with rfl | rfl <;> rfl) (Or.inl ⟨rfl, Or.inr (Or.inl rfl), _, rfl⟩) hd hk hn hQ
theorem w_retJ (S : WSt p l e R s m args below meth c Z n0 T h k n) {z : Int64} {pc : Nat} {Ls : Array Slot} {rest : List Value} (hret : meth.sig.returnType = some .long) (hd : decode c.code pc = .ok (.lreturn, 1)) (hk : k ≤ K) (hn : n ≤ N) (hQ : Q (some (.long z)) h) : WGo p e below s n0 Q K N T (mkF m pc Ls (.long z :: rest)) :=
  w_ret S hret rfl (Or.inr (Or.inl ⟨rfl, rfl, _, rfl⟩)) hd hk hn hQ
theorem w_retA (S : WSt p l e R s m args below meth c Z n0 T h k n) {t : FieldType} {z : Addr} {pc : Nat} {Ls : Array Slot} {rest : List Value} (hret : meth.sig.returnType = some t) (ht : t.isReference = true) (hnw : narrow t (.ref z) = .ref z) (hd : decode c.code pc = .ok (.areturn, 1)) (hk : k ≤ K) (hn : n ≤ N) (hQ : Q (some (.ref z)) h) : WGo p e below s n0 Q K N T (mkF m pc Ls (.ref z :: rest)) :=
  w_ret S hret hnw (Or.inr (Or.inr (Or.inr (Or.inr ⟨rfl, ht, rfl⟩)))) hd hk hn hQ
theorem w_retV (S : WSt p l e R s m args below meth c Z n0 T h k n) {pc : Nat} {Ls : Array Slot} (hret : meth.sig.returnType = none) (hd : decode c.code pc = .ok (.return_, 1)) (hk : k ≤ K) (hn : n ≤ N) (hQ : Q none h) : WGo p e below s n0 Q K N T (mkF m pc Ls []) := by
  obtain ⟨locs, X, e1, N1, -, hx, hZ, hlk⟩ := S
  obtain ⟨fs, hr, hrun, hended, hW, hsame⟩ := X.leave (v := none) (fun _ => rfl) hlk
  refine ⟨_, _, X.returnOut hx hret hd hr, hrun, hended, _, locs, rfl, ⟨?_, N1⟩, ⟨_, rfl⟩, hW, hsame.mono hk hn⟩
  show Q none T.heap
  rw [e1]; exact hQ
/-- constants, remainder -/
theorem w_ldc (S : WSt p l e R s m args below meth c Z n0 T h k n) {own : String} {index : Nat} {v : Int32} (hown : s.vm.findClass own = some m.cls) (w : (Jvm.Cond.constant own index v).before a0 Z = true) {g : JFrame} (hg : g.method = m) (hd : decode c.code g.pc = .ok (.ldc index, 2))
    (r : WGo p e below s n0 Q K N T { g with pc := g.pc + 2, stack := .int v :: g.stack }) : WGo p e below s n0 Q K N T g := by
  obtain ⟨locs, X, e1, N1, -, hx, hZ, hlk⟩ := S
  exact WGo.st (X.ldcInt hx hown (mvT hZ w) hg hd) r
theorem w_ldc2 (S : WSt p l e R s m args below meth c Z n0 T h k n) {own : String} {index : Nat} {v : Int64} (hown : s.vm.findClass own = some m.cls) (w : (Jvm.Cond.constantLong own index v).before a0 Z = true) {g : JFrame} (hg : g.method = m) (hd : decode c.code g.pc = .ok (.ldc2_w index, 3))
    (r : WGo p e below s n0 Q K N T { g with pc := g.pc + 3, stack := .long v :: g.stack }) : WGo p e below s n0 Q K N T g := by
  obtain ⟨locs, X, e1, N1, -, hx, hZ, hlk⟩ := S
  exact WGo.st (X.ldc2Long hx hown (mvT hZ w) hg hd) r
theorem w_irem (S : WSt p l e R s m args below meth c Z n0 T h k n) {g : JFrame} (hg : g.method = m) {x y : Int32} {rest : List Value} (hd : decode c.code g.pc = .ok (.irem, 1)) (hs : g.stack = .int y :: .int x :: rest) (hy : y ≠ 0)
    (r : WGo p e below s n0 Q K N T { g with pc := g.pc + 1, stack := .int (x % y) :: rest }) : WGo p e below s n0 Q K N T g := by
  obtain ⟨locs, X, e1, N1, -, hx, hZ, hlk⟩ := S
  exact WGo.st (fun _ q => iremM X hx hg hd hs hy q) r
/-- arrays of ints, bytes, booleans, chars: the values in order -/
def AI (Z : State) (h : Heap) (a : Addr) (ty : FieldType) (L : List Int32) : Prop := ∃ cl : Cell, Arr Z h a cl ty ∧ cl.slots = (L.map Value.int).toArray
def gi (L : List Int32) (j : Int32) : Int32 := L.getD j.toNatClampNeg 0
def si (L : List Int32) (j : Int32) (v : Int32) : List Int32 := L.set j.toNatClampNeg v
variable {a b : Addr} {ty : FieldType} {L : List Int32} {h' : Heap} {ws : List Addr}
theorem AI.lt (A : AI Z h a ty L) : a < h.size := by obtain ⟨cl, A, -⟩ := A; exact A.lt
theorem AI.keep (A : AI Z h a ty L) (K : Keep h h' ws) (q : a ∉ ws) : AI Z h' a ty L := by obtain ⟨cl, A, r⟩ := A; exact ⟨cl, ⟨K.2.1 a cl A.1 q, A.2⟩, r⟩
theorem ai_size {cl : Cell} (r : cl.slots = (L.map Value.int).toArray) : cl.slots.size = L.length := by rw [r]; simp
theorem ai_in {cl : Cell} {j : Int32} (r : cl.slots = (L.map Value.int).toArray) (h0 : 0 ≤ j.toInt) (h1 : j.toInt < L.length) : ¬ (j < 0 ∨ cl.slots.size ≤ j.toNatClampNeg) := by
  rw [ai_size r]
  have : (0 : Int32).toInt = 0 := rfl
  simp only [Int32.lt_iff_toInt_lt, Int32.toNatClampNeg]; omega
theorem ai_at {cl : Cell} {j : Int32} (r : cl.slots = (L.map Value.int).toArray) (h0 : 0 ≤ j.toInt) (h1 : j.toInt < L.length) : cl.slots[j.toNatClampNeg]? = some (.int (gi L j)) := by
  have q : j.toNatClampNeg < L.length := by simp only [Int32.toNatClampNeg]; omega
  rw [r]
  simp [gi, q]
theorem keep_ext {h h' : Heap} (E : Ext h h') (ws : List Addr) : Keep h h' ws := (Keep.refl h ws).ext E
theorem ai_new {cl : ClassId} {ty : FieldType} {j : Int32} (hty : defaultValue ty = .int 0) : (newA cl ty j).slots = ((List.replicate j.toNatClampNeg (0 : Int32)).map Value.int).toArray := by
  simp [newA, hty]
theorem w_newarray (S : WSt p l e R s m args below meth c Z n0 T h k n) {aty : ArrayType} (w : (Jvm.Cond.arrayClass (newarray.typeOf aty)).before a0 Z = true) (hty : defaultValue (newarray.typeOf aty) = .int 0) {g : JFrame} (hg : g.method = m) (hd : decode c.code g.pc = .ok (.newarray aty, 2)) {j : Int32} {rest : List Value} (hs : g.stack = .int j :: rest)
    (hj : ¬ j < 0) {cap : Nat} (hcap : j.toNatClampNeg ≤ cap) (hb : cap * 8 ≤ 536870912) (hc : k + 1 ≤ R.cells) (hl : n + cap ≤ R.slots) {L : List Int32} (hL : List.replicate j.toNatClampNeg 0 = L)
    (r : ∀ T' h' a', WSt p l e R s m args below meth c Z n0 T' h' (k + 1) (n + cap) → Keep h h' [] → a' = h.size → n0 ≤ a' → AI Z h' a' (newarray.typeOf aty) L → WGo p e below s n0 Q K N T' { g with pc := g.pc + 2, stack := .ref a' :: rest }) : WGo p e below s n0 Q K N T g := by
  have hge := S.ge
  obtain ⟨locs, X, e1, N1, n1, hx, hZ, hlk⟩ := S
  obtain ⟨T', h', cA, X', e', E', A', st⟩ := newP X hx hZ w e1 hg hd hs hj hcap hb hc hl
  exact WGo.st st (r T' h' _ ⟨locs, X', e', N1, n1, hx, hZ, hlk⟩ (keep_ext E' _) rfl hge ⟨_, A', by rw [ai_new hty, hL]⟩)
theorem w_iaload (S : WSt p l e R s m args below meth c Z n0 T h k n) (A : AI Z h a .int L) {g : JFrame} (hg : g.method = m) (hd : decode c.code g.pc = .ok (.iaload, 1)) {j : Int32} {rest : List Value} (hs : g.stack = .int j :: .ref a :: rest) (h0 : 0 ≤ j.toInt) (h1 : j.toInt < L.length) {v : Int32} (hv : gi L j = v)
    (r : WGo p e below s n0 Q K N T { g with pc := g.pc + 1, stack := .int v :: rest }) : WGo p e below s n0 Q K N T g := by
  subst hv
  obtain ⟨locs, X, e1, N1, n1, hx, hZ, hlk⟩ := S
  obtain ⟨cl, A, q⟩ := A
  exact WGo.st (fun t u => X.iaload hx (j := j) (v := .int (gi L j)) (by rw [e1]; exact A.1) (State.isArrayOf_alike hZ.alike A.2.1) A.2.2 (ai_in q h0 h1) (ai_at q h0 h1) hg hs hd t u) r
theorem w_caload (S : WSt p l e R s m args below meth c Z n0 T h k n) (A : AI Z h a .char L) {g : JFrame} (hg : g.method = m) (hd : decode c.code g.pc = .ok (.caload, 1)) {j : Int32} {rest : List Value} (hs : g.stack = .int j :: .ref a :: rest) (h0 : 0 ≤ j.toInt) (h1 : j.toInt < L.length) {v : Int32} (hv : gi L j = v)
    (r : WGo p e below s n0 Q K N T { g with pc := g.pc + 1, stack := .int v :: rest }) : WGo p e below s n0 Q K N T g := by
  subst hv
  obtain ⟨locs, X, e1, N1, n1, hx, hZ, hlk⟩ := S
  obtain ⟨cl, A, q⟩ := A
  exact WGo.st (fun t u => X.caload hx (j := j) (v := .int (gi L j)) (by rw [e1]; exact A.1) (State.isArrayOf_alike hZ.alike A.2.1) A.2.2 (ai_in q h0 h1) (ai_at q h0 h1) hg hs hd t u) r
theorem w_baload (S : WSt p l e R s m args below meth c Z n0 T h k n) (A : AI Z h a .byte L) {g : JFrame} (hg : g.method = m) (hd : decode c.code g.pc = .ok (.baload, 1)) {j : Int32} {rest : List Value} (hs : g.stack = .int j :: .ref a :: rest) (h0 : 0 ≤ j.toInt) (h1 : j.toInt < L.length) {v : Int32} (hv : gi L j = v)
    (r : WGo p e below s n0 Q K N T { g with pc := g.pc + 1, stack := .int v :: rest }) : WGo p e below s n0 Q K N T g := by
  subst hv
  obtain ⟨locs, X, e1, N1, n1, hx, hZ, hlk⟩ := S
  obtain ⟨cl, A, q⟩ := A
  exact WGo.st (fun t u => X.baloadBytes hx (j := j) (v := .int (gi L j)) (by rw [e1]; exact A.1) (State.isArrayOf_alike hZ.alike A.2.1) A.2.2 (ai_in q h0 h1) (ai_at q h0 h1) hg hs hd t u) r
theorem w_zaload (S : WSt p l e R s m args below meth c Z n0 T h k n) (A : AI Z h a .boolean L) {g : JFrame} (hg : g.method = m) (hd : decode c.code g.pc = .ok (.baload, 1)) {j : Int32} {rest : List Value} (hs : g.stack = .int j :: .ref a :: rest) (h0 : 0 ≤ j.toInt) (h1 : j.toInt < L.length) {v : Int32} (hv : gi L j = v)
    (r : WGo p e below s n0 Q K N T { g with pc := g.pc + 1, stack := .int v :: rest }) : WGo p e below s n0 Q K N T g := by
  subst hv
  obtain ⟨locs, X, e1, N1, n1, hx, hZ, hlk⟩ := S
  obtain ⟨cl, A, q⟩ := A
  exact WGo.st (fun t u => X.baloadBooleans hx (j := j) (v := .int (gi L j)) (by rw [e1]; exact A.1) (State.isArrayOf_alike hZ.alike A.2.1) A.2.2 (ai_in q h0 h1) (ai_at q h0 h1) hg hs hd t u) r
theorem w_arraylength (S : WSt p l e R s m args below meth c Z n0 T h k n) (A : AI Z h a ty L) {g : JFrame} (hg : g.method = m) (hd : decode c.code g.pc = .ok (.arraylength, 1)) {rest : List Value} (hs : g.stack = .ref a :: rest) {z : Int32} (hz : L.length.toInt32 = z)
    (r : WGo p e below s n0 Q K N T { g with pc := g.pc + 1, stack := .int z :: rest }) : WGo p e below s n0 Q K N T g := by
  obtain ⟨locs, X, e1, N1, n1, hx, hZ, hlk⟩ := S
  obtain ⟨cl, A, q⟩ := A
  subst hz
  exact WGo.st (fun t u => X.arraylength hx (by rw [e1]; exact A.1) (State.isArrayOf_alike hZ.alike A.2.1) hg hs hd t (by rw [ai_size q]; exact u)) r
theorem ai_set {cl : Cell} {j x : Int32} (r : cl.slots = (L.map Value.int).toArray) : (cl.setSlot j.toNatClampNeg (.int x)).slots = ((si L j x).map Value.int).toArray := by
  simp [Cell.setSlot, r, si]
theorem w_iastore (S : WSt p l e R s m args below meth c Z n0 T h k n) (A : AI Z h a .int L) (ga : n0 ≤ a) {g : JFrame} (hg : g.method = m) (hd : decode c.code g.pc = .ok (.iastore, 1)) {j x : Int32} {rest : List Value} (hs : g.stack = .int x :: .int j :: .ref a :: rest) (h0 : 0 ≤ j.toInt) (h1 : j.toInt < L.length) {L' : List Int32} (hL : si L j x = L')
    (r : ∀ T' h', WSt p l e R s m args below meth c Z n0 T' h' k n → Keep h h' [a] → AI Z h' a .int L' → WGo p e below s n0 Q K N T' { g with pc := g.pc + 1, stack := rest }) : WGo p e below s n0 Q K N T g := by
  obtain ⟨locs, X, e1, N1, n1, hx, hZ, hlk⟩ := S
  obtain ⟨cl, A, q⟩ := A
  obtain ⟨T', h', X', e', W', st⟩ := stI X hx hZ e1 A (ai_in q h0 h1) hg hs hd
  exact WGo.st st (r T' h' ⟨_, X', e', Fr.snoc X' N1 ga, n1, hx, hZ, hlk⟩ (Keep.of_wr W') ⟨_, A.same W', by rw [ai_set q, hL]⟩)
theorem w_bastore (S : WSt p l e R s m args below meth c Z n0 T h k n) (A : AI Z h a .byte L) (ga : n0 ≤ a) {g : JFrame} (hg : g.method = m) (hd : decode c.code g.pc = .ok (.bastore, 1)) {j x : Int32} {rest : List Value} (hs : g.stack = .int x :: .int j :: .ref a :: rest) (h0 : 0 ≤ j.toInt) (h1 : j.toInt < L.length) {L' : List Int32} (hL : si L j x.toInt8.toInt32 = L')
    (r : ∀ T' h', WSt p l e R s m args below meth c Z n0 T' h' k n → Keep h h' [a] → AI Z h' a .byte L' → WGo p e below s n0 Q K N T' { g with pc := g.pc + 1, stack := rest }) : WGo p e below s n0 Q K N T g := by
  obtain ⟨locs, X, e1, N1, n1, hx, hZ, hlk⟩ := S
  obtain ⟨cl, A, q⟩ := A
  obtain ⟨T', h', X', e', W', st⟩ := stB X hx hZ e1 A (ai_in q h0 h1) hg hs hd
  exact WGo.st st (r T' h' ⟨_, X', e', Fr.snoc X' N1 ga, n1, hx, hZ, hlk⟩ (Keep.of_wr W') ⟨_, A.same W', by rw [ai_set q]; exact hL ▸ rfl⟩)
theorem w_zastore (S : WSt p l e R s m args below meth c Z n0 T h k n) (A : AI Z h a .boolean L) (ga : n0 ≤ a) {g : JFrame} (hg : g.method = m) (hd : decode c.code g.pc = .ok (.bastore, 1)) {j x : Int32} {rest : List Value} (hs : g.stack = .int x :: .int j :: .ref a :: rest) (h0 : 0 ≤ j.toInt) (h1 : j.toInt < L.length) (hb : x = 0 ∨ x = 1) {L' : List Int32} (hL : si L j x = L')
    (r : ∀ T' h', WSt p l e R s m args below meth c Z n0 T' h' k n → Keep h h' [a] → AI Z h' a .boolean L' → WGo p e below s n0 Q K N T' { g with pc := g.pc + 1, stack := rest }) : WGo p e below s n0 Q K N T g := by
  obtain ⟨locs, X, e1, N1, n1, hx, hZ, hlk⟩ := S
  obtain ⟨cl, A, q⟩ := A
  obtain ⟨T', h', X', e', W', st⟩ := stZ X hx hZ e1 A (ai_in q h0 h1) hg hs hd
  have hx1 : nar .boolean x = x := by rcases hb with rfl | rfl <;> rfl
  rw [hx1] at W'
  exact WGo.st st (r T' h' ⟨_, X', e', Fr.snoc X' N1 ga, n1, hx, hZ, hlk⟩ (Keep.of_wr W') ⟨_, A.same W', by rw [ai_set q, hL]⟩)
/-- calls by contract -/
theorem w_static (S : WSt p l e R s m args below meth c Z n0 T h k n) {own : String} {index : Nat} {y : MethodName} {bytes : ByteArray} {maxL : Nat} {ret : Option FieldType} (hown : s.vm.findClass own = some m.cls) (w1 : (Jvm.Cond.methodLink own index y).before a0 Z = true) (w2 : (Jvm.Cond.static y).before a0 Z = true) (w3 : (Jvm.Cond.initialized y.cls).before a0 Z = true) (w4 : (Jvm.Cond.code y bytes maxL ret).before a0 Z = true) (hy : y.cls ≠ "java/lang/invoke/MethodHandle" ∧ y.cls ≠ "java/lang/invoke/VarHandle")
    {rm : Room} {as : Array Value} {Qc : Option Value → Heap → Prop} (C : WCon l Z n0 h y bytes maxL ret [] rm as Qc) {W : Nat} (hf : rm.frames + 1 ≤ R.frames) (hl : W + (maxL + 11) + rm.locals ≤ R.locals) (hc : k + rm.cells ≤ R.cells) (hs : n + rm.slots ≤ R.slots)
    {g : JFrame} (hg : g.method = m) (hsize : g.locals.size = c.maxLocals) {argsL rest : List Value} {ps : List FieldType} {rt : Option FieldType} (hpd : parseMethodDescriptor y.desc = some ⟨ps, rt⟩) (hlen : argsL.length = ps.length) (hstack : g.stack = argsL.reverse ++ rest) (has : argsL.toArray = as) (hW : 2 * g.monitorRoom + (rest.map fun v => v.category).sum ≤ W) (hd : decode c.code g.pc = .ok (.invokestatic index, 3))
    (r : ∀ T' h' v, WSt p l e R s m args below meth c Z n0 T' h' (k + rm.cells) (n + rm.slots) → Qc v h' → WGo p e below s n0 Q K N T' { g with pc := g.pc + 3, stack := v.toList ++ rest }) : WGo p e below s n0 Q K N T g := by
  obtain ⟨locs, X, e1, N1, n1, hx, hZ, hlk⟩ := S
  have B := backOf (W := W) (s := s) (args := args) (R := R) (p := p) (e := e) (below := below) (len := 3) (a0 := a0) (Q := fun v h L => Qc v h ∧ Fr n0 L) C hZ w4 w3 hf hl
  obtain ⟨v, vm1, ⟨T1, L1, k1, m1⟩, -, X1, ⟨Lc, hQ, l1, y1, z1⟩, st⟩ := Jvm.LawKit.callS X hx (y := y) hown (mvT hZ w1) (mvT hZ w2) (mvT hZ w3) (mvT hZ w4) hy B hg hsize (lenOf hpd hlen) hstack hW hd (fun _ _ => ⟨has, e1, hc, hs⟩)
  dsimp only [Pt.U, Pt.locs, Pt.cells, Pt.slots] at X1 l1 y1 z1 st hQ
  subst l1 y1 z1
  exact WGo.st st (r _ _ v ⟨_, X1, rfl, Fr.app N1 hQ.2, n1, hx, hZ, hlk⟩ hQ.1)
theorem w_special (S : WSt p l e R s m args below meth c Z n0 T h k n) {own : String} {index : Nat} {y : MethodName} {bytes : ByteArray} {maxL : Nat} (hyn : y.name = "<init>") (hown : s.vm.findClass own = some m.cls) (w1 : (Jvm.Cond.methodLink own index y).before a0 Z = true) (w2 : (Jvm.Cond.instanceMethod y).before a0 Z = true) (w3 : (Jvm.Cond.initialized y.cls).before a0 Z = true) (w4 : (Jvm.Cond.code y bytes maxL none).before a0 Z = true) (hy : y.cls ≠ "java/lang/invoke/MethodHandle" ∧ y.cls ≠ "java/lang/invoke/VarHandle")
    {rm : Room} {as : Array Value} {Qc : Option Value → Heap → Prop} (C : WCon l Z n0 h y bytes maxL none [] rm as Qc) {W : Nat} (hf : rm.frames + 1 ≤ R.frames) (hl : W + (maxL + 11) + rm.locals ≤ R.locals) (hc : k + rm.cells ≤ R.cells) (hs : n + rm.slots ≤ R.slots)
    {g : JFrame} (hg : g.method = m) (hsize : g.locals.size = c.maxLocals) {argsL rest : List Value} {ps : List FieldType} {rt : Option FieldType} (hpd : parseMethodDescriptor y.desc = some ⟨ps, rt⟩) (hlen : argsL.length = ps.length) (hstack : g.stack = argsL.reverse ++ .ref a :: rest) (has : (Value.ref a :: argsL).toArray = as) (hW : 2 * g.monitorRoom + (rest.map fun v => v.category).sum ≤ W) (hd : decode c.code g.pc = .ok (.invokespecial index, 3))
    (r : ∀ T' h' v, WSt p l e R s m args below meth c Z n0 T' h' (k + rm.cells) (n + rm.slots) → Qc v h' → WGo p e below s n0 Q K N T' { g with pc := g.pc + 3, stack := v.toList ++ rest }) : WGo p e below s n0 Q K N T g := by
  obtain ⟨locs, X, e1, N1, n1, hx, hZ, hlk⟩ := S
  have B := backOf (W := W) (s := s) (args := args) (R := R) (p := p) (e := e) (below := below) (len := 3) (a0 := a0) (Q := fun v h L => Qc v h ∧ Fr n0 L) C hZ w4 w3 hf hl
  obtain ⟨v, vm1, ⟨T1, L1, k1, m1⟩, -, X1, ⟨Lc, hQ, l1, y1, z1⟩, st⟩ := X.specialBack hx (y := y) hyn hown (mvT hZ w1) (mvT hZ w2) (mvT hZ w4) hy B hg hsize (Steps.refl _) (lenOf hpd hlen) hstack hW hd (fun _ _ => ⟨has, e1, hc, hs⟩)
  dsimp only [Pt.U, Pt.locs, Pt.cells, Pt.slots] at X1 l1 y1 z1 st hQ
  subst l1 y1 z1
  exact WGo.st (fun _ q => st.trans q) (r _ _ v ⟨_, X1, rfl, Fr.app N1 hQ.2, n1, hx, hZ, hlk⟩ hQ.1)
theorem w_virtual (S : WSt p l e R s m args below meth c Z n0 T h k n) {own C : String} {index : Nat} {y : MethodName} {bytes : ByteArray} {maxL : Nat} {ret : Option FieldType} (hown : s.vm.findClass own = some m.cls) (w1 : (Jvm.Cond.methodLink own index y).before a0 Z = true) (w2 : (Jvm.Cond.declares y).before a0 Z = true) (w5 : (Jvm.Cond.selects C y y).before a0 Z = true) (w6 : (Jvm.Cond.instanceMethod y).before a0 Z = true) (w3 : (Jvm.Cond.initialized y.cls).before a0 Z = true) (w4 : (Jvm.Cond.code y bytes maxL ret).before a0 Z = true) (hy : y.cls ≠ "java/lang/invoke/MethodHandle" ∧ y.cls ≠ "java/lang/invoke/VarHandle") (E : Exa Z h a C)
    {rm : Room} {as : Array Value} {Qc : Option Value → Heap → Prop} (Cn : WCon l Z n0 h y bytes maxL ret [] rm as Qc) {W : Nat} (hf : rm.frames + 1 ≤ R.frames) (hl : W + (maxL + 11) + rm.locals ≤ R.locals) (hc : k + rm.cells ≤ R.cells) (hs : n + rm.slots ≤ R.slots)
    {g : JFrame} (hg : g.method = m) (hsize : g.locals.size = c.maxLocals) {argsL rest : List Value} {ps : List FieldType} {rt : Option FieldType} (hpd : parseMethodDescriptor y.desc = some ⟨ps, rt⟩) (hlen : argsL.length = ps.length) (hstack : g.stack = argsL.reverse ++ .ref a :: rest) (has : (Value.ref a :: argsL).toArray = as) (hW : 2 * g.monitorRoom + (rest.map fun v => v.category).sum ≤ W) (hd : decode c.code g.pc = .ok (.invokevirtual index, 3))
    (r : ∀ T' h' v, WSt p l e R s m args below meth c Z n0 T' h' (k + rm.cells) (n + rm.slots) → Qc v h' → WGo p e below s n0 Q K N T' { g with pc := g.pc + 3, stack := v.toList ++ rest }) : WGo p e below s n0 Q K N T g := by
  obtain ⟨locs, X, e1, N1, n1, hx, hZ, hlk⟩ := S
  have B := backOf (W := W) (s := s) (args := args) (R := R) (p := p) (e := e) (below := below) (len := 3) (a0 := a0) (Q := fun v h L => Qc v h ∧ Fr n0 L) Cn hZ w4 w3 hf hl
  obtain ⟨cq, kq, qa, qb, qc⟩ := isOf hZ e1 E
  obtain ⟨v, vm1, ⟨T1, L1, k1, m1⟩, -, X1, ⟨Lc, hQ, l1, y1, z1⟩, st⟩ := X.virtualBack hx (y := y) (z := y) hown (mvT hZ w1) (mvT hZ w2) (notFace_of_selects (args := #[]) (mvT hZ w5)) (mvT hZ w5) (mvT hZ w6) hy B qa qc hg hsize (Steps.refl _) (lenOf hpd hlen) hstack hW hd (fun _ _ => ⟨has, e1, hc, hs⟩)
  dsimp only [Pt.U, Pt.locs, Pt.cells, Pt.slots] at X1 l1 y1 z1 st hQ
  subst l1 y1 z1
  exact WGo.st (fun _ q => st.trans q) (r _ _ v ⟨_, X1, rfl, Fr.app N1 hQ.2, n1, hx, hZ, hlk⟩ hQ.1)
theorem w_private (S : WSt p l e R s m args below meth c Z n0 T h k n) {own C : String} {index : Nat} {y z : MethodName} {bytes : ByteArray} {maxL : Nat} {ret : Option FieldType} (hown : s.vm.findClass own = some m.cls) (w1 : (Jvm.Cond.methodLink own index y).before a0 Z = true) (w6 : (Jvm.Cond.instanceMethod y).before a0 Z = true) (w7 : (Jvm.Cond.privateMethod y).before a0 Z = true) (w3 : (Jvm.Cond.initialized y.cls).before a0 Z = true) (w4 : (Jvm.Cond.code y bytes maxL ret).before a0 Z = true) (w5 : (Jvm.Cond.selects z.cls z z).before a0 Z = true) (hzy : z.cls = y.cls) (hy : y.cls ≠ "java/lang/invoke/MethodHandle" ∧ y.cls ≠ "java/lang/invoke/VarHandle") (E : Exa Z h a C)
    {rm : Room} {as : Array Value} {Qc : Option Value → Heap → Prop} (Cn : WCon l Z n0 h y bytes maxL ret [] rm as Qc) {W : Nat} (hf : rm.frames + 1 ≤ R.frames) (hl : W + (maxL + 11) + rm.locals ≤ R.locals) (hc : k + rm.cells ≤ R.cells) (hs : n + rm.slots ≤ R.slots)
    {g : JFrame} (hg : g.method = m) (hsize : g.locals.size = c.maxLocals) {argsL rest : List Value} {ps : List FieldType} {rt : Option FieldType} (hpd : parseMethodDescriptor y.desc = some ⟨ps, rt⟩) (hlen : argsL.length = ps.length) (hstack : g.stack = argsL.reverse ++ .ref a :: rest) (has : (Value.ref a :: argsL).toArray = as) (hW : 2 * g.monitorRoom + (rest.map fun v => v.category).sum ≤ W) (hd : decode c.code g.pc = .ok (.invokevirtual index, 3))
    (r : ∀ T' h' v, WSt p l e R s m args below meth c Z n0 T' h' (k + rm.cells) (n + rm.slots) → Qc v h' → WGo p e below s n0 Q K N T' { g with pc := g.pc + 3, stack := v.toList ++ rest }) : WGo p e below s n0 Q K N T g := by
  obtain ⟨locs, X, e1, N1, n1, hx, hZ, hlk⟩ := S
  have B := backOf (W := W) (s := s) (args := args) (R := R) (p := p) (e := e) (below := below) (len := 3) (a0 := a0) (Q := fun v h L => Qc v h ∧ Fr n0 L) Cn hZ w4 w3 hf hl
  have hpriv := Cond.privateMethod_at (mvP hZ w7 (args := #[]))
  have hsel : (Jvm.Cond.selects y.cls y y).before args s = true := by
    have q5 : (Jvm.Cond.selects z.cls z z).before args s = true := mvT hZ w5
    obtain ⟨c2, r2, m2, -, -, q3, -, kP, hkP, hkPi⟩ := Cond.selects_spec q5
    have hfc := findClass_of_methodNamed q3
    rw [hzy] at hfc
    exact selects_self_of_private hfc hkP hkPi hpriv (mvT hZ w6) hy
  obtain ⟨cq, q1, q2⟩ := E.cell
  obtain ⟨v, vm1, ⟨T1, L1, k1, m1⟩, -, X1, ⟨Lc, hQ, l1, y1, z1⟩, st⟩ := X.privateBack hx (y := y) hown (mvT hZ w1) (mvT hZ w6) hsel hpriv (mvT hZ w4) hy B hg hsize (Steps.refl _) (a := a) (by rw [e1]; exact q1) q2 (lenOf hpd hlen) hstack hW hd (fun _ _ => ⟨has, e1, hc, hs⟩)
  dsimp only [Pt.U, Pt.locs, Pt.cells, Pt.slots] at X1 l1 y1 z1 st hQ
  subst l1 y1 z1
  exact WGo.st (fun _ q => st.trans q) (r _ _ v ⟨_, X1, rfl, Fr.app N1 hQ.2, n1, hx, hZ, hlk⟩ hQ.1)
/-- objects -/
theorem w_objinit (S : WSt p l e R s m args below meth c Z n0 T h k n) {own : String} {idx : Nat} (hown : s.vm.findClass own = some m.cls) (w1 : (Jvm.Cond.methodLink own idx Lib.objectInit).before a0 Z = true) (w2 : (Jvm.Cond.instanceMethod Lib.objectInit).before a0 Z = true) (w3 : (Jvm.Cond.code Lib.objectInit ⟨#[0xb1]⟩ 1 none).before a0 Z = true)
    {g : JFrame} (hg : g.method = m) (hsize : g.locals.size = c.maxLocals) {rest : List Value} (hs : g.stack = .ref a :: rest) (hd : decode c.code g.pc = .ok (.invokespecial idx, 3)) (hf : 1 ≤ R.frames) {W : Nat} (hW : 2 * g.monitorRoom + (rest.map fun v => v.category).sum ≤ W) (hl : W + 12 ≤ R.locals)
    (r : ∀ T', WSt p l e R s m args below meth c Z n0 T' h k n → WGo p e below s n0 Q K N T' { g with pc := g.pc + 3, stack := rest }) : WGo p e below s n0 Q K N T g := by
  obtain ⟨locs, X, e1, N1, n1, hx, hZ, hlk⟩ := S
  obtain ⟨T', X', e', st⟩ := initO X hx hZ hown w1 w2 w3 e1 hg hsize hs hd hf hW hl
  exact WGo.st st (r T' ⟨locs, X', e', N1, n1, hx, hZ, hlk⟩)
theorem w_new (S : WSt p l e R s m args below meth c Z n0 T h k n) {own C : String} {index nn : Nat} (hown : s.vm.findClass own = some m.cls) (w : (Jvm.Cond.classLink own index C).before a0 Z = true) (wi : (Jvm.Cond.instantiable C nn).before a0 Z = true) (wz : (Jvm.Cond.initialized C).before a0 Z = true)
    {g : JFrame} (hg : g.method = m) (hd : decode c.code g.pc = .ok (.new index, 3)) (hc : k + 1 ≤ R.cells) (hl : n + nn ≤ R.slots)
    (r : ∀ T' h' a', WSt p l e R s m args below meth c Z n0 T' h' (k + 1) (n + nn) → Keep h h' [] → a' = h.size → n0 ≤ a' → Exa Z h' a' C → (∀ {O nm d : String} {ty : FieldType}, Laid Z a0 C O nm d → parseFieldDescriptor d = some ty → Fld Z h' a' O nm d (defaultValue ty)) → WGo p e below s n0 Q K N T' { g with pc := g.pc + 3, stack := .ref a' :: g.stack }) : WGo p e below s n0 Q K N T g := by
  have hge := S.ge
  obtain ⟨locs, X, e1, N1, n1, hx, hZ, hlk⟩ := S
  obtain ⟨T', h', X', e', E', A', D', -, st⟩ := newO X hx hZ hown w wi wz e1 hg hd hc hl
  exact WGo.st st (r T' h' _ ⟨locs, X', e', N1, n1, hx, hZ, hlk⟩ (keep_ext E' _) rfl hge A' D')
theorem w_getfield (S : WSt p l e R s m args below meth c Z n0 T h k n) {own R0 O f d : String} {index : Nat} (hown : s.vm.findClass own = some m.cls) (w : (Jvm.Cond.fieldLink own index R0 f d).before a0 Z = true) (via : Via Z R0 O f d) {v : Value} (F : Fld Z h a O f d v) {g : JFrame} (hg : g.method = m) {rest : List Value} (hs : g.stack = .ref a :: rest) (hd : decode c.code g.pc = .ok (.getfield index, 3))
    (r : ∀ T', WSt p l e R s m args below meth c Z n0 T' h k n → WGo p e below s n0 Q K N T' { g with pc := g.pc + 3, stack := v :: rest }) : WGo p e below s n0 Q K N T g := by
  obtain ⟨locs, X, e1, N1, n1, hx, hZ, hlk⟩ := S
  obtain ⟨T', X', e', st⟩ := getF X hx hZ hown (host := "") (Or.inl w) via e1 F hg hs hd
  exact WGo.st st (r T' ⟨locs, X', e', N1, n1, hx, hZ, hlk⟩)
theorem w_putfield (S : WSt p l e R s m args below meth c Z n0 T h k n) {own R0 O f d C : String} {index kk : Nat} {ty : FieldType} (hown : s.vm.findClass own = some m.cls) (w : (Jvm.Cond.fieldLink own index R0 f d).before a0 Z = true) (via : Via Z R0 O f d) {v old : Value} (F : Fld Z h a O f d old) (E : Exa Z h a C)
    (L : (Jvm.Cond.lays C O f d).before a0 Z = true ∨ ((Jvm.Cond.laysFinal C O f d).before a0 Z = true ∧ own = O ∧ meth.name = "<init>")) (wi : (Jvm.Cond.instantiable C kk).before a0 Z = true) (ga : n0 ≤ a)
    (hty : parseFieldDescriptor d = some ty) (hn : narrow ty v = v) (hf : fits ty v = true) {g : JFrame} (hg : g.method = m) {rest : List Value} (hs : g.stack = v :: .ref a :: rest) (hd : decode c.code g.pc = .ok (.putfield index, 3))
    (r : ∀ T' h', WSt p l e R s m args below meth c Z n0 T' h' k n → Wr h h' a (Jvm.RoadKit.slotOf Z O f d) v → Keep h h' [a] → WGo p e below s n0 Q K N T' { g with pc := g.pc + 3, stack := rest }) : WGo p e below s n0 Q K N T g := by
  obtain ⟨locs, X, e1, N1, n1, hx, hZ, hlk⟩ := S
  obtain ⟨T', h', X', e', W', st⟩ := putF X hx hZ hown (host := "") (Or.inl w) via e1 F E L wi hty hn hf hg hs hd
  exact WGo.st st (r T' h' ⟨_, X', e', Fr.snoc X' N1 ga, n1, hx, hZ, hlk⟩ W' (Keep.of_wr W'))
theorem w_getstatic (S : WSt p l e R s m args below meth c Z n0 T h k n) {own R0 O f d : String} {index : Nat} (hown : s.vm.findClass own = some m.cls) (w : (Jvm.Cond.fieldLink own index R0 f d).before a0 Z = true) (via : Via Z R0 O f d) {v : Value} (F : Sta Z h O f d v) {g : JFrame} (hg : g.method = m) (hd : decode c.code g.pc = .ok (.getstatic index, 3))
    (r : ∀ T', WSt p l e R s m args below meth c Z n0 T' h k n → WGo p e below s n0 Q K N T' { g with pc := g.pc + 3, stack := v :: g.stack }) : WGo p e below s n0 Q K N T g := by
  obtain ⟨locs, X, e1, N1, n1, hx, hZ, hlk⟩ := S
  obtain ⟨T', X', e', st⟩ := getS X hx hZ hown (host := "") w via e1 F hg hd
  exact WGo.st st (r T' ⟨locs, X', e', N1, n1, hx, hZ, hlk⟩)
/-- comparisons of longs -/
theorem cl_lt {x y : Int64} (q : x < y) : lcmpW x y = -1 := Int32.toInt_inj.mp ((c_lcmp x y).1 (Int64.lt_iff_toInt_lt.mp q))
theorem cl_eq {x y : Int64} (q : x = y) : lcmpW x y = 0 := Int32.toInt_inj.mp ((c_lcmp x y).2.1 (by rw [q]))
theorem cl_gt {x y : Int64} (q : y < x) : lcmpW x y = 1 := Int32.toInt_inj.mp ((c_lcmp x y).2.2 (Int64.lt_iff_toInt_lt.mp q))
theorem cl_tri (x y : Int64) : x < y ∨ x = y ∨ y < x := by
  simp only [Int64.lt_iff_toInt_lt]
  rcases Int.lt_trichotomy x.toInt y.toInt with q | q | q
  · exact Or.inl q
  · exact Or.inr (Or.inl (Int64.toInt_inj.mp q))
  · exact Or.inr (Or.inr q)
theorem tltJ {x y : Int64} (q : x < y) : ifCond.holds .lt (lcmpW x y) = true ∧ ifCond.holds .ge (lcmpW x y) = false := by rw [cl_lt q]; decide
theorem fltJ {x y : Int64} (q : ¬ x < y) : ifCond.holds .lt (lcmpW x y) = false ∧ ifCond.holds .ge (lcmpW x y) = true := by
  rcases cl_tri x y with r | r | r
  · exact absurd r q
  · rw [cl_eq r]; decide
  · rw [cl_gt r]; decide
theorem tgtJ {x y : Int64} (q : y < x) : ifCond.holds .gt (lcmpW x y) = true ∧ ifCond.holds .le (lcmpW x y) = false := by rw [cl_gt q]; decide
theorem fgtJ {x y : Int64} (q : ¬ y < x) : ifCond.holds .gt (lcmpW x y) = false ∧ ifCond.holds .le (lcmpW x y) = true := by
  rcases cl_tri x y with r | r | r
  · rw [cl_lt r]; decide
  · rw [cl_eq r]; decide
  · exact absurd r q
theorem teqJ {x y : Int64} (q : x = y) : ifCond.holds .eq (lcmpW x y) = true ∧ ifCond.holds .ne (lcmpW x y) = false := by rw [cl_eq q]; decide
theorem feqJ {x y : Int64} (q : ¬ x = y) : ifCond.holds .eq (lcmpW x y) = false ∧ ifCond.holds .ne (lcmpW x y) = true := by
  rcases cl_tri x y with r | r | r
  · rw [cl_lt r]; decide
  · exact absurd r q
  · rw [cl_gt r]; decide
theorem w_dupX2 {tb : Tables} [Ours tb] {target : State} {g : JFrame} (h : At T m c below) (hx : tb.exec = Jvm.exec) (hg : g.method = m) {x y z : Value} {rest : List Value} (hd : decode c.code g.pc = .ok (.dup_x2, 1)) (hs : g.stack = x :: y :: z :: rest) (hc : x.category = 1) (hc1 : y.category = 1) (hc2 : z.category = 1)
    (hr : Steps tb e below (T.setTop { g with pc := g.pc + 1, stack := x :: y :: z :: x :: rest }) target) : Steps tb e below (T.setTop g) target := by
  subst hg
  jvm_step h [h.top, hx, hd, hs, hc, hc1, hc2]
  exact hr
end Core
section Arith
theorem rem_rng (x y : Int32) (d : Int) (hy : y.toInt = d) (hd : 0 < d) : 0 ≤ ((x &&& (2147483647 : Int32)) % y).toInt ∧ ((x &&& (2147483647 : Int32)) % y).toInt < d := by
  have h1 := c_mask x 2147483647 31 (by decide) (by decide)
  have h2 := (c_irem (x &&& 2147483647) y d hy).1 (by omega)
  rw [h2]
  exact ⟨Int.emod_nonneg _ (by omega), Int.emod_lt_of_pos _ hd⟩
theorem byte_idem (x : Int32) : x.toInt8.toInt32.toInt8.toInt32 = x.toInt8.toInt32 := by
  have h1 := c_i2b x
  have h2 := c_i2b x.toInt8.toInt32
  apply Int32.toInt_inj.mp
  omega
theorem si_len (L : List Int32) (j v : Int32) : (si L j v).length = L.length := by simp [si]
theorem gi_same (L : List Int32) (j v : Int32) (h0 : 0 ≤ j.toInt) (h1 : j.toInt < L.length) : gi (si L j v) j = v := by
  have q : j.toNatClampNeg < L.length := by simp only [Int32.toNatClampNeg]; omega
  simp [gi, si, q]
theorem gi_other (L : List Int32) (i j v : Int32) (h0 : 0 ≤ i.toInt) (h1 : 0 ≤ j.toInt) (hne : i.toInt ≠ j.toInt) : gi (si L j v) i = gi L i := by
  have q : j.toNatClampNeg ≠ i.toNatClampNeg := by simp only [Int32.toNatClampNeg]; omega
  simp [gi, si, List.getElem?_set, q]
theorem add_c {x k : Int32} {z : Int} (hz : k.toInt = z) (h0 : -2147483648 ≤ x.toInt + z) (h1 : x.toInt + z < 2147483648) : (x + k).toInt = x.toInt + z := by
  have h := c_iadd x k
  have r := rng32 (x + k)
  omega
theorem sub_c {x k : Int32} {z : Int} (hz : k.toInt = z) (h0 : -2147483648 ≤ x.toInt - z) (h1 : x.toInt - z < 2147483648) : (x - k).toInt = x.toInt - z := by
  have h := c_isub x k
  have r := rng32 (x - k)
  omega
end Arith

def hitF (L : List Int32) (i f t w : Int32) : Int32 := if i < f then 0 else if i < t then (if gi L i = w then 1 else 0) else 0
def refF (L : List Int32) (f t w : Int32) : Int32 := if hitF L (0 : Int32) f t w = (0 : Int32) then (if hitF L (1 : Int32) f t w = (0 : Int32) then (if hitF L (2 : Int32) f t w = (0 : Int32) then (if hitF L (3 : Int32) f t w = (0 : Int32) then -1 else 3) else 2) else 1) else 0
def Fnd (L : List Int32) (f t w r : Int32) : Prop := (r = -1 ∧ ∀ j : Int32, f.toInt ≤ j.toInt → j.toInt < t.toInt → gi L j ≠ w) ∨ (f.toInt ≤ r.toInt ∧ r.toInt < t.toInt ∧ gi L r = w ∧ ∀ j : Int32, f.toInt ≤ j.toInt → j.toInt < r.toInt → gi L j ≠ w)
theorem hit_zero {L : List Int32} {i f t w : Int32} (h : f.toInt ≤ i.toInt → i.toInt < t.toInt → gi L i ≠ w) : hitF L i f t w = 0 := by
  unfold hitF
  split
  · rfl
  · rename_i u
    split
    · rename_i u2
      rw [Int32.lt_iff_toInt_lt] at u u2
      rw [if_neg (h (by omega) u2)]
    · rfl
theorem hit_one {L : List Int32} {i f t w : Int32} (h1 : f.toInt ≤ i.toInt) (h2 : i.toInt < t.toInt) (h3 : gi L i = w) : hitF L i f t w = 1 := by
  unfold hitF
  rw [if_neg (by rw [Int32.lt_iff_toInt_lt]; omega), if_pos (by rw [Int32.lt_iff_toInt_lt]; omega), if_pos h3]
theorem fin_ref {L : List Int32} {f t w r : Int32} (hf : 0 ≤ f.toInt) (ht : t.toInt < 5) (h : Fnd L f t w r) : r = refF L f t w := by
  have e0 : (0 : Int32).toInt = 0 := by decide
  have e1 : (1 : Int32).toInt = 1 := by decide
  have e2 : (2 : Int32).toInt = 2 := by decide
  have e3 : (3 : Int32).toInt = 3 := by decide
  rcases h with ⟨rfl, hno⟩ | ⟨h1, h2, h3, hno⟩
  · rw [refF, hit_zero (hno 0), hit_zero (hno 1), hit_zero (hno 2), hit_zero (hno 3)]; rfl
  · have hr : r.toInt = 0 ∨ r.toInt = 1 ∨ r.toInt = 2 ∨ r.toInt = 3 := by omega
    rcases hr with hr | hr | hr | hr
    · obtain rfl : r = 0 := Int32.toInt_inj.mp (by omega)
      rw [refF, hit_one h1 h2 h3]; rfl
    · obtain rfl : r = 1 := Int32.toInt_inj.mp (by omega)
      rw [refF, hit_zero (i := 0) (fun q _ => hno 0 q (by omega)), hit_one h1 h2 h3]; rfl
    · obtain rfl : r = 2 := Int32.toInt_inj.mp (by omega)
      rw [refF, hit_zero (i := 0) (fun q _ => hno 0 q (by omega)), hit_zero (i := 1) (fun q _ => hno 1 q (by omega)), hit_one h1 h2 h3]; rfl
    · obtain rfl : r = 3 := Int32.toInt_inj.mp (by omega)
      rw [refF, hit_zero (i := 0) (fun q _ => hno 0 q (by omega)), hit_zero (i := 1) (fun q _ => hno 1 q (by omega)), hit_zero (i := 2) (fun q _ => hno 2 q (by omega)), hit_one h1 h2 h3]; rfl
theorem d_method_3_code_0 : decode method_3_code 0 = .ok (.iload_n 2, 1) := by decide +kernel
theorem d_method_3_code_1 : decode method_3_code 1 = .ok (.iload_n 1, 1) := by decide +kernel
theorem d_method_3_code_2 : decode method_3_code 2 = .ok (.if_icmp .gt 20, 3) := by decide +kernel
theorem d_method_3_code_5 : decode method_3_code 5 = .ok (.iload_n 1, 1) := by decide +kernel
theorem d_method_3_code_6 : decode method_3_code 6 = .ok (.iload_n 3, 1) := by decide +kernel
theorem d_method_3_code_7 : decode method_3_code 7 = .ok (.if_icmp .ge 15, 3) := by decide +kernel
theorem d_method_3_code_10 : decode method_3_code 10 = .ok (.aload_n 0, 1) := by decide +kernel
theorem d_method_3_code_11 : decode method_3_code 11 = .ok (.iload_n 1, 1) := by decide +kernel
theorem d_method_3_code_12 : decode method_3_code 12 = .ok (.baload, 1) := by decide +kernel
theorem d_method_3_code_13 : decode method_3_code 13 = .ok (.iload 4, 2) := by decide +kernel
theorem d_method_3_code_15 : decode method_3_code 15 = .ok (.if_icmp .ne 7, 3) := by decide +kernel
theorem d_method_3_code_18 : decode method_3_code 18 = .ok (.iconst 1, 1) := by decide +kernel
theorem d_method_3_code_19 : decode method_3_code 19 = .ok (.goto 4, 3) := by decide +kernel
theorem d_method_3_code_22 : decode method_3_code 22 = .ok (.iconst 0, 1) := by decide +kernel
theorem d_method_3_code_23 : decode method_3_code 23 = .ok (.ireturn, 1) := by decide +kernel
def QH (Z : State) (n0 : Nat) (h0 : Heap) (a1 : Addr) (p2 : Int32) (p3 : Int32) (p4 : Int32) (p5 : Int32) (L : List Int32) (v : Option Value) (h : Heap) : Prop := v = some (.int (hitF L p2 p3 p4 p5)) ∧ h = h0
theorem ef_H (m : MethodId) (a1 : Addr) (p2 : Int32) (p3 : Int32) (p4 : Int32) (p5 : Int32) : entryFrame m #[(.ref a1), (.int p2), (.int p3), (.int p4), (.int p5)] 5 = mkF m 0 #[.val (.ref a1), .val (.int p2), .val (.int p3), .val (.int p4), .val (.int p5)] [] := by first | (simp [entryFrame, mkF, argsToLocals, Value.category, maxLocals]; done) | rfl
set_option maxRecDepth 65536 in
set_option maxHeartbeats 40000000 in
theorem rm_H (l : Launch) (Z : State) (a0 : Array Value) (hw : ∀ d ∈ tables_1, d.before a0 Z = true) (n0 : Nat) (h0 : Heap) (a1 : Addr) (p2 : Int32) (p3 : Int32) (p4 : Int32) (p5 : Int32) (L : List Int32) (Z0 : n0 ≤ h0.size) (A1 : AI Z h0 a1 .byte L) (b0 : 0 ≤ p2.toInt) (b1 : p2.toInt < L.length) :
    WCon l Z n0 h0 (⟨"com/example/keyrange/keyrange/cli/CellTextIndexOfPinLaw", "hit", "([BIIIB)Z"⟩ : MethodName) method_3_code 5 (some .boolean) [] ({ frames := 0, cells := 0, slots := 0, locals := 0 } : Room) #[(.ref a1), (.int p2), (.int p3), (.int p4), (.int p5)] (QH Z n0 h0 a1 p2 p3 p4 p5 L) := by
  refine WCon.of (by first | exact plainFor_of_name (by decide +kernel) | decide +kernel) Z0 ?_
  intro p e s m below meth c T hx hZ hby hml hown hnm hret S
  refine WGo.cast (ef_H m a1 p2 p3 p4 p5) ?_
  show WGo _ _ _ _ _ _ _ _ T (mkF m 0 #[.val (.ref a1), .val (.int p2), .val (.int p3), .val (.int p4), .val (.int p5)] [])
  refine WGo.st (fun _ q => XS.iloadN S.here hx rfl (hb hby d_method_3_code_0) rfl q) ?_
  show WGo _ _ _ _ _ _ _ _ T (mkF m 1 #[.val (.ref a1), .val (.int p2), .val (.int p3), .val (.int p4), .val (.int p5)] [(.int p3)])
  refine WGo.st (fun _ q => XS.iloadN S.here hx rfl (hb hby d_method_3_code_1) rfl q) ?_
  show WGo _ _ _ _ _ _ _ _ T (mkF m 2 #[.val (.ref a1), .val (.int p2), .val (.int p3), .val (.int p4), .val (.int p5)] [(.int p2), (.int p3)])
  by_cases c2 : p2 < p3
  · refine WGo.st (fun _ q => XS.icmpYes S.here hx rfl (pc0 := 2) (pc' := 22) rfl (hb hby d_method_3_code_2) rfl (tlt c2).2.2.1 (by decide) (by decide) q) ?_
    show WGo _ _ _ _ _ _ _ _ T (mkF m 22 #[.val (.ref a1), .val (.int p2), .val (.int p3), .val (.int p4), .val (.int p5)] [])
    refine WGo.st (fun _ q => XS.iconst S.here hx rfl (hb hby d_method_3_code_22) q) ?_
    show WGo _ _ _ _ _ _ _ _ T (mkF m 23 #[.val (.ref a1), .val (.int p2), .val (.int p3), .val (.int p4), .val (.int p5)] [(.int (0 : Int32))])
    refine w_retZ S hret (hb hby d_method_3_code_23) (by decide) (by decide) (by decide) ?_
    exact ⟨by simp [hitF, *], rfl⟩
  · refine WGo.st (fun _ q => XS.icmpNo S.here hx rfl (hb hby d_method_3_code_2) rfl (flt c2).2.2.1 q) ?_
    show WGo _ _ _ _ _ _ _ _ T (mkF m 5 #[.val (.ref a1), .val (.int p2), .val (.int p3), .val (.int p4), .val (.int p5)] [])
    refine WGo.st (fun _ q => XS.iloadN S.here hx rfl (hb hby d_method_3_code_5) rfl q) ?_
    show WGo _ _ _ _ _ _ _ _ T (mkF m 6 #[.val (.ref a1), .val (.int p2), .val (.int p3), .val (.int p4), .val (.int p5)] [(.int p2)])
    refine WGo.st (fun _ q => XS.iloadN S.here hx rfl (hb hby d_method_3_code_6) rfl q) ?_
    show WGo _ _ _ _ _ _ _ _ T (mkF m 7 #[.val (.ref a1), .val (.int p2), .val (.int p3), .val (.int p4), .val (.int p5)] [(.int p4), (.int p2)])
    by_cases c7 : p2 < p4
    · refine WGo.st (fun _ q => XS.icmpNo S.here hx rfl (hb hby d_method_3_code_7) rfl (tlt c7).2.1 q) ?_
      show WGo _ _ _ _ _ _ _ _ T (mkF m 10 #[.val (.ref a1), .val (.int p2), .val (.int p3), .val (.int p4), .val (.int p5)] [])
      refine WGo.st (fun _ q => XS.aloadN S.here hx rfl (hb hby d_method_3_code_10) rfl rfl q) ?_
      show WGo _ _ _ _ _ _ _ _ T (mkF m 11 #[.val (.ref a1), .val (.int p2), .val (.int p3), .val (.int p4), .val (.int p5)] [(.ref a1)])
      refine WGo.st (fun _ q => XS.iloadN S.here hx rfl (hb hby d_method_3_code_11) rfl q) ?_
      show WGo _ _ _ _ _ _ _ _ T (mkF m 12 #[.val (.ref a1), .val (.int p2), .val (.int p3), .val (.int p4), .val (.int p5)] [(.int p2), (.ref a1)])
      refine w_baload S A1 rfl (hb hby d_method_3_code_12) rfl b0 b1 rfl ?_
      show WGo _ _ _ _ _ _ _ _ T (mkF m 13 #[.val (.ref a1), .val (.int p2), .val (.int p3), .val (.int p4), .val (.int p5)] [(.int (gi L p2))])
      refine WGo.st (fun _ q => XS.iload S.here hx rfl (hb hby d_method_3_code_13) rfl q) ?_
      show WGo _ _ _ _ _ _ _ _ T (mkF m 15 #[.val (.ref a1), .val (.int p2), .val (.int p3), .val (.int p4), .val (.int p5)] [(.int p5), (.int (gi L p2))])
      by_cases c15 : (gi L p2) = p5
      · refine WGo.st (fun _ q => XS.icmpNo S.here hx rfl (hb hby d_method_3_code_15) rfl (teq c15).2 q) ?_
        show WGo _ _ _ _ _ _ _ _ T (mkF m 18 #[.val (.ref a1), .val (.int p2), .val (.int p3), .val (.int p4), .val (.int p5)] [])
        refine WGo.st (fun _ q => XS.iconst S.here hx rfl (hb hby d_method_3_code_18) q) ?_
        show WGo _ _ _ _ _ _ _ _ T (mkF m 19 #[.val (.ref a1), .val (.int p2), .val (.int p3), .val (.int p4), .val (.int p5)] [(.int (1 : Int32))])
        refine WGo.st (fun _ q => XS.goto S.here hx rfl (pc0 := 19) (pc' := 23) rfl (hb hby d_method_3_code_19) (by decide) (by decide) q) ?_
        show WGo _ _ _ _ _ _ _ _ T (mkF m 23 #[.val (.ref a1), .val (.int p2), .val (.int p3), .val (.int p4), .val (.int p5)] [(.int (1 : Int32))])
        refine w_retZ S hret (hb hby d_method_3_code_23) (by decide) (by decide) (by decide) ?_
        exact ⟨by simp [hitF, *], rfl⟩
      · refine WGo.st (fun _ q => XS.icmpYes S.here hx rfl (pc0 := 15) (pc' := 22) rfl (hb hby d_method_3_code_15) rfl (feq c15).2 (by decide) (by decide) q) ?_
        show WGo _ _ _ _ _ _ _ _ T (mkF m 22 #[.val (.ref a1), .val (.int p2), .val (.int p3), .val (.int p4), .val (.int p5)] [])
        refine WGo.st (fun _ q => XS.iconst S.here hx rfl (hb hby d_method_3_code_22) q) ?_
        show WGo _ _ _ _ _ _ _ _ T (mkF m 23 #[.val (.ref a1), .val (.int p2), .val (.int p3), .val (.int p4), .val (.int p5)] [(.int (0 : Int32))])
        refine w_retZ S hret (hb hby d_method_3_code_23) (by decide) (by decide) (by decide) ?_
        exact ⟨by simp [hitF, *], rfl⟩
    · refine WGo.st (fun _ q => XS.icmpYes S.here hx rfl (pc0 := 7) (pc' := 22) rfl (hb hby d_method_3_code_7) rfl (flt c7).2.1 (by decide) (by decide) q) ?_
      show WGo _ _ _ _ _ _ _ _ T (mkF m 22 #[.val (.ref a1), .val (.int p2), .val (.int p3), .val (.int p4), .val (.int p5)] [])
      refine WGo.st (fun _ q => XS.iconst S.here hx rfl (hb hby d_method_3_code_22) q) ?_
      show WGo _ _ _ _ _ _ _ _ T (mkF m 23 #[.val (.ref a1), .val (.int p2), .val (.int p3), .val (.int p4), .val (.int p5)] [(.int (0 : Int32))])
      refine w_retZ S hret (hb hby d_method_3_code_23) (by decide) (by decide) (by decide) ?_
      exact ⟨by simp [hitF, *], rfl⟩
theorem d_method_4_code_0 : decode method_4_code 0 = .ok (.aload_n 0, 1) := by decide +kernel
theorem d_method_4_code_1 : decode method_4_code 1 = .ok (.iconst 0, 1) := by decide +kernel
theorem d_method_4_code_2 : decode method_4_code 2 = .ok (.iload_n 1, 1) := by decide +kernel
theorem d_method_4_code_3 : decode method_4_code 3 = .ok (.iload_n 2, 1) := by decide +kernel
theorem d_method_4_code_4 : decode method_4_code 4 = .ok (.iload_n 3, 1) := by decide +kernel
theorem d_method_4_code_5 : decode method_4_code 5 = .ok (.invokestatic 19, 3) := by decide +kernel
theorem d_method_4_code_8 : decode method_4_code 8 = .ok (.ifCond .eq 5, 3) := by decide +kernel
theorem d_method_4_code_11 : decode method_4_code 11 = .ok (.iconst 0, 1) := by decide +kernel
theorem d_method_4_code_12 : decode method_4_code 12 = .ok (.ireturn, 1) := by decide +kernel
theorem d_method_4_code_13 : decode method_4_code 13 = .ok (.aload_n 0, 1) := by decide +kernel
theorem d_method_4_code_14 : decode method_4_code 14 = .ok (.iconst 1, 1) := by decide +kernel
theorem d_method_4_code_15 : decode method_4_code 15 = .ok (.iload_n 1, 1) := by decide +kernel
theorem d_method_4_code_16 : decode method_4_code 16 = .ok (.iload_n 2, 1) := by decide +kernel
theorem d_method_4_code_17 : decode method_4_code 17 = .ok (.iload_n 3, 1) := by decide +kernel
theorem d_method_4_code_18 : decode method_4_code 18 = .ok (.invokestatic 19, 3) := by decide +kernel
theorem d_method_4_code_21 : decode method_4_code 21 = .ok (.ifCond .eq 5, 3) := by decide +kernel
theorem d_method_4_code_24 : decode method_4_code 24 = .ok (.iconst 1, 1) := by decide +kernel
theorem d_method_4_code_25 : decode method_4_code 25 = .ok (.ireturn, 1) := by decide +kernel
theorem d_method_4_code_26 : decode method_4_code 26 = .ok (.aload_n 0, 1) := by decide +kernel
theorem d_method_4_code_27 : decode method_4_code 27 = .ok (.iconst 2, 1) := by decide +kernel
theorem d_method_4_code_28 : decode method_4_code 28 = .ok (.iload_n 1, 1) := by decide +kernel
theorem d_method_4_code_29 : decode method_4_code 29 = .ok (.iload_n 2, 1) := by decide +kernel
theorem d_method_4_code_30 : decode method_4_code 30 = .ok (.iload_n 3, 1) := by decide +kernel
theorem d_method_4_code_31 : decode method_4_code 31 = .ok (.invokestatic 19, 3) := by decide +kernel
theorem d_method_4_code_34 : decode method_4_code 34 = .ok (.ifCond .eq 5, 3) := by decide +kernel
theorem d_method_4_code_37 : decode method_4_code 37 = .ok (.iconst 2, 1) := by decide +kernel
theorem d_method_4_code_38 : decode method_4_code 38 = .ok (.ireturn, 1) := by decide +kernel
theorem d_method_4_code_39 : decode method_4_code 39 = .ok (.aload_n 0, 1) := by decide +kernel
theorem d_method_4_code_40 : decode method_4_code 40 = .ok (.iconst 3, 1) := by decide +kernel
theorem d_method_4_code_41 : decode method_4_code 41 = .ok (.iload_n 1, 1) := by decide +kernel
theorem d_method_4_code_42 : decode method_4_code 42 = .ok (.iload_n 2, 1) := by decide +kernel
theorem d_method_4_code_43 : decode method_4_code 43 = .ok (.iload_n 3, 1) := by decide +kernel
theorem d_method_4_code_44 : decode method_4_code 44 = .ok (.invokestatic 19, 3) := by decide +kernel
theorem d_method_4_code_47 : decode method_4_code 47 = .ok (.ifCond .eq 5, 3) := by decide +kernel
theorem d_method_4_code_50 : decode method_4_code 50 = .ok (.iconst 3, 1) := by decide +kernel
theorem d_method_4_code_51 : decode method_4_code 51 = .ok (.ireturn, 1) := by decide +kernel
theorem d_method_4_code_52 : decode method_4_code 52 = .ok (.iconst (-1), 1) := by decide +kernel
theorem d_method_4_code_53 : decode method_4_code 53 = .ok (.ireturn, 1) := by decide +kernel
def QR (Z : State) (n0 : Nat) (h0 : Heap) (a1 : Addr) (p2 : Int32) (p3 : Int32) (p4 : Int32) (L : List Int32) (v : Option Value) (h : Heap) : Prop := v = some (.int (refF L p2 p3 p4)) ∧ h = h0
theorem ef_R (m : MethodId) (a1 : Addr) (p2 : Int32) (p3 : Int32) (p4 : Int32) : entryFrame m #[(.ref a1), (.int p2), (.int p3), (.int p4)] 4 = mkF m 0 #[.val (.ref a1), .val (.int p2), .val (.int p3), .val (.int p4)] [] := by first | (simp [entryFrame, mkF, argsToLocals, Value.category, maxLocals]; done) | rfl
set_option maxRecDepth 65536 in
set_option maxHeartbeats 40000000 in
theorem rm_R (l : Launch) (Z : State) (a0 : Array Value) (hw : ∀ d ∈ tables_1, d.before a0 Z = true) (n0 : Nat) (h0 : Heap) (a1 : Addr) (p2 : Int32) (p3 : Int32) (p4 : Int32) (L : List Int32) (Z0 : n0 ≤ h0.size) (A1 : AI Z h0 a1 .byte L) (hl : L.length = 4) :
    WCon l Z n0 h0 (⟨"com/example/keyrange/keyrange/cli/CellTextIndexOfPinLaw", "ref", "([BIIB)I"⟩ : MethodName) method_4_code 4 (some .int) [] ({ frames := 1, cells := 0, slots := 0, locals := 16 } : Room) #[(.ref a1), (.int p2), (.int p3), (.int p4)] (QR Z n0 h0 a1 p2 p3 p4 L) := by
  refine WCon.of (by first | exact plainFor_of_name (by decide +kernel) | decide +kernel) Z0 ?_
  intro p e s m below meth c T hx hZ hby hml hown hnm hret S
  refine WGo.cast (ef_R m a1 p2 p3 p4) ?_
  show WGo _ _ _ _ _ _ _ _ T (mkF m 0 #[.val (.ref a1), .val (.int p2), .val (.int p3), .val (.int p4)] [])
  refine WGo.st (fun _ q => XS.aloadN S.here hx rfl (hb hby d_method_4_code_0) rfl rfl q) ?_
  show WGo _ _ _ _ _ _ _ _ T (mkF m 1 #[.val (.ref a1), .val (.int p2), .val (.int p3), .val (.int p4)] [(.ref a1)])
  refine WGo.st (fun _ q => XS.iconst S.here hx rfl (hb hby d_method_4_code_1) q) ?_
  show WGo _ _ _ _ _ _ _ _ T (mkF m 2 #[.val (.ref a1), .val (.int p2), .val (.int p3), .val (.int p4)] [(.int (0 : Int32)), (.ref a1)])
  refine WGo.st (fun _ q => XS.iloadN S.here hx rfl (hb hby d_method_4_code_2) rfl q) ?_
  show WGo _ _ _ _ _ _ _ _ T (mkF m 3 #[.val (.ref a1), .val (.int p2), .val (.int p3), .val (.int p4)] [(.int p2), (.int (0 : Int32)), (.ref a1)])
  refine WGo.st (fun _ q => XS.iloadN S.here hx rfl (hb hby d_method_4_code_3) rfl q) ?_
  show WGo _ _ _ _ _ _ _ _ T (mkF m 4 #[.val (.ref a1), .val (.int p2), .val (.int p3), .val (.int p4)] [(.int p3), (.int p2), (.int (0 : Int32)), (.ref a1)])
  refine WGo.st (fun _ q => XS.iloadN S.here hx rfl (hb hby d_method_4_code_4) rfl q) ?_
  show WGo _ _ _ _ _ _ _ _ T (mkF m 5 #[.val (.ref a1), .val (.int p2), .val (.int p3), .val (.int p4)] [(.int p4), (.int p3), (.int p2), (.int (0 : Int32)), (.ref a1)])
  refine w_static S (y := (⟨"com/example/keyrange/keyrange/cli/CellTextIndexOfPinLaw", "hit", "([BIIIB)Z"⟩ : MethodName)) hown (hw _ (List.mem_of_getElem? (i := 10) rfl)) (hw _ (List.mem_of_getElem? (i := 11) rfl)) (hw _ (List.mem_of_getElem? (i := 8) rfl)) (hw _ (List.mem_of_getElem? (i := 12) rfl)) (by decide) (rm_H l Z a0 hw n0 h0 a1 (0 : Int32) p2 p3 p4 L S.ge A1 (by decide) (by rw [hl]; decide)) (W := 0) (by decide) (by decide) (by decide) (by decide) rfl (by rw [hml]; rfl) (argsL := [(.ref a1), (.int (0 : Int32)), (.int p2), (.int p3), (.int p4)]) (rest := []) (ps := [(.array .byte), .int, .int, .int, .byte]) (rt := (some .boolean)) (by decide) rfl rfl rfl (by show 2 * 0 + _ ≤ _; exact Nat.le_of_eq rfl) (hb hby d_method_4_code_5) ?_
  intro T1 h3 w4 S2 q5
  obtain ⟨q5a, q5b⟩ := q5
  subst q5a
  replace q5b := Eq.symm q5b
  subst q5b
  show WGo _ _ _ _ _ _ _ _ T1 (mkF m 8 #[.val (.ref a1), .val (.int p2), .val (.int p3), .val (.int p4)] [(.int (hitF L (0 : Int32) p2 p3 p4))])
  by_cases c8 : (hitF L (0 : Int32) p2 p3 p4) = (0 : Int32)
  · refine WGo.st (fun _ q => XS.ifYes S2.here hx rfl (pc0 := 8) (pc' := 13) rfl (hb hby d_method_4_code_8) rfl ((if0 _ _).trans (teq c8).1) (by decide) (by decide) q) ?_
    show WGo _ _ _ _ _ _ _ _ T1 (mkF m 13 #[.val (.ref a1), .val (.int p2), .val (.int p3), .val (.int p4)] [])
    refine WGo.st (fun _ q => XS.aloadN S2.here hx rfl (hb hby d_method_4_code_13) rfl rfl q) ?_
    show WGo _ _ _ _ _ _ _ _ T1 (mkF m 14 #[.val (.ref a1), .val (.int p2), .val (.int p3), .val (.int p4)] [(.ref a1)])
    refine WGo.st (fun _ q => XS.iconst S2.here hx rfl (hb hby d_method_4_code_14) q) ?_
    show WGo _ _ _ _ _ _ _ _ T1 (mkF m 15 #[.val (.ref a1), .val (.int p2), .val (.int p3), .val (.int p4)] [(.int (1 : Int32)), (.ref a1)])
    refine WGo.st (fun _ q => XS.iloadN S2.here hx rfl (hb hby d_method_4_code_15) rfl q) ?_
    show WGo _ _ _ _ _ _ _ _ T1 (mkF m 16 #[.val (.ref a1), .val (.int p2), .val (.int p3), .val (.int p4)] [(.int p2), (.int (1 : Int32)), (.ref a1)])
    refine WGo.st (fun _ q => XS.iloadN S2.here hx rfl (hb hby d_method_4_code_16) rfl q) ?_
    show WGo _ _ _ _ _ _ _ _ T1 (mkF m 17 #[.val (.ref a1), .val (.int p2), .val (.int p3), .val (.int p4)] [(.int p3), (.int p2), (.int (1 : Int32)), (.ref a1)])
    refine WGo.st (fun _ q => XS.iloadN S2.here hx rfl (hb hby d_method_4_code_17) rfl q) ?_
    show WGo _ _ _ _ _ _ _ _ T1 (mkF m 18 #[.val (.ref a1), .val (.int p2), .val (.int p3), .val (.int p4)] [(.int p4), (.int p3), (.int p2), (.int (1 : Int32)), (.ref a1)])
    refine w_static S2 (y := (⟨"com/example/keyrange/keyrange/cli/CellTextIndexOfPinLaw", "hit", "([BIIIB)Z"⟩ : MethodName)) hown (hw _ (List.mem_of_getElem? (i := 10) rfl)) (hw _ (List.mem_of_getElem? (i := 11) rfl)) (hw _ (List.mem_of_getElem? (i := 8) rfl)) (hw _ (List.mem_of_getElem? (i := 12) rfl)) (by decide) (rm_H l Z a0 hw n0 h0 a1 (1 : Int32) p2 p3 p4 L S2.ge A1 (by decide) (by rw [hl]; decide)) (W := 0) (by decide) (by decide) (by decide) (by decide) rfl (by rw [hml]; rfl) (argsL := [(.ref a1), (.int (1 : Int32)), (.int p2), (.int p3), (.int p4)]) (rest := []) (ps := [(.array .byte), .int, .int, .int, .byte]) (rt := (some .boolean)) (by decide) rfl rfl rfl (by show 2 * 0 + _ ≤ _; exact Nat.le_of_eq rfl) (hb hby d_method_4_code_18) ?_
    intro T6 h8 w9 S7 q10
    obtain ⟨q10a, q10b⟩ := q10
    subst q10a
    replace q10b := Eq.symm q10b
    subst q10b
    show WGo _ _ _ _ _ _ _ _ T6 (mkF m 21 #[.val (.ref a1), .val (.int p2), .val (.int p3), .val (.int p4)] [(.int (hitF L (1 : Int32) p2 p3 p4))])
    by_cases c21 : (hitF L (1 : Int32) p2 p3 p4) = (0 : Int32)
    · refine WGo.st (fun _ q => XS.ifYes S7.here hx rfl (pc0 := 21) (pc' := 26) rfl (hb hby d_method_4_code_21) rfl ((if0 _ _).trans (teq c21).1) (by decide) (by decide) q) ?_
      show WGo _ _ _ _ _ _ _ _ T6 (mkF m 26 #[.val (.ref a1), .val (.int p2), .val (.int p3), .val (.int p4)] [])
      refine WGo.st (fun _ q => XS.aloadN S7.here hx rfl (hb hby d_method_4_code_26) rfl rfl q) ?_
      show WGo _ _ _ _ _ _ _ _ T6 (mkF m 27 #[.val (.ref a1), .val (.int p2), .val (.int p3), .val (.int p4)] [(.ref a1)])
      refine WGo.st (fun _ q => XS.iconst S7.here hx rfl (hb hby d_method_4_code_27) q) ?_
      show WGo _ _ _ _ _ _ _ _ T6 (mkF m 28 #[.val (.ref a1), .val (.int p2), .val (.int p3), .val (.int p4)] [(.int (2 : Int32)), (.ref a1)])
      refine WGo.st (fun _ q => XS.iloadN S7.here hx rfl (hb hby d_method_4_code_28) rfl q) ?_
      show WGo _ _ _ _ _ _ _ _ T6 (mkF m 29 #[.val (.ref a1), .val (.int p2), .val (.int p3), .val (.int p4)] [(.int p2), (.int (2 : Int32)), (.ref a1)])
      refine WGo.st (fun _ q => XS.iloadN S7.here hx rfl (hb hby d_method_4_code_29) rfl q) ?_
      show WGo _ _ _ _ _ _ _ _ T6 (mkF m 30 #[.val (.ref a1), .val (.int p2), .val (.int p3), .val (.int p4)] [(.int p3), (.int p2), (.int (2 : Int32)), (.ref a1)])
      refine WGo.st (fun _ q => XS.iloadN S7.here hx rfl (hb hby d_method_4_code_30) rfl q) ?_
      show WGo _ _ _ _ _ _ _ _ T6 (mkF m 31 #[.val (.ref a1), .val (.int p2), .val (.int p3), .val (.int p4)] [(.int p4), (.int p3), (.int p2), (.int (2 : Int32)), (.ref a1)])
      refine w_static S7 (y := (⟨"com/example/keyrange/keyrange/cli/CellTextIndexOfPinLaw", "hit", "([BIIIB)Z"⟩ : MethodName)) hown (hw _ (List.mem_of_getElem? (i := 10) rfl)) (hw _ (List.mem_of_getElem? (i := 11) rfl)) (hw _ (List.mem_of_getElem? (i := 8) rfl)) (hw _ (List.mem_of_getElem? (i := 12) rfl)) (by decide) (rm_H l Z a0 hw n0 h0 a1 (2 : Int32) p2 p3 p4 L S7.ge A1 (by decide) (by rw [hl]; decide)) (W := 0) (by decide) (by decide) (by decide) (by decide) rfl (by rw [hml]; rfl) (argsL := [(.ref a1), (.int (2 : Int32)), (.int p2), (.int p3), (.int p4)]) (rest := []) (ps := [(.array .byte), .int, .int, .int, .byte]) (rt := (some .boolean)) (by decide) rfl rfl rfl (by show 2 * 0 + _ ≤ _; exact Nat.le_of_eq rfl) (hb hby d_method_4_code_31) ?_
      intro T11 h13 w14 S12 q15
      obtain ⟨q15a, q15b⟩ := q15
      subst q15a
      replace q15b := Eq.symm q15b
      subst q15b
      show WGo _ _ _ _ _ _ _ _ T11 (mkF m 34 #[.val (.ref a1), .val (.int p2), .val (.int p3), .val (.int p4)] [(.int (hitF L (2 : Int32) p2 p3 p4))])
      by_cases c34 : (hitF L (2 : Int32) p2 p3 p4) = (0 : Int32)
      · refine WGo.st (fun _ q => XS.ifYes S12.here hx rfl (pc0 := 34) (pc' := 39) rfl (hb hby d_method_4_code_34) rfl ((if0 _ _).trans (teq c34).1) (by decide) (by decide) q) ?_
        show WGo _ _ _ _ _ _ _ _ T11 (mkF m 39 #[.val (.ref a1), .val (.int p2), .val (.int p3), .val (.int p4)] [])
        refine WGo.st (fun _ q => XS.aloadN S12.here hx rfl (hb hby d_method_4_code_39) rfl rfl q) ?_
        show WGo _ _ _ _ _ _ _ _ T11 (mkF m 40 #[.val (.ref a1), .val (.int p2), .val (.int p3), .val (.int p4)] [(.ref a1)])
        refine WGo.st (fun _ q => XS.iconst S12.here hx rfl (hb hby d_method_4_code_40) q) ?_
        show WGo _ _ _ _ _ _ _ _ T11 (mkF m 41 #[.val (.ref a1), .val (.int p2), .val (.int p3), .val (.int p4)] [(.int (3 : Int32)), (.ref a1)])
        refine WGo.st (fun _ q => XS.iloadN S12.here hx rfl (hb hby d_method_4_code_41) rfl q) ?_
        show WGo _ _ _ _ _ _ _ _ T11 (mkF m 42 #[.val (.ref a1), .val (.int p2), .val (.int p3), .val (.int p4)] [(.int p2), (.int (3 : Int32)), (.ref a1)])
        refine WGo.st (fun _ q => XS.iloadN S12.here hx rfl (hb hby d_method_4_code_42) rfl q) ?_
        show WGo _ _ _ _ _ _ _ _ T11 (mkF m 43 #[.val (.ref a1), .val (.int p2), .val (.int p3), .val (.int p4)] [(.int p3), (.int p2), (.int (3 : Int32)), (.ref a1)])
        refine WGo.st (fun _ q => XS.iloadN S12.here hx rfl (hb hby d_method_4_code_43) rfl q) ?_
        show WGo _ _ _ _ _ _ _ _ T11 (mkF m 44 #[.val (.ref a1), .val (.int p2), .val (.int p3), .val (.int p4)] [(.int p4), (.int p3), (.int p2), (.int (3 : Int32)), (.ref a1)])
        refine w_static S12 (y := (⟨"com/example/keyrange/keyrange/cli/CellTextIndexOfPinLaw", "hit", "([BIIIB)Z"⟩ : MethodName)) hown (hw _ (List.mem_of_getElem? (i := 10) rfl)) (hw _ (List.mem_of_getElem? (i := 11) rfl)) (hw _ (List.mem_of_getElem? (i := 8) rfl)) (hw _ (List.mem_of_getElem? (i := 12) rfl)) (by decide) (rm_H l Z a0 hw n0 h0 a1 (3 : Int32) p2 p3 p4 L S12.ge A1 (by decide) (by rw [hl]; decide)) (W := 0) (by decide) (by decide) (by decide) (by decide) rfl (by rw [hml]; rfl) (argsL := [(.ref a1), (.int (3 : Int32)), (.int p2), (.int p3), (.int p4)]) (rest := []) (ps := [(.array .byte), .int, .int, .int, .byte]) (rt := (some .boolean)) (by decide) rfl rfl rfl (by show 2 * 0 + _ ≤ _; exact Nat.le_of_eq rfl) (hb hby d_method_4_code_44) ?_
        intro T16 h18 w19 S17 q20
        obtain ⟨q20a, q20b⟩ := q20
        subst q20a
        replace q20b := Eq.symm q20b
        subst q20b
        show WGo _ _ _ _ _ _ _ _ T16 (mkF m 47 #[.val (.ref a1), .val (.int p2), .val (.int p3), .val (.int p4)] [(.int (hitF L (3 : Int32) p2 p3 p4))])
        by_cases c47 : (hitF L (3 : Int32) p2 p3 p4) = (0 : Int32)
        · refine WGo.st (fun _ q => XS.ifYes S17.here hx rfl (pc0 := 47) (pc' := 52) rfl (hb hby d_method_4_code_47) rfl ((if0 _ _).trans (teq c47).1) (by decide) (by decide) q) ?_
          show WGo _ _ _ _ _ _ _ _ T16 (mkF m 52 #[.val (.ref a1), .val (.int p2), .val (.int p3), .val (.int p4)] [])
          refine WGo.st (fun _ q => XS.iconst S17.here hx rfl (hb hby d_method_4_code_52) q) ?_
          show WGo _ _ _ _ _ _ _ _ T16 (mkF m 53 #[.val (.ref a1), .val (.int p2), .val (.int p3), .val (.int p4)] [(.int (-1 : Int32))])
          refine w_retI S17 hret (hb hby d_method_4_code_53) (by decide) (by decide) ?_
          exact ⟨by simp [refF, *], rfl⟩
        · refine WGo.st (fun _ q => XS.ifNo S17.here hx rfl (hb hby d_method_4_code_47) rfl ((if0 _ _).trans (feq c47).1) q) ?_
          show WGo _ _ _ _ _ _ _ _ T16 (mkF m 50 #[.val (.ref a1), .val (.int p2), .val (.int p3), .val (.int p4)] [])
          refine WGo.st (fun _ q => XS.iconst S17.here hx rfl (hb hby d_method_4_code_50) q) ?_
          show WGo _ _ _ _ _ _ _ _ T16 (mkF m 51 #[.val (.ref a1), .val (.int p2), .val (.int p3), .val (.int p4)] [(.int (3 : Int32))])
          refine w_retI S17 hret (hb hby d_method_4_code_51) (by decide) (by decide) ?_
          exact ⟨by simp [refF, *], rfl⟩
      · refine WGo.st (fun _ q => XS.ifNo S12.here hx rfl (hb hby d_method_4_code_34) rfl ((if0 _ _).trans (feq c34).1) q) ?_
        show WGo _ _ _ _ _ _ _ _ T11 (mkF m 37 #[.val (.ref a1), .val (.int p2), .val (.int p3), .val (.int p4)] [])
        refine WGo.st (fun _ q => XS.iconst S12.here hx rfl (hb hby d_method_4_code_37) q) ?_
        show WGo _ _ _ _ _ _ _ _ T11 (mkF m 38 #[.val (.ref a1), .val (.int p2), .val (.int p3), .val (.int p4)] [(.int (2 : Int32))])
        refine w_retI S12 hret (hb hby d_method_4_code_38) (by decide) (by decide) ?_
        exact ⟨by simp [refF, *], rfl⟩
    · refine WGo.st (fun _ q => XS.ifNo S7.here hx rfl (hb hby d_method_4_code_21) rfl ((if0 _ _).trans (feq c21).1) q) ?_
      show WGo _ _ _ _ _ _ _ _ T6 (mkF m 24 #[.val (.ref a1), .val (.int p2), .val (.int p3), .val (.int p4)] [])
      refine WGo.st (fun _ q => XS.iconst S7.here hx rfl (hb hby d_method_4_code_24) q) ?_
      show WGo _ _ _ _ _ _ _ _ T6 (mkF m 25 #[.val (.ref a1), .val (.int p2), .val (.int p3), .val (.int p4)] [(.int (1 : Int32))])
      refine w_retI S7 hret (hb hby d_method_4_code_25) (by decide) (by decide) ?_
      exact ⟨by simp [refF, *], rfl⟩
  · refine WGo.st (fun _ q => XS.ifNo S2.here hx rfl (hb hby d_method_4_code_8) rfl ((if0 _ _).trans (feq c8).1) q) ?_
    show WGo _ _ _ _ _ _ _ _ T1 (mkF m 11 #[.val (.ref a1), .val (.int p2), .val (.int p3), .val (.int p4)] [])
    refine WGo.st (fun _ q => XS.iconst S2.here hx rfl (hb hby d_method_4_code_11) q) ?_
    show WGo _ _ _ _ _ _ _ _ T1 (mkF m 12 #[.val (.ref a1), .val (.int p2), .val (.int p3), .val (.int p4)] [(.int (0 : Int32))])
    refine w_retI S2 hret (hb hby d_method_4_code_12) (by decide) (by decide) ?_
    exact ⟨by simp [refF, *], rfl⟩
theorem d_prog_74_method_6_code_0 : decode prog_74_method_6_code 0 = .ok (.iload_n 1, 1) := by decide +kernel
theorem d_prog_74_method_6_code_1 : decode prog_74_method_6_code 1 = .ok (.istore 4, 2) := by decide +kernel
theorem d_prog_74_method_6_code_3 : decode prog_74_method_6_code 3 = .ok (.iload 4, 2) := by decide +kernel
theorem d_prog_74_method_6_code_5 : decode prog_74_method_6_code 5 = .ok (.iload_n 2, 1) := by decide +kernel
theorem d_prog_74_method_6_code_6 : decode prog_74_method_6_code 6 = .ok (.if_icmp .ge 20, 3) := by decide +kernel
theorem d_prog_74_method_6_code_9 : decode prog_74_method_6_code 9 = .ok (.aload_n 0, 1) := by decide +kernel
theorem d_prog_74_method_6_code_10 : decode prog_74_method_6_code 10 = .ok (.iload 4, 2) := by decide +kernel
theorem d_prog_74_method_6_code_12 : decode prog_74_method_6_code 12 = .ok (.baload, 1) := by decide +kernel
theorem d_prog_74_method_6_code_13 : decode prog_74_method_6_code 13 = .ok (.iload_n 3, 1) := by decide +kernel
theorem d_prog_74_method_6_code_14 : decode prog_74_method_6_code 14 = .ok (.if_icmp .ne 6, 3) := by decide +kernel
theorem d_prog_74_method_6_code_17 : decode prog_74_method_6_code 17 = .ok (.iload 4, 2) := by decide +kernel
theorem d_prog_74_method_6_code_19 : decode prog_74_method_6_code 19 = .ok (.ireturn, 1) := by decide +kernel
theorem d_prog_74_method_6_code_20 : decode prog_74_method_6_code 20 = .ok (.iinc 4 1, 3) := by decide +kernel
theorem d_prog_74_method_6_code_23 : decode prog_74_method_6_code 23 = .ok (.goto (-20), 3) := by decide +kernel
theorem d_prog_74_method_6_code_26 : decode prog_74_method_6_code 26 = .ok (.iconst (-1), 1) := by decide +kernel
theorem d_prog_74_method_6_code_27 : decode prog_74_method_6_code 27 = .ok (.ireturn, 1) := by decide +kernel
def QI (Z : State) (n0 : Nat) (h0 : Heap) (a1 : Addr) (p2 : Int32) (p3 : Int32) (p4 : Int32) (L : List Int32) (v : Option Value) (h : Heap) : Prop := ∃ r, v = some (.int r) ∧ h = h0 ∧ Fnd L p2 p3 p4 r
theorem ef_I (m : MethodId) (a1 : Addr) (p2 : Int32) (p3 : Int32) (p4 : Int32) : entryFrame m #[(.ref a1), (.int p2), (.int p3), (.int p4)] 5 = mkF m 0 #[.val (.ref a1), .val (.int p2), .val (.int p3), .val (.int p4), .unset] [] := by first | (simp [entryFrame, mkF, argsToLocals, Value.category, maxLocals]; done) | rfl
set_option maxRecDepth 65536 in
set_option maxHeartbeats 40000000 in
theorem rm_I (l : Launch) (Z : State) (a0 : Array Value) (hw : ∀ d ∈ tables_1, d.before a0 Z = true) (n0 : Nat) (h0 : Heap) (a1 : Addr) (p2 : Int32) (p3 : Int32) (p4 : Int32) (L : List Int32) (Z0 : n0 ≤ h0.size) (A1 : AI Z h0 a1 .byte L) (b0 : 0 ≤ p2.toInt) (b1 : p3.toInt ≤ L.length) (hl : L.length = 4) :
    WCon l Z n0 h0 (⟨"com/example/keyrange/keyrange/cli/CellText", "indexOf", "([BIIB)I"⟩ : MethodName) prog_74_method_6_code 5 (some .int) [] ({ frames := 0, cells := 0, slots := 0, locals := 0 } : Room) #[(.ref a1), (.int p2), (.int p3), (.int p4)] (QI Z n0 h0 a1 p2 p3 p4 L) := by
  refine WCon.of (by first | exact plainFor_of_name (by decide +kernel) | decide +kernel) Z0 ?_
  intro p e s m below meth c T hx hZ hby hml hown hnm hret S
  refine WGo.cast (ef_I m a1 p2 p3 p4) ?_
  show WGo _ _ _ _ _ _ _ _ T (mkF m 0 #[.val (.ref a1), .val (.int p2), .val (.int p3), .val (.int p4), .unset] [])
  have loop : ∀ (k : Nat) (i : Int32), (p3.toInt - i.toInt).toNat = k → p2.toInt ≤ i.toInt → (∀ j : Int32, p2.toInt ≤ j.toInt → j.toInt < i.toInt → gi L j ≠ p4) → WGo p e below s n0 (QI Z n0 h0 a1 p2 p3 p4 L) ({ frames := 0, cells := 0, slots := 0, locals := 0 } : Room).cells ({ frames := 0, cells := 0, slots := 0, locals := 0 } : Room).slots T (mkF m 3 #[.val (.ref a1), .val (.int p2), .val (.int p3), .val (.int p4), .val (.int i)] []) := by
    intro k
    induction k using Nat.strongRecOn with
    | _ k ih =>
    intro i hk hi hno
    show WGo _ _ _ _ _ _ _ _ T (mkF m 3 #[.val (.ref a1), .val (.int p2), .val (.int p3), .val (.int p4), .val (.int i)] [])
    refine WGo.st (fun _ q => XS.iload S.here hx rfl (hb hby d_prog_74_method_6_code_3) rfl q) ?_
    show WGo _ _ _ _ _ _ _ _ T (mkF m 5 #[.val (.ref a1), .val (.int p2), .val (.int p3), .val (.int p4), .val (.int i)] [(.int i)])
    refine WGo.st (fun _ q => XS.iloadN S.here hx rfl (hb hby d_prog_74_method_6_code_5) rfl q) ?_
    show WGo _ _ _ _ _ _ _ _ T (mkF m 6 #[.val (.ref a1), .val (.int p2), .val (.int p3), .val (.int p4), .val (.int i)] [(.int p3), (.int i)])
    by_cases c6 : i < p3
    · refine WGo.st (fun _ q => XS.icmpNo S.here hx rfl (hb hby d_prog_74_method_6_code_6) rfl (tlt c6).2.1 q) ?_
      show WGo _ _ _ _ _ _ _ _ T (mkF m 9 #[.val (.ref a1), .val (.int p2), .val (.int p3), .val (.int p4), .val (.int i)] [])
      refine WGo.st (fun _ q => XS.aloadN S.here hx rfl (hb hby d_prog_74_method_6_code_9) rfl rfl q) ?_
      show WGo _ _ _ _ _ _ _ _ T (mkF m 10 #[.val (.ref a1), .val (.int p2), .val (.int p3), .val (.int p4), .val (.int i)] [(.ref a1)])
      refine WGo.st (fun _ q => XS.iload S.here hx rfl (hb hby d_prog_74_method_6_code_10) rfl q) ?_
      show WGo _ _ _ _ _ _ _ _ T (mkF m 12 #[.val (.ref a1), .val (.int p2), .val (.int p3), .val (.int p4), .val (.int i)] [(.int i), (.ref a1)])
      refine w_baload S A1 rfl (hb hby d_prog_74_method_6_code_12) rfl (by omega) (by rw [Int32.lt_iff_toInt_lt] at c6; omega) rfl ?_
      show WGo _ _ _ _ _ _ _ _ T (mkF m 13 #[.val (.ref a1), .val (.int p2), .val (.int p3), .val (.int p4), .val (.int i)] [(.int (gi L i))])
      refine WGo.st (fun _ q => XS.iloadN S.here hx rfl (hb hby d_prog_74_method_6_code_13) rfl q) ?_
      show WGo _ _ _ _ _ _ _ _ T (mkF m 14 #[.val (.ref a1), .val (.int p2), .val (.int p3), .val (.int p4), .val (.int i)] [(.int p4), (.int (gi L i))])
      by_cases c14 : (gi L i) = p4
      · refine WGo.st (fun _ q => XS.icmpNo S.here hx rfl (hb hby d_prog_74_method_6_code_14) rfl (teq c14).2 q) ?_
        show WGo _ _ _ _ _ _ _ _ T (mkF m 17 #[.val (.ref a1), .val (.int p2), .val (.int p3), .val (.int p4), .val (.int i)] [])
        refine WGo.st (fun _ q => XS.iload S.here hx rfl (hb hby d_prog_74_method_6_code_17) rfl q) ?_
        show WGo _ _ _ _ _ _ _ _ T (mkF m 19 #[.val (.ref a1), .val (.int p2), .val (.int p3), .val (.int p4), .val (.int i)] [(.int i)])
        refine w_retI S hret (hb hby d_prog_74_method_6_code_19) (by decide) (by decide) ?_
        exact ⟨i, rfl, rfl, Or.inr ⟨hi, Int32.lt_iff_toInt_lt.mp c6, c14, hno⟩⟩
      · refine WGo.st (fun _ q => XS.icmpYes S.here hx rfl (pc0 := 14) (pc' := 20) rfl (hb hby d_prog_74_method_6_code_14) rfl (feq c14).2 (by decide) (by decide) q) ?_
        show WGo _ _ _ _ _ _ _ _ T (mkF m 20 #[.val (.ref a1), .val (.int p2), .val (.int p3), .val (.int p4), .val (.int i)] [])
        refine WGo.st (fun _ q => XS.iinc S.here hx rfl (hb hby d_prog_74_method_6_code_20) rfl (l' := #[.val (.ref a1), .val (.int p2), .val (.int p3), .val (.int p4), .val (.int (i + (1 : Int32)))]) rfl q) ?_
        show WGo _ _ _ _ _ _ _ _ T (mkF m 23 #[.val (.ref a1), .val (.int p2), .val (.int p3), .val (.int p4), .val (.int (i + (1 : Int32)))] [])
        refine WGo.st (fun _ q => XS.goto S.here hx rfl (pc0 := 23) (pc' := 3) rfl (hb hby d_prog_74_method_6_code_23) (by decide) (by decide) q) ?_
        show WGo _ _ _ _ _ _ _ _ T (mkF m 3 #[.val (.ref a1), .val (.int p2), .val (.int p3), .val (.int p4), .val (.int (i + (1 : Int32)))] [])
        have q1 : (i + (1 : Int32)).toInt = i.toInt + 1 := add_c (by decide) (by omega) (by rw [Int32.lt_iff_toInt_lt] at c6; omega)
        refine ih _ ?_ (i + (1 : Int32)) rfl (by omega) ?_
        · rw [Int32.lt_iff_toInt_lt] at c6; omega
        · intro j h1 h2
          by_cases hj : j.toInt = i.toInt
          · rw [Int32.toInt_inj.mp hj]; exact c14
          · exact hno j h1 (by omega)
    · refine WGo.st (fun _ q => XS.icmpYes S.here hx rfl (pc0 := 6) (pc' := 26) rfl (hb hby d_prog_74_method_6_code_6) rfl (flt c6).2.1 (by decide) (by decide) q) ?_
      show WGo _ _ _ _ _ _ _ _ T (mkF m 26 #[.val (.ref a1), .val (.int p2), .val (.int p3), .val (.int p4), .val (.int i)] [])
      refine WGo.st (fun _ q => XS.iconst S.here hx rfl (hb hby d_prog_74_method_6_code_26) q) ?_
      show WGo _ _ _ _ _ _ _ _ T (mkF m 27 #[.val (.ref a1), .val (.int p2), .val (.int p3), .val (.int p4), .val (.int i)] [(.int (-1 : Int32))])
      refine w_retI S hret (hb hby d_prog_74_method_6_code_27) (by decide) (by decide) ?_
      exact ⟨-1, rfl, rfl, Or.inl ⟨rfl, fun j h1 h2 => hno j h1 (by rw [Int32.lt_iff_toInt_lt] at c6; omega)⟩⟩
  refine WGo.st (fun _ q => XS.iloadN S.here hx rfl (hb hby d_prog_74_method_6_code_0) rfl q) ?_
  show WGo _ _ _ _ _ _ _ _ T (mkF m 1 #[.val (.ref a1), .val (.int p2), .val (.int p3), .val (.int p4), .unset] [(.int p2)])
  refine WGo.st (fun _ q => XS.istore S.here hx rfl (hb hby d_prog_74_method_6_code_1) rfl (l' := #[.val (.ref a1), .val (.int p2), .val (.int p3), .val (.int p4), .val (.int p2)]) rfl q) ?_
  show WGo _ _ _ _ _ _ _ _ T (mkF m 3 #[.val (.ref a1), .val (.int p2), .val (.int p3), .val (.int p4), .val (.int p2)] [])
  exact loop _ p2 rfl (Int.le_refl _) (fun j h1 h2 => by omega)
def Q0 (Z : State) (n0 : Nat) (h0 : Heap) (p1 : Int32) (p2 : Int32) (p3 : Int32) (p4 : Int32) (v : Option Value) (h : Heap) : Prop := v = some (.int 1)
theorem ef_0 (m : MethodId) (p1 : Int32) (p2 : Int32) (p3 : Int32) (p4 : Int32) : entryFrame m #[(.int p1), (.int p2), (.int p3), (.int p4)] maxLocals = mkF m 0 #[.val (.int p1), .val (.int p2), .val (.int p3), .val (.int p4), .unset, .unset, .unset, .unset, .unset] [] := by first | (simp [entryFrame, mkF, argsToLocals, Value.category, maxLocals]; done) | rfl
set_option maxRecDepth 65536 in
set_option maxHeartbeats 40000000 in
theorem rm_0 (l : Launch) (Z : State) (a0 : Array Value) (hw : ∀ d ∈ tables_1, d.before a0 Z = true) (n0 : Nat) (h0 : Heap) (p1 : Int32) (p2 : Int32) (p3 : Int32) (p4 : Int32) (Z0 : n0 ≤ h0.size)  :
    WCon l Z n0 h0 x code maxLocals ret tables_1 room_1 #[(.int p1), (.int p2), (.int p3), (.int p4)] (Q0 Z n0 h0 p1 p2 p3 p4) := by
  refine WCon.of (by first | exact plainFor_of_name (by decide +kernel) | decide +kernel) Z0 ?_
  intro p e s m below meth c T hx hZ hby hml hown hnm hret S
  refine WGo.cast (ef_0 m p1 p2 p3 p4) ?_
  show WGo _ _ _ _ _ _ _ _ T (mkF m 0 #[.val (.int p1), .val (.int p2), .val (.int p3), .val (.int p4), .unset, .unset, .unset, .unset, .unset] [])
  refine WGo.st (fun _ q => XS.iconst S.here hx rfl (hb hby at_0) q) ?_
  show WGo _ _ _ _ _ _ _ _ T (mkF m 1 #[.val (.int p1), .val (.int p2), .val (.int p3), .val (.int p4), .unset, .unset, .unset, .unset, .unset] [(.int (4 : Int32))])
  refine w_newarray S (hw _ (List.mem_of_getElem? (i := 0) rfl)) rfl rfl (hb hby at_1) rfl (by decide) (cap := 4) (by decide) (by decide) (by decide) (by decide) (L := [(0 : Int32), (0 : Int32), (0 : Int32), (0 : Int32)]) rfl ?_
  intro T1 h2 a1 S3 K4 e_a1 g_a1 A_a1
  show WGo _ _ _ _ _ _ _ _ T1 (mkF m 3 #[.val (.int p1), .val (.int p2), .val (.int p3), .val (.int p4), .unset, .unset, .unset, .unset, .unset] [(.ref a1)])
  refine WGo.st (fun _ q => XS.astore S3.here hx rfl (hb hby at_3) rfl rfl (l' := #[.val (.int p1), .val (.int p2), .val (.int p3), .val (.int p4), .val (.ref a1), .unset, .unset, .unset, .unset]) rfl q) ?_
  show WGo _ _ _ _ _ _ _ _ T1 (mkF m 5 #[.val (.int p1), .val (.int p2), .val (.int p3), .val (.int p4), .val (.ref a1), .unset, .unset, .unset, .unset] [])
  refine WGo.st (fun _ q => XS.aload S3.here hx rfl (hb hby at_5) rfl rfl q) ?_
  show WGo _ _ _ _ _ _ _ _ T1 (mkF m 7 #[.val (.int p1), .val (.int p2), .val (.int p3), .val (.int p4), .val (.ref a1), .unset, .unset, .unset, .unset] [(.ref a1)])
  refine WGo.st (fun _ q => XS.iconst S3.here hx rfl (hb hby at_7) q) ?_
  show WGo _ _ _ _ _ _ _ _ T1 (mkF m 8 #[.val (.int p1), .val (.int p2), .val (.int p3), .val (.int p4), .val (.ref a1), .unset, .unset, .unset, .unset] [(.int (0 : Int32)), (.ref a1)])
  refine WGo.st (fun _ q => XS.iloadN S3.here hx rfl (hb hby at_8) rfl q) ?_
  show WGo _ _ _ _ _ _ _ _ T1 (mkF m 9 #[.val (.int p1), .val (.int p2), .val (.int p3), .val (.int p4), .val (.ref a1), .unset, .unset, .unset, .unset] [(.int p1), (.int (0 : Int32)), (.ref a1)])
  refine WGo.st (fun _ q => XS.i2b S3.here hx rfl (hb hby at_9) rfl q) ?_
  show WGo _ _ _ _ _ _ _ _ T1 (mkF m 10 #[.val (.int p1), .val (.int p2), .val (.int p3), .val (.int p4), .val (.ref a1), .unset, .unset, .unset, .unset] [(.int (p1.toInt8.toInt32)), (.int (0 : Int32)), (.ref a1)])
  generalize (p1.toInt8.toInt32) = z10
  show WGo _ _ _ _ _ _ _ _ T1 (mkF m 10 #[.val (.int p1), .val (.int p2), .val (.int p3), .val (.int p4), .val (.ref a1), .unset, .unset, .unset, .unset] [(.int z10), (.int (0 : Int32)), (.ref a1)])
  refine w_bastore S3 A_a1 g_a1 rfl (hb hby at_10) rfl (by decide) (by decide : (0 : Int32).toInt < ((4 : Nat) : Int)) (L' := [(z10.toInt8.toInt32), (0 : Int32), (0 : Int32), (0 : Int32)]) rfl ?_
  intro T5 h6 S7 K8 A9
  show WGo _ _ _ _ _ _ _ _ T5 (mkF m 11 #[.val (.int p1), .val (.int p2), .val (.int p3), .val (.int p4), .val (.ref a1), .unset, .unset, .unset, .unset] [])
  refine WGo.st (fun _ q => XS.aload S7.here hx rfl (hb hby at_11) rfl rfl q) ?_
  show WGo _ _ _ _ _ _ _ _ T5 (mkF m 13 #[.val (.int p1), .val (.int p2), .val (.int p3), .val (.int p4), .val (.ref a1), .unset, .unset, .unset, .unset] [(.ref a1)])
  refine WGo.st (fun _ q => XS.iconst S7.here hx rfl (hb hby at_13) q) ?_
  show WGo _ _ _ _ _ _ _ _ T5 (mkF m 14 #[.val (.int p1), .val (.int p2), .val (.int p3), .val (.int p4), .val (.ref a1), .unset, .unset, .unset, .unset] [(.int (1 : Int32)), (.ref a1)])
  refine WGo.st (fun _ q => XS.iloadN S7.here hx rfl (hb hby at_14) rfl q) ?_
  show WGo _ _ _ _ _ _ _ _ T5 (mkF m 15 #[.val (.int p1), .val (.int p2), .val (.int p3), .val (.int p4), .val (.ref a1), .unset, .unset, .unset, .unset] [(.int p1), (.int (1 : Int32)), (.ref a1)])
  refine WGo.st (fun _ q => XS.bipush S7.here hx rfl (hb hby at_15) q) ?_
  show WGo _ _ _ _ _ _ _ _ T5 (mkF m 17 #[.val (.int p1), .val (.int p2), .val (.int p3), .val (.int p4), .val (.ref a1), .unset, .unset, .unset, .unset] [(.int (8 : Int32)), (.int p1), (.int (1 : Int32)), (.ref a1)])
  refine WGo.st (fun _ q => XS.ishr S7.here hx rfl (hb hby at_17) rfl q) ?_
  show WGo _ _ _ _ _ _ _ _ T5 (mkF m 18 #[.val (.int p1), .val (.int p2), .val (.int p3), .val (.int p4), .val (.ref a1), .unset, .unset, .unset, .unset] [(.int (p1 >>> ((8 : Int32) &&& 31))), (.int (1 : Int32)), (.ref a1)])
  refine WGo.st (fun _ q => XS.i2b S7.here hx rfl (hb hby at_18) rfl q) ?_
  show WGo _ _ _ _ _ _ _ _ T5 (mkF m 19 #[.val (.int p1), .val (.int p2), .val (.int p3), .val (.int p4), .val (.ref a1), .unset, .unset, .unset, .unset] [(.int ((p1 >>> ((8 : Int32) &&& 31)).toInt8.toInt32)), (.int (1 : Int32)), (.ref a1)])
  generalize ((p1 >>> ((8 : Int32) &&& 31)).toInt8.toInt32) = z19
  show WGo _ _ _ _ _ _ _ _ T5 (mkF m 19 #[.val (.int p1), .val (.int p2), .val (.int p3), .val (.int p4), .val (.ref a1), .unset, .unset, .unset, .unset] [(.int z19), (.int (1 : Int32)), (.ref a1)])
  refine w_bastore S7 A9 g_a1 rfl (hb hby at_19) rfl (by decide) (by decide : (1 : Int32).toInt < ((4 : Nat) : Int)) (L' := [(z10.toInt8.toInt32), (z19.toInt8.toInt32), (0 : Int32), (0 : Int32)]) rfl ?_
  intro T10 h11 S12 K13 A14
  show WGo _ _ _ _ _ _ _ _ T10 (mkF m 20 #[.val (.int p1), .val (.int p2), .val (.int p3), .val (.int p4), .val (.ref a1), .unset, .unset, .unset, .unset] [])
  refine WGo.st (fun _ q => XS.aload S12.here hx rfl (hb hby at_20) rfl rfl q) ?_
  show WGo _ _ _ _ _ _ _ _ T10 (mkF m 22 #[.val (.int p1), .val (.int p2), .val (.int p3), .val (.int p4), .val (.ref a1), .unset, .unset, .unset, .unset] [(.ref a1)])
  refine WGo.st (fun _ q => XS.iconst S12.here hx rfl (hb hby at_22) q) ?_
  show WGo _ _ _ _ _ _ _ _ T10 (mkF m 23 #[.val (.int p1), .val (.int p2), .val (.int p3), .val (.int p4), .val (.ref a1), .unset, .unset, .unset, .unset] [(.int (2 : Int32)), (.ref a1)])
  refine WGo.st (fun _ q => XS.iloadN S12.here hx rfl (hb hby at_23) rfl q) ?_
  show WGo _ _ _ _ _ _ _ _ T10 (mkF m 24 #[.val (.int p1), .val (.int p2), .val (.int p3), .val (.int p4), .val (.ref a1), .unset, .unset, .unset, .unset] [(.int p1), (.int (2 : Int32)), (.ref a1)])
  refine WGo.st (fun _ q => XS.bipush S12.here hx rfl (hb hby at_24) q) ?_
  show WGo _ _ _ _ _ _ _ _ T10 (mkF m 26 #[.val (.int p1), .val (.int p2), .val (.int p3), .val (.int p4), .val (.ref a1), .unset, .unset, .unset, .unset] [(.int (16 : Int32)), (.int p1), (.int (2 : Int32)), (.ref a1)])
  refine WGo.st (fun _ q => XS.ishr S12.here hx rfl (hb hby at_26) rfl q) ?_
  show WGo _ _ _ _ _ _ _ _ T10 (mkF m 27 #[.val (.int p1), .val (.int p2), .val (.int p3), .val (.int p4), .val (.ref a1), .unset, .unset, .unset, .unset] [(.int (p1 >>> ((16 : Int32) &&& 31))), (.int (2 : Int32)), (.ref a1)])
  refine WGo.st (fun _ q => XS.i2b S12.here hx rfl (hb hby at_27) rfl q) ?_
  show WGo _ _ _ _ _ _ _ _ T10 (mkF m 28 #[.val (.int p1), .val (.int p2), .val (.int p3), .val (.int p4), .val (.ref a1), .unset, .unset, .unset, .unset] [(.int ((p1 >>> ((16 : Int32) &&& 31)).toInt8.toInt32)), (.int (2 : Int32)), (.ref a1)])
  generalize ((p1 >>> ((16 : Int32) &&& 31)).toInt8.toInt32) = z28
  show WGo _ _ _ _ _ _ _ _ T10 (mkF m 28 #[.val (.int p1), .val (.int p2), .val (.int p3), .val (.int p4), .val (.ref a1), .unset, .unset, .unset, .unset] [(.int z28), (.int (2 : Int32)), (.ref a1)])
  refine w_bastore S12 A14 g_a1 rfl (hb hby at_28) rfl (by decide) (by decide : (2 : Int32).toInt < ((4 : Nat) : Int)) (L' := [(z10.toInt8.toInt32), (z19.toInt8.toInt32), (z28.toInt8.toInt32), (0 : Int32)]) rfl ?_
  intro T15 h16 S17 K18 A19
  show WGo _ _ _ _ _ _ _ _ T15 (mkF m 29 #[.val (.int p1), .val (.int p2), .val (.int p3), .val (.int p4), .val (.ref a1), .unset, .unset, .unset, .unset] [])
  refine WGo.st (fun _ q => XS.aload S17.here hx rfl (hb hby at_29) rfl rfl q) ?_
  show WGo _ _ _ _ _ _ _ _ T15 (mkF m 31 #[.val (.int p1), .val (.int p2), .val (.int p3), .val (.int p4), .val (.ref a1), .unset, .unset, .unset, .unset] [(.ref a1)])
  refine WGo.st (fun _ q => XS.iconst S17.here hx rfl (hb hby at_31) q) ?_
  show WGo _ _ _ _ _ _ _ _ T15 (mkF m 32 #[.val (.int p1), .val (.int p2), .val (.int p3), .val (.int p4), .val (.ref a1), .unset, .unset, .unset, .unset] [(.int (3 : Int32)), (.ref a1)])
  refine WGo.st (fun _ q => XS.iloadN S17.here hx rfl (hb hby at_32) rfl q) ?_
  show WGo _ _ _ _ _ _ _ _ T15 (mkF m 33 #[.val (.int p1), .val (.int p2), .val (.int p3), .val (.int p4), .val (.ref a1), .unset, .unset, .unset, .unset] [(.int p1), (.int (3 : Int32)), (.ref a1)])
  refine WGo.st (fun _ q => XS.bipush S17.here hx rfl (hb hby at_33) q) ?_
  show WGo _ _ _ _ _ _ _ _ T15 (mkF m 35 #[.val (.int p1), .val (.int p2), .val (.int p3), .val (.int p4), .val (.ref a1), .unset, .unset, .unset, .unset] [(.int (24 : Int32)), (.int p1), (.int (3 : Int32)), (.ref a1)])
  refine WGo.st (fun _ q => XS.ishr S17.here hx rfl (hb hby at_35) rfl q) ?_
  show WGo _ _ _ _ _ _ _ _ T15 (mkF m 36 #[.val (.int p1), .val (.int p2), .val (.int p3), .val (.int p4), .val (.ref a1), .unset, .unset, .unset, .unset] [(.int (p1 >>> ((24 : Int32) &&& 31))), (.int (3 : Int32)), (.ref a1)])
  refine WGo.st (fun _ q => XS.i2b S17.here hx rfl (hb hby at_36) rfl q) ?_
  show WGo _ _ _ _ _ _ _ _ T15 (mkF m 37 #[.val (.int p1), .val (.int p2), .val (.int p3), .val (.int p4), .val (.ref a1), .unset, .unset, .unset, .unset] [(.int ((p1 >>> ((24 : Int32) &&& 31)).toInt8.toInt32)), (.int (3 : Int32)), (.ref a1)])
  generalize ((p1 >>> ((24 : Int32) &&& 31)).toInt8.toInt32) = z37
  show WGo _ _ _ _ _ _ _ _ T15 (mkF m 37 #[.val (.int p1), .val (.int p2), .val (.int p3), .val (.int p4), .val (.ref a1), .unset, .unset, .unset, .unset] [(.int z37), (.int (3 : Int32)), (.ref a1)])
  refine w_bastore S17 A19 g_a1 rfl (hb hby at_37) rfl (by decide) (by decide : (3 : Int32).toInt < ((4 : Nat) : Int)) (L' := [(z10.toInt8.toInt32), (z19.toInt8.toInt32), (z28.toInt8.toInt32), (z37.toInt8.toInt32)]) rfl ?_
  intro T20 h21 S22 K23 A24
  show WGo _ _ _ _ _ _ _ _ T20 (mkF m 38 #[.val (.int p1), .val (.int p2), .val (.int p3), .val (.int p4), .val (.ref a1), .unset, .unset, .unset, .unset] [])
  refine WGo.st (fun _ q => XS.iloadN S22.here hx rfl (hb hby at_38) rfl q) ?_
  show WGo _ _ _ _ _ _ _ _ T20 (mkF m 39 #[.val (.int p1), .val (.int p2), .val (.int p3), .val (.int p4), .val (.ref a1), .unset, .unset, .unset, .unset] [(.int p2)])
  refine WGo.st (fun _ q => XS.i2b S22.here hx rfl (hb hby at_39) rfl q) ?_
  show WGo _ _ _ _ _ _ _ _ T20 (mkF m 40 #[.val (.int p1), .val (.int p2), .val (.int p3), .val (.int p4), .val (.ref a1), .unset, .unset, .unset, .unset] [(.int (p2.toInt8.toInt32))])
  refine WGo.st (fun _ q => XS.istore S22.here hx rfl (hb hby at_40) rfl (l' := #[.val (.int p1), .val (.int p2), .val (.int p3), .val (.int p4), .val (.ref a1), .val (.int (p2.toInt8.toInt32)), .unset, .unset, .unset]) rfl q) ?_
  show WGo _ _ _ _ _ _ _ _ T20 (mkF m 42 #[.val (.int p1), .val (.int p2), .val (.int p3), .val (.int p4), .val (.ref a1), .val (.int (p2.toInt8.toInt32)), .unset, .unset, .unset] [])
  generalize hv40 : (p2.toInt8.toInt32) = v40
  show WGo _ _ _ _ _ _ _ _ T20 (mkF m 42 #[.val (.int p1), .val (.int p2), .val (.int p3), .val (.int p4), .val (.ref a1), .val (.int v40), .unset, .unset, .unset] [])
  refine WGo.st (fun _ q => XS.iloadN S22.here hx rfl (hb hby at_42) rfl q) ?_
  show WGo _ _ _ _ _ _ _ _ T20 (mkF m 43 #[.val (.int p1), .val (.int p2), .val (.int p3), .val (.int p4), .val (.ref a1), .val (.int v40), .unset, .unset, .unset] [(.int p3)])
  refine w_ldc S22 hown (hw _ (List.mem_of_getElem? (i := 1) rfl)) rfl (hb hby at_43) ?_
  show WGo _ _ _ _ _ _ _ _ T20 (mkF m 45 #[.val (.int p1), .val (.int p2), .val (.int p3), .val (.int p4), .val (.ref a1), .val (.int v40), .unset, .unset, .unset] [(.int (2147483647 : Int32)), (.int p3)])
  refine WGo.st (fun _ q => XS.iand S22.here hx rfl (hb hby at_45) rfl q) ?_
  show WGo _ _ _ _ _ _ _ _ T20 (mkF m 46 #[.val (.int p1), .val (.int p2), .val (.int p3), .val (.int p4), .val (.ref a1), .val (.int v40), .unset, .unset, .unset] [(.int (p3 &&& (2147483647 : Int32)))])
  refine WGo.st (fun _ q => XS.iconst S22.here hx rfl (hb hby at_46) q) ?_
  show WGo _ _ _ _ _ _ _ _ T20 (mkF m 47 #[.val (.int p1), .val (.int p2), .val (.int p3), .val (.int p4), .val (.ref a1), .val (.int v40), .unset, .unset, .unset] [(.int (5 : Int32)), (.int (p3 &&& (2147483647 : Int32)))])
  refine w_irem S22 rfl (hb hby at_47) rfl (by decide) ?_
  show WGo _ _ _ _ _ _ _ _ T20 (mkF m 48 #[.val (.int p1), .val (.int p2), .val (.int p3), .val (.int p4), .val (.ref a1), .val (.int v40), .unset, .unset, .unset] [(.int ((p3 &&& (2147483647 : Int32)) % (5 : Int32)))])
  refine WGo.st (fun _ q => XS.istore S22.here hx rfl (hb hby at_48) rfl (l' := #[.val (.int p1), .val (.int p2), .val (.int p3), .val (.int p4), .val (.ref a1), .val (.int v40), .val (.int ((p3 &&& (2147483647 : Int32)) % (5 : Int32))), .unset, .unset]) rfl q) ?_
  show WGo _ _ _ _ _ _ _ _ T20 (mkF m 50 #[.val (.int p1), .val (.int p2), .val (.int p3), .val (.int p4), .val (.ref a1), .val (.int v40), .val (.int ((p3 &&& (2147483647 : Int32)) % (5 : Int32))), .unset, .unset] [])
  generalize hv48 : ((p3 &&& (2147483647 : Int32)) % (5 : Int32)) = v48
  show WGo _ _ _ _ _ _ _ _ T20 (mkF m 50 #[.val (.int p1), .val (.int p2), .val (.int p3), .val (.int p4), .val (.ref a1), .val (.int v40), .val (.int v48), .unset, .unset] [])
  refine WGo.st (fun _ q => XS.iloadN S22.here hx rfl (hb hby at_50) rfl q) ?_
  show WGo _ _ _ _ _ _ _ _ T20 (mkF m 51 #[.val (.int p1), .val (.int p2), .val (.int p3), .val (.int p4), .val (.ref a1), .val (.int v40), .val (.int v48), .unset, .unset] [(.int p4)])
  refine w_ldc S22 hown (hw _ (List.mem_of_getElem? (i := 1) rfl)) rfl (hb hby at_51) ?_
  show WGo _ _ _ _ _ _ _ _ T20 (mkF m 53 #[.val (.int p1), .val (.int p2), .val (.int p3), .val (.int p4), .val (.ref a1), .val (.int v40), .val (.int v48), .unset, .unset] [(.int (2147483647 : Int32)), (.int p4)])
  refine WGo.st (fun _ q => XS.iand S22.here hx rfl (hb hby at_53) rfl q) ?_
  show WGo _ _ _ _ _ _ _ _ T20 (mkF m 54 #[.val (.int p1), .val (.int p2), .val (.int p3), .val (.int p4), .val (.ref a1), .val (.int v40), .val (.int v48), .unset, .unset] [(.int (p4 &&& (2147483647 : Int32)))])
  refine WGo.st (fun _ q => XS.iconst S22.here hx rfl (hb hby at_54) q) ?_
  show WGo _ _ _ _ _ _ _ _ T20 (mkF m 55 #[.val (.int p1), .val (.int p2), .val (.int p3), .val (.int p4), .val (.ref a1), .val (.int v40), .val (.int v48), .unset, .unset] [(.int (5 : Int32)), (.int (p4 &&& (2147483647 : Int32)))])
  refine w_irem S22 rfl (hb hby at_55) rfl (by decide) ?_
  show WGo _ _ _ _ _ _ _ _ T20 (mkF m 56 #[.val (.int p1), .val (.int p2), .val (.int p3), .val (.int p4), .val (.ref a1), .val (.int v40), .val (.int v48), .unset, .unset] [(.int ((p4 &&& (2147483647 : Int32)) % (5 : Int32)))])
  refine WGo.st (fun _ q => XS.istore S22.here hx rfl (hb hby at_56) rfl (l' := #[.val (.int p1), .val (.int p2), .val (.int p3), .val (.int p4), .val (.ref a1), .val (.int v40), .val (.int v48), .val (.int ((p4 &&& (2147483647 : Int32)) % (5 : Int32))), .unset]) rfl q) ?_
  show WGo _ _ _ _ _ _ _ _ T20 (mkF m 58 #[.val (.int p1), .val (.int p2), .val (.int p3), .val (.int p4), .val (.ref a1), .val (.int v40), .val (.int v48), .val (.int ((p4 &&& (2147483647 : Int32)) % (5 : Int32))), .unset] [])
  generalize hv56 : ((p4 &&& (2147483647 : Int32)) % (5 : Int32)) = v56
  show WGo _ _ _ _ _ _ _ _ T20 (mkF m 58 #[.val (.int p1), .val (.int p2), .val (.int p3), .val (.int p4), .val (.ref a1), .val (.int v40), .val (.int v48), .val (.int v56), .unset] [])
  have bf : 0 ≤ v48.toInt ∧ v48.toInt < 5 := by rw [← hv48]; exact rem_rng _ _ _ (by decide) (by decide)
  have bt : 0 ≤ v56.toInt ∧ v56.toInt < 5 := by rw [← hv56]; exact rem_rng _ _ _ (by decide) (by decide)
  refine WGo.st (fun _ q => XS.aload S22.here hx rfl (hb hby at_58) rfl rfl q) ?_
  show WGo _ _ _ _ _ _ _ _ T20 (mkF m 60 #[.val (.int p1), .val (.int p2), .val (.int p3), .val (.int p4), .val (.ref a1), .val (.int v40), .val (.int v48), .val (.int v56), .unset] [(.ref a1)])
  refine WGo.st (fun _ q => XS.iload S22.here hx rfl (hb hby at_60) rfl q) ?_
  show WGo _ _ _ _ _ _ _ _ T20 (mkF m 62 #[.val (.int p1), .val (.int p2), .val (.int p3), .val (.int p4), .val (.ref a1), .val (.int v40), .val (.int v48), .val (.int v56), .unset] [(.int v48), (.ref a1)])
  refine WGo.st (fun _ q => XS.iload S22.here hx rfl (hb hby at_62) rfl q) ?_
  show WGo _ _ _ _ _ _ _ _ T20 (mkF m 64 #[.val (.int p1), .val (.int p2), .val (.int p3), .val (.int p4), .val (.ref a1), .val (.int v40), .val (.int v48), .val (.int v56), .unset] [(.int v56), (.int v48), (.ref a1)])
  refine WGo.st (fun _ q => XS.iload S22.here hx rfl (hb hby at_64) rfl q) ?_
  show WGo _ _ _ _ _ _ _ _ T20 (mkF m 66 #[.val (.int p1), .val (.int p2), .val (.int p3), .val (.int p4), .val (.ref a1), .val (.int v40), .val (.int v48), .val (.int v56), .unset] [(.int v40), (.int v56), (.int v48), (.ref a1)])
  refine w_static S22 (y := (⟨"com/example/keyrange/keyrange/cli/CellText", "indexOf", "([BIIB)I"⟩ : MethodName)) hown (hw _ (List.mem_of_getElem? (i := 2) rfl)) (hw _ (List.mem_of_getElem? (i := 3) rfl)) (hw _ (List.mem_of_getElem? (i := 4) rfl)) (hw _ (List.mem_of_getElem? (i := 5) rfl)) (by decide) (rm_I l Z a0 hw n0 h21 a1 v48 v56 v40 [(z10.toInt8.toInt32), (z19.toInt8.toInt32), (z28.toInt8.toInt32), (z37.toInt8.toInt32)] S22.ge A24 bf.1 (Int.le_of_lt_add_one bt.2) rfl) (W := 0) (by decide) (by decide) (by decide) (by decide) rfl (by rw [hml]; rfl) (argsL := [(.ref a1), (.int v48), (.int v56), (.int v40)]) (rest := []) (ps := [(.array .byte), .int, .int, .byte]) (rt := (some .int)) (by decide) rfl rfl rfl (by show 2 * 0 + _ ≤ _; exact Nat.le_of_eq rfl) (hb hby at_66) ?_
  intro T25 h27 w28 S26 q29
  obtain ⟨r, q29a, q29b, hfnd⟩ := q29
  subst q29a
  replace q29b := Eq.symm q29b
  subst q29b
  show WGo _ _ _ _ _ _ _ _ T25 (mkF m 69 #[.val (.int p1), .val (.int p2), .val (.int p3), .val (.int p4), .val (.ref a1), .val (.int v40), .val (.int v48), .val (.int v56), .unset] [(.int r)])
  refine WGo.st (fun _ q => XS.istore S26.here hx rfl (hb hby at_69) rfl (l' := #[.val (.int p1), .val (.int p2), .val (.int p3), .val (.int p4), .val (.ref a1), .val (.int v40), .val (.int v48), .val (.int v56), .val (.int r)]) rfl q) ?_
  show WGo _ _ _ _ _ _ _ _ T25 (mkF m 71 #[.val (.int p1), .val (.int p2), .val (.int p3), .val (.int p4), .val (.ref a1), .val (.int v40), .val (.int v48), .val (.int v56), .val (.int r)] [])
  refine WGo.st (fun _ q => XS.iload S26.here hx rfl (hb hby at_71) rfl q) ?_
  show WGo _ _ _ _ _ _ _ _ T25 (mkF m 73 #[.val (.int p1), .val (.int p2), .val (.int p3), .val (.int p4), .val (.ref a1), .val (.int v40), .val (.int v48), .val (.int v56), .val (.int r)] [(.int r)])
  refine WGo.st (fun _ q => XS.aload S26.here hx rfl (hb hby at_73) rfl rfl q) ?_
  show WGo _ _ _ _ _ _ _ _ T25 (mkF m 75 #[.val (.int p1), .val (.int p2), .val (.int p3), .val (.int p4), .val (.ref a1), .val (.int v40), .val (.int v48), .val (.int v56), .val (.int r)] [(.ref a1), (.int r)])
  refine WGo.st (fun _ q => XS.iload S26.here hx rfl (hb hby at_75) rfl q) ?_
  show WGo _ _ _ _ _ _ _ _ T25 (mkF m 77 #[.val (.int p1), .val (.int p2), .val (.int p3), .val (.int p4), .val (.ref a1), .val (.int v40), .val (.int v48), .val (.int v56), .val (.int r)] [(.int v48), (.ref a1), (.int r)])
  refine WGo.st (fun _ q => XS.iload S26.here hx rfl (hb hby at_77) rfl q) ?_
  show WGo _ _ _ _ _ _ _ _ T25 (mkF m 79 #[.val (.int p1), .val (.int p2), .val (.int p3), .val (.int p4), .val (.ref a1), .val (.int v40), .val (.int v48), .val (.int v56), .val (.int r)] [(.int v56), (.int v48), (.ref a1), (.int r)])
  refine WGo.st (fun _ q => XS.iload S26.here hx rfl (hb hby at_79) rfl q) ?_
  show WGo _ _ _ _ _ _ _ _ T25 (mkF m 81 #[.val (.int p1), .val (.int p2), .val (.int p3), .val (.int p4), .val (.ref a1), .val (.int v40), .val (.int v48), .val (.int v56), .val (.int r)] [(.int v40), (.int v56), (.int v48), (.ref a1), (.int r)])
  refine w_static S26 (y := (⟨"com/example/keyrange/keyrange/cli/CellTextIndexOfPinLaw", "ref", "([BIIB)I"⟩ : MethodName)) hown (hw _ (List.mem_of_getElem? (i := 6) rfl)) (hw _ (List.mem_of_getElem? (i := 7) rfl)) (hw _ (List.mem_of_getElem? (i := 8) rfl)) (hw _ (List.mem_of_getElem? (i := 9) rfl)) (by decide) (rm_R l Z a0 hw n0 h21 a1 v48 v56 v40 [(z10.toInt8.toInt32), (z19.toInt8.toInt32), (z28.toInt8.toInt32), (z37.toInt8.toInt32)] S26.ge A24 rfl) (W := 1) (by decide) (by decide) (by decide) (by decide) rfl (by rw [hml]; rfl) (argsL := [(.ref a1), (.int v48), (.int v56), (.int v40)]) (rest := [(.int r)]) (ps := [(.array .byte), .int, .int, .byte]) (rt := (some .int)) (by decide) rfl rfl rfl (by show 2 * 0 + _ ≤ _; exact Nat.le_of_eq rfl) (hb hby at_81) ?_
  intro T30 h32 w33 S31 q34
  obtain ⟨q34a, q34b⟩ := q34
  subst q34a
  replace q34b := Eq.symm q34b
  subst q34b
  show WGo _ _ _ _ _ _ _ _ T30 (mkF m 84 #[.val (.int p1), .val (.int p2), .val (.int p3), .val (.int p4), .val (.ref a1), .val (.int v40), .val (.int v48), .val (.int v56), .val (.int r)] [(.int (refF [(z10.toInt8.toInt32), (z19.toInt8.toInt32), (z28.toInt8.toInt32), (z37.toInt8.toInt32)] v48 v56 v40)), (.int r)])
  refine WGo.st (fun _ q => XS.icmpNo S31.here hx rfl (hb hby at_84) rfl (teq (fin_ref bf.1 bt.2 hfnd)).2 q) ?_
  show WGo _ _ _ _ _ _ _ _ T30 (mkF m 87 #[.val (.int p1), .val (.int p2), .val (.int p3), .val (.int p4), .val (.ref a1), .val (.int v40), .val (.int v48), .val (.int v56), .val (.int r)] [])
  refine WGo.st (fun _ q => XS.iconst S31.here hx rfl (hb hby at_87) q) ?_
  show WGo _ _ _ _ _ _ _ _ T30 (mkF m 88 #[.val (.int p1), .val (.int p2), .val (.int p3), .val (.int p4), .val (.ref a1), .val (.int v40), .val (.int v48), .val (.int v56), .val (.int r)] [(.int (1 : Int32))])
  refine WGo.st (fun _ q => XS.goto S31.here hx rfl (pc0 := 88) (pc' := 92) rfl (hb hby at_88) (by decide) (by decide) q) ?_
  show WGo _ _ _ _ _ _ _ _ T30 (mkF m 92 #[.val (.int p1), .val (.int p2), .val (.int p3), .val (.int p4), .val (.ref a1), .val (.int v40), .val (.int v48), .val (.int v56), .val (.int r)] [(.int (1 : Int32))])
  refine w_retZ S31 hret (hb hby at_92) (by decide) (by decide) (by decide) ?_
  exact rfl
set_option maxRecDepth 65536 in
set_option maxHeartbeats 40000000 in
theorem comes_1 {Post : Tables → Env → Array Value → State → Outcome → State → Prop} (hpost : ∀ tb e args s v u, (limb_1_1.after args s (.returned v) u = true ∧ limb_1_2.after args s (.returned v) u = true ∧ True) → FrameEnd s (.returned v) u (Jvm.fieldLocs frame_1_writes args s ++ Jvm.arrayLocs frame_1_arrays args s ++ Jvm.staticLocs frame_1_statics s) 16 128 → Post tb e args s (.returned v) u) :
    ArmFor flags0 classFile x code maxLocals ret World_1 tables_1 room_1 Calls_1 rest_1 Pre_1 Post := by
  intro l hfl _ _ p e ha hc hk s m args below hf hA hF happ hP
  obtain ⟨hcalls, hrest, hpre⟩ := hP
  obtain ⟨-, -, -, hnamed, -, -, -, hat⟩ := (Spec.applies_iff hf).mp happ
  obtain ⟨hg, hn⟩ := and_e (Cond.before_iff.mp (show (Jvm.Cond.and given_1 narrow_1).before args s = true from hpre))
  obtain ⟨hcount, hg0⟩ := and_e hg
  obtain ⟨ha0, hg1⟩ := and_e hg0
  obtain ⟨ha1, hg2⟩ := and_e hg1
  obtain ⟨ha2, hg3⟩ := and_e hg2
  obtain ⟨w0, w1, w2, w3, rfl⟩ : ∃ (w0 : Value) (w1 : Value) (w2 : Value) (w3 : Value), args = #[w0, w1, w2, w3] := by
    have hs : args.size = 4 := by simpa [Cond.value, given_1] using hcount
    obtain ⟨L⟩ := args
    match L, hs with
    | [w0, w1, w2, w3], _ => exact ⟨w0, w1, w2, w3, rfl⟩
  have hw := fun d (hd : d ∈ tables_1) => atoms_spec (ws := Jvm.Cond.code x code maxLocals ret :: tables_1) hat d (List.mem_cons_of_mem _ hd)
  obtain ⟨i0, e0⟩ := is_v ha0
  obtain rfl : w0 = (.int i0) := Option.some.inj e0
  obtain ⟨i1, e1⟩ := is_v ha1
  obtain rfl : w1 = (.int i1) := Option.some.inj e1
  obtain ⟨i2, e2⟩ := is_v ha2
  obtain rfl : w2 = (.int i2) := Option.some.inj e2
  obtain ⟨i3, e3⟩ := is_v hg3
  obtain rfl : w3 = (.int i3) := Option.some.inj e3
  obtain ⟨n, o, h1, h2, h3, _, L, rfl, ⟨hQ, N⟩, hq⟩ := rm_0 l s _ hw s.heap.size s.heap i0 i1 i2 i3  (Nat.le_refl _)  p e ha hc hk s m _ below hf ((Spec.applies_iff_loose hf).mp happ).1 ⟨rfl, State.Warmed39.refl s, rfl⟩ trivial
  obtain rfl := hQ
  refine ⟨n, _, h1, h2, h3, hpost _ _ _ _ _ _ ⟨Cond.after_iff.mpr rfl, Cond.after_iff.mpr (eq_i res_at (Term.int_eval (1)) rfl), trivial⟩ ⟨hq.1, hq.2.1, (hq.2.2.sift fun y hy => Or.inr (N y hy)).mono (by decide) (by decide)⟩⟩
theorem main_1_1 : Claimed_1_1 := comes_1 fun _ _ _ _ _ _ h hF => ⟨h.1, hF⟩
theorem main_1_2 : Claimed_1_2 := comes_1 fun _ _ _ _ _ _ h hF => ⟨h.2.1, hF⟩
end Jvm.Pilot.@@N@@
namespace Jvm.Pilot.@@N@@
open Jvm Jvm.ClassFile Sem Op Lib Jvm.Free Jvm.Stand Jvm.Pilot.@@N@@.Jvm.D
/-! MADE BY PROGRAM (witnessworld.py) out of the Statement's table words and the real class files: 9 classes; the members and pool entries that the words name. The judged class is class 1, her method 1. -/
namespace start1
open Jvm.ClassFile
def u (s : String) : CpInfo := .utf8 (stringToUtf16 s)
/-- a pool by its gaps: so many unusable entries, then the entry; so many at the end -/
def gap : Nat → List CpInfo → List CpInfo
  | 0, r => r
  | n + 1, r => .unusable :: gap n r
def poolList (es : List (Nat × CpInfo)) (last : Nat) : List CpInfo := es.foldr (fun e r => gap e.1 (e.2 :: r)) (gap last [])
def pool (es : List (Nat × CpInfo)) (last : Nat) : Array CpInfo := ⟨poolList es last⟩
def fileOf (pool : Array CpInfo) (this : Nat) (attrs : Array Attribute := #[]) (ms : Array MethodInfo := #[]) (fl : Nat := 33) (sup : Nat := 0) (ifs : Array Nat := #[]) (fds : Array FieldInfo := #[]) : ClassFile where
  minorVersion := 0
  majorVersion := 65
  constantPool := pool
  accessFlags := fl
  thisClass := this
  superClass := sup
  interfaces := ifs
  fields := fds
  methods := ms
  attributes := attrs
def plain (name : String) (sup : Option ClassId) : Class where
  name := name
  kind := .ordinary
  loader := none
  accessFlags := 33
  super := sup
  interfaces := #[]
  cf := none
  fields := #[]
  methods := #[]
  instanceTypes := #[]
  staticTypes := #[]
  resolved := #[]
  callSites := []
  init := .initialized
  statics := none
  mirror := none

def pool0 : Array CpInfo := pool [(5, u "<init>"), (0, u "()V"), (1, .class_ 10), (1, u "java/lang/Object")] 113

def k0m0 : Method := { name := "<init>", desc := "()V", sig := { parameters := [], returnType := none }, accessFlags := 1, code := none }
/-- java/lang/Object -/
def k0 : Class := { plain "java/lang/Object" none with
  accessFlags := 33
  interfaces := #[]
  cf := some (fileOf pool0 8 #[] #[{ accessFlags := 1, nameIndex := 5, descriptorIndex := 6, attributes := #[] }] 33 0 #[] #[])
  fields := #[]
  methods := #[k0m0]
  instanceTypes := #[]
  staticTypes := #[]
  resolved := Array.replicate 124 none
  statics := none }

def pool1 : Array CpInfo := pool [(2, .class_ 4), (1, u "java/lang/Object"), (0, u "<init>"), (0, u "()V"), (0, .integer 2147483647), (0, .methodref 9 10), (0, .class_ 11), (0, .nameAndType 12 13), (0, u "com/example/keyrange/keyrange/cli/CellText"), (0, u "indexOf"), (0, u "([BIIB)I"), (0, .methodref 15 16), (0, .class_ 17), (0, .nameAndType 18 13), (0, u "com/example/keyrange/keyrange/cli/CellTextIndexOfPinLaw"), (0, u "ref"), (0, .methodref 15 20), (0, .nameAndType 21 22), (0, u "hit"), (0, u "([BIIIB)Z"), (2, u "law"), (0, u "(IIII)Z")] 5

def k1m0 : Method := { name := "<init>", desc := "()V", sig := { parameters := [], returnType := none }, accessFlags := 2, code := none }
def k1c1 : Code := { maxStack := 5, maxLocals := 9, code := code, exceptionTable := #[], attributes := #[] }
def k1m1 : Method := { name := "law", desc := "(IIII)Z", sig := { parameters := [.int, .int, .int, .int], returnType := some .boolean }, accessFlags := 9, code := some k1c1 }
def k1c2 : Code := { maxStack := 2, maxLocals := 5, code := method_3_code, exceptionTable := #[], attributes := #[] }
def k1m2 : Method := { name := "hit", desc := "([BIIIB)Z", sig := { parameters := [(.array .byte), .int, .int, .int, .byte], returnType := some .boolean }, accessFlags := 10, code := some k1c2 }
def k1c3 : Code := { maxStack := 5, maxLocals := 4, code := method_4_code, exceptionTable := #[], attributes := #[] }
def k1m3 : Method := { name := "ref", desc := "([BIIB)I", sig := { parameters := [(.array .byte), .int, .int, .byte], returnType := some .int }, accessFlags := 10, code := some k1c3 }
/-- com/example/keyrange/keyrange/cli/CellTextIndexOfPinLaw -/
def k1 : Class := { plain "com/example/keyrange/keyrange/cli/CellTextIndexOfPinLaw" (some 0) with
  accessFlags := 49
  interfaces := #[]
  cf := some (fileOf pool1 15 #[] #[{ accessFlags := 2, nameIndex := 5, descriptorIndex := 6, attributes := #[] }, { accessFlags := 9, nameIndex := 25, descriptorIndex := 26, attributes := #[] }, { accessFlags := 10, nameIndex := 21, descriptorIndex := 22, attributes := #[] }, { accessFlags := 10, nameIndex := 18, descriptorIndex := 13, attributes := #[] }] 49 2 #[] #[])
  fields := #[]
  methods := #[k1m0, k1m1, k1m2, k1m3]
  instanceTypes := #[]
  staticTypes := #[]
  resolved := Array.replicate 32 none
  statics := none }

def pool2 : Array CpInfo := pool [(2, .class_ 4), (1, u "java/lang/Object"), (0, u "<init>"), (0, u "()V"), (7, .class_ 16), (1, u "com/example/keyrange/keyrange/cli/CellText"), (39, u "indexOf"), (0, u "([BIIB)I"), (106, u "HEX_DIGITS"), (0, u "[B"), (38, u "COLUMN_FORM"), (0, u "Ljava/lang/String;"), (3, u "BACKSLASH"), (0, u "B"), (1, u "DELETE"), (1, u "ESCAPE_LENGTH"), (0, u "I"), (1, u "LINE_FIELDS")] 52

def k2m0 : Method := { name := "<init>", desc := "()V", sig := { parameters := [], returnType := none }, accessFlags := 2, code := none }
def k2c1 : Code := { maxStack := 2, maxLocals := 5, code := prog_74_method_6_code, exceptionTable := #[], attributes := #[] }
def k2m1 : Method := { name := "indexOf", desc := "([BIIB)I", sig := { parameters := [(.array .byte), .int, .int, .byte], returnType := some .int }, accessFlags := 8, code := some k2c1 }
/-- com/example/keyrange/keyrange/cli/CellText -/
def k2 : Class := { plain "com/example/keyrange/keyrange/cli/CellText" (some 0) with
  accessFlags := 49
  interfaces := #[]
  cf := some (fileOf pool2 14 #[] #[{ accessFlags := 2, nameIndex := 5, descriptorIndex := 6, attributes := #[] }, { accessFlags := 8, nameIndex := 56, descriptorIndex := 57, attributes := #[] }] 49 2 #[] #[{ accessFlags := 24, nameIndex := 204, descriptorIndex := 205, attributes := #[] }, { accessFlags := 26, nameIndex := 209, descriptorIndex := 210, attributes := #[] }, { accessFlags := 26, nameIndex := 212, descriptorIndex := 210, attributes := #[] }, { accessFlags := 26, nameIndex := 164, descriptorIndex := 165, attributes := #[] }, { accessFlags := 26, nameIndex := 214, descriptorIndex := 215, attributes := #[] }, { accessFlags := 26, nameIndex := 217, descriptorIndex := 215, attributes := #[] }])
  fields := #[{ name := "COLUMN_FORM", type := (.object "java/lang/String"), accessFlags := 24, slot := 0, constantValue := 0 }, { name := "BACKSLASH", type := .byte, accessFlags := 26, slot := 1, constantValue := 0 }, { name := "DELETE", type := .byte, accessFlags := 26, slot := 2, constantValue := 0 }, { name := "HEX_DIGITS", type := (.array .byte), accessFlags := 26, slot := 3, constantValue := 0 }, { name := "ESCAPE_LENGTH", type := .int, accessFlags := 26, slot := 4, constantValue := 0 }, { name := "LINE_FIELDS", type := .int, accessFlags := 26, slot := 5, constantValue := 0 }]
  methods := #[k2m0, k2m1]
  instanceTypes := #[]
  staticTypes := #[(.object "java/lang/String"), .byte, .byte, (.array .byte), .int, .int]
  resolved := Array.replicate 270 none
  statics := none }

def pool3 : Array CpInfo := pool [(1, u "java/lang/Cloneable"), (0, .class_ 1), (0, u "java/lang/Object"), (0, .class_ 3)] 3

/-- java/lang/Cloneable -/
def k3 : Class := { plain "java/lang/Cloneable" (some 0) with
  accessFlags := 1537
  interfaces := #[]
  cf := some (fileOf pool3 2 #[] #[] 1537 4 #[] #[])
  fields := #[]
  methods := #[]
  instanceTypes := #[]
  staticTypes := #[]
  resolved := Array.replicate 8 none
  statics := none }

def pool4 : Array CpInfo := pool [(1, u "java/io/Serializable"), (0, .class_ 1), (0, u "java/lang/Object"), (0, .class_ 3)] 3

/-- java/io/Serializable -/
def k4 : Class := { plain "java/io/Serializable" (some 0) with
  accessFlags := 1537
  interfaces := #[]
  cf := some (fileOf pool4 2 #[] #[] 1537 4 #[] #[])
  fields := #[]
  methods := #[]
  instanceTypes := #[]
  staticTypes := #[]
  resolved := Array.replicate 8 none
  statics := none }

/-- the primitive byte -/
def k5 : Class := { plain "byte" none with kind := .primitive 'B', accessFlags := 0x411 }
/-- [B -/
def k6 : Class := { plain "[B" (some 0) with kind := .array 5 .byte, interfaces := #[3, 4], accessFlags := 1041 }

/-- the primitive int -/
def k7 : Class := { plain "int" none with kind := .primitive 'I', accessFlags := 0x411 }
/-- [I -/
def k8 : Class := { plain "[I" (some 0) with kind := .array 7 .int, interfaces := #[3, 4], accessFlags := 1041 }

def heap : Heap := #[]
def classes : Array Class := #[k0, k1, k2, k3, k4, k5, k6, k7, k8]
def interned : List (Array UInt16 × Addr) := []
def slotsUsed : Nat := 0
def theMethod : MethodId := ⟨1, 1⟩
def args0 : Array Value := #[.int 5, .int 300, .int 1, .int 3]
def aboutOver (below : List Frame) : State where
  vm := { classes := classes, interned := interned.toArray }
  heap := heap
  slotsUsed := slotsUsed
  threads := #[{ frames := .invoking theMethod args0 :: below }]
def below0 : List Frame := [.native { method := ⟨0, 0⟩, args := #[] }]
def about1 : State := aboutOver below0
def p0 : Program := .bare "" "" ""
def e0 : Env := launch0.env 0 0 0
theorem w_frames : about1.frames = Frame.invoking theMethod args0 :: below0 := rfl
set_option maxRecDepth 65536 in
theorem w_args : argsFit about1.vm theMethod args0 = true := by decide +kernel
set_option maxRecDepth 65536 in
theorem w_heap : heapFits about1 = true := by decide +kernel
set_option maxRecDepth 65536 in
theorem w_runnable : about1.curStatus? = some .runnable := by decide +kernel
set_option maxRecDepth 65536 in
theorem w_alone : about1.alone = true := by decide +kernel
set_option maxRecDepth 65536 in
theorem w_named : about1.methodNamed? x = some theMethod := by decide +kernel
set_option maxRecDepth 65536 in
theorem w_hears : about1.hears theMethod below0 = true := by decide +kernel
set_option maxRecDepth 65536 in
theorem w_ripe : about1.ripe theMethod args0 below0 = true := by decide +kernel
theorem w_running : about1.status = .running := rfl
set_option maxRecDepth 65536 in
theorem w_room : about1.hasRoom e0.platform room_1 = true :=
  launch0.hasRoom_least _ room_1 (by decide +kernel) (by decide +kernel) (by decide +kernel) (by decide +kernel) (by decide +kernel) (by decide +kernel)
theorem allAtoms_all (ts : List Jvm.Cond) (a : Array Jvm.Value) (st : Jvm.State) : (allAtoms ts).before a st = ts.all (fun c => c.before a st) := by
  induction ts with
  | nil => rfl
  | cons c t ih =>
    show (Jvm.Cond.and c (allAtoms t)).before a st = _
    rw [Jvm.Cond.before_and, ih, List.all_cons]
def words1 : List Jvm.Cond := Jvm.Cond.code x code maxLocals ret :: tables_1
/-- a 'code' word, met by the world's own term for the bytes: nothing is compared byte by byte -/
theorem code_word {y : MethodName} {bytes : ByteArray} {mx : Nat} {rt : Option FieldType} {a : Array Value} {s : State} {m : MethodId} {meth : Method} {c : Code} (h1 : s.methodNamed? y = some m) (h2 : s.vm.method? m = some meth) (h3 : meth.code = some c) (h4 : c.code = bytes)
    (h5 : (c.maxLocals == mx && c.exceptionTable.isEmpty && decide (c.maxStack ≤ mostOperands) && decide (meth.sig.returnType = rt) && !meth.locks && decide (parseMethodDescriptor y.desc = some meth.sig)) = true) : (Jvm.Cond.code y bytes mx rt).before a s = true := by
  simp only [Bool.and_eq_true, beq_iff_eq, Bool.not_eq_true', decide_eq_true_eq] at h5
  obtain ⟨⟨⟨⟨⟨g1, g2⟩, g3⟩, g4⟩, g5⟩, g6⟩ := h5
  simp [Cond.before, Cond.holds, Cond.value, h1, h2, h3, h4, g1, g2, g3, g4, g5, g6]
def isCode : Jvm.Cond → Bool
  | .code _ _ _ _ => true
  | _ => false
theorem all_split {L : List Jvm.Cond} {P : Jvm.Cond → Bool} (h1 : L.all (fun c => isCode c || P c) = true) (h2 : ∀ c ∈ L.filter isCode, P c = true) : L.all P = true := by
  refine List.all_eq_true.mpr fun c hc => ?_
  have h := List.all_eq_true.mp h1 c hc
  rcases Bool.eq_false_or_eq_true (isCode c) with hi | hi
  · exact h2 c (List.mem_filter.mpr ⟨hc, hi⟩)
  · simpa [hi] using h
set_option maxRecDepth 65536 in
theorem w_c0 : (Jvm.Cond.code x code maxLocals ret).before args0 about1 = true := code_word (m := ⟨1, 1⟩) (meth := k1m1) (c := k1c1) (by decide +kernel) rfl rfl rfl (by decide +kernel)
set_option maxRecDepth 65536 in
theorem w_c1 : (Jvm.Cond.code ({ cls := "com/example/keyrange/keyrange/cli/CellText", name := "indexOf", desc := "([BIIB)I" } : Jvm.MethodName) prog_74_method_6_code (5 : Nat) (Option.some Jvm.ClassFile.FieldType.int)).before args0 about1 = true := code_word (m := ⟨2, 1⟩) (meth := k2m1) (c := k2c1) (by decide +kernel) rfl rfl rfl (by decide +kernel)
set_option maxRecDepth 65536 in
theorem w_c2 : (Jvm.Cond.code ({ cls := "com/example/keyrange/keyrange/cli/CellTextIndexOfPinLaw", name := "ref", desc := "([BIIB)I" } : Jvm.MethodName) method_4_code (4 : Nat) (Option.some Jvm.ClassFile.FieldType.int)).before args0 about1 = true := code_word (m := ⟨1, 3⟩) (meth := k1m3) (c := k1c3) (by decide +kernel) rfl rfl rfl (by decide +kernel)
set_option maxRecDepth 65536 in
theorem w_c3 : (Jvm.Cond.code ({ cls := "com/example/keyrange/keyrange/cli/CellTextIndexOfPinLaw", name := "hit", desc := "([BIIIB)Z" } : Jvm.MethodName) method_3_code (5 : Nat) (Option.some Jvm.ClassFile.FieldType.boolean)).before args0 about1 = true := code_word (m := ⟨1, 2⟩) (meth := k1m2) (c := k1c2) (by decide +kernel) rfl rfl rfl (by decide +kernel)
def codes1 : List Jvm.Cond := [Jvm.Cond.code x code maxLocals ret, Jvm.Cond.code ({ cls := "com/example/keyrange/keyrange/cli/CellText", name := "indexOf", desc := "([BIIB)I" } : Jvm.MethodName) prog_74_method_6_code (5 : Nat) (Option.some Jvm.ClassFile.FieldType.int), Jvm.Cond.code ({ cls := "com/example/keyrange/keyrange/cli/CellTextIndexOfPinLaw", name := "ref", desc := "([BIIB)I" } : Jvm.MethodName) method_4_code (4 : Nat) (Option.some Jvm.ClassFile.FieldType.int), Jvm.Cond.code ({ cls := "com/example/keyrange/keyrange/cli/CellTextIndexOfPinLaw", name := "hit", desc := "([BIIIB)Z" } : Jvm.MethodName) method_3_code (5 : Nat) (Option.some Jvm.ClassFile.FieldType.boolean)]
set_option maxRecDepth 65536 in
theorem codes_eq : words1.filter isCode = codes1 := rfl
theorem w_codes : ∀ c ∈ words1.filter isCode, c.before args0 about1 = true := by
  rw [codes_eq]
  intro c hc
  simp only [codes1, List.mem_cons, List.not_mem_nil, or_false] at hc
  rcases hc with rfl | rfl | rfl | rfl
  · exact w_c0
  · exact w_c1
  · exact w_c2
  · exact w_c3
set_option maxRecDepth 65536 in
theorem w_t1 : words1.all (fun c => isCode c || c.before args0 about1) = true := by decide +kernel
theorem w_tables : (allAtoms (Jvm.Cond.code x code maxLocals ret :: tables_1)).before args0 about1 = true := by
  rw [allAtoms_all]
  show words1.all (fun c => c.before args0 about1) = true
  refine all_split ?_ w_codes
  rw [w_t1]
set_option maxRecDepth 65536 in
theorem w_case : (Jvm.Cond.and given_1 narrow_1).before args0 about1 = true := by decide +kernel
theorem w_applies : (headSpec (Jvm.Cond.code x code maxLocals ret :: tables_1) room_1).applies x e0.platform about1 = true :=
  (Spec.applies_iff w_frames).mpr ⟨w_running, w_runnable, w_alone, w_named, w_hears, w_ripe, w_room, w_tables⟩
theorem atStart : AtStart classFile x code maxLocals ret World_1 tables_1 room_1 Calls_1 rest_1 Pre_1 launch0 p0 e0 about1 theMethod args0 below0 :=
  ⟨lists_1, trivial, launch0.admits_env _ _ _, launch0.least_env, fairChoices_fair.cas, fairChoices_fair.clock, w_frames, w_args, w_heap, w_applies, trivial, trivial, w_case⟩
end start1
theorem witness_1 : WitnessClaimed_1 := ⟨start1.p0, start1.e0, start1.about1, start1.theMethod, start1.args0, start1.below0, start1.atStart⟩
end Jvm.Pilot.@@N@@
