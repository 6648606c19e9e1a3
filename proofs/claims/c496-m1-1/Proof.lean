import JvmDerived
import JvmDerived.Pilot.@@N@@Statement
import JvmDerived.Pilot.@@N@@Code
set_option linter.unusedVariables false
set_option linter.unusedSimpArgs false
namespace Jvm.Pilot.@@N@@
open Jvm Jvm.ClassFile Sem Op Lib Jvm.Free Jvm.Stand Jvm.LawKit Jvm.RoadKit Bundle Jvm.Pilot.@@N@@.Jvm.D
section Core
variable {p : Program} {l : Launch} {e : Env} {R : Room} {s : State} {m : MethodId} {args : Array Value} {below : List Frame} {meth : Method} {c : Code} {Z : State} {n0 : Nat} {T : State} {h : Heap} {k n : Nat} {Q : Option Value → Heap → Prop} {K N : Nat} {a0 : Array Value}
/-- where a walk stands: the state T, its heap h, k cells and n slots made so far; every place that was written is new -/
def WSt (p : Program) (l : Launch) (e : Env) (R : Room) (s : State) (m : MethodId) (args : Array Value) (below : List Frame) (meth : Method) (c : Code) (Z : State) (n0 : Nat) (T : State) (h : Heap) (k n : Nat) : Prop :=
  ∃ locs, Stand p l e R s m args below meth c T locs k n ∧ T.heap = h ∧ Fr n0 locs ∧ n0 ≤ s.heap.size ∧ p.tables.exec = Jvm.exec ∧ Z.Warmed39 s.vm ∧ meth.locks = false
/-- from here the invocation returns, and what it leaves answers to Q -/
def WGo (p : Program) (e : Env) (below : List Frame) (s : State) (n0 : Nat) (Q : Option Value → Heap → Prop) (K N : Nat) (T : State) (g : JFrame) : Prop :=
  ∃ s₂ o, Steps p.tables e below (T.setTop g) s₂ ∧ s₂.status = .running ∧ Ended s₂ below o ∧ ∃ v L, o = .returned v ∧ (Q v s₂.heap ∧ Fr n0 L) ∧ FrameEnd s o s₂ L K N
/-- a body's contract at one heap and one list of arguments -/
def WCon (l : Launch) (Z : State) (n0 : Nat) (h0 : Heap) (y : MethodName) (bytes : ByteArray) (maxL : Nat) (ret : Option FieldType) (ws : List Jvm.Cond) (rm : Room) (as : Array Value) (Q : Option Value → Heap → Prop) : Prop :=
  MetFree l y (head1 (Jvm.Cond.code y bytes maxL ret :: ws) rm) (fun a U => a = as ∧ Z.Warmed39 U.vm ∧ U.heap = h0) (fun _ _ _ _ _ => True) (fun _ U o U' => ∃ v L, o = .returned v ∧ (Q v U'.heap ∧ Fr n0 L) ∧ FrameEnd U o U' L rm.cells rm.slots)

theorem WSt.here (S : WSt p l e R s m args below meth c Z n0 T h k n) : At T m c below := by obtain ⟨_, X, _⟩ := S; exact X.here
theorem WSt.eT (S : WSt p l e R s m args below meth c Z n0 T h k n) : T.heap = h := by obtain ⟨_, _, q, _⟩ := S; exact q
theorem WSt.ge (S : WSt p l e R s m args below meth c Z n0 T h k n) : n0 ≤ h.size := by
  obtain ⟨_, X, q, _, r, _⟩ := S
  have h1 : s.heap.size ≤ T.heap.size := X.same.2.1
  rw [← q]; omega
theorem WGo.st {T' : State} {g g' : JFrame} (q : ∀ t, Steps p.tables e below (T'.setTop g') t → Steps p.tables e below (T.setTop g) t) (r : WGo p e below s n0 Q K N T' g') : WGo p e below s n0 Q K N T g := by
  obtain ⟨s2, o, h1, r⟩ := r
  exact ⟨s2, o, q _ h1, r⟩
theorem WGo.cast {g g' : JFrame} (q : g = g') (r : WGo p e below s n0 Q K N T g') : WGo p e below s n0 Q K N T g := q ▸ r
theorem WCon.of {y : MethodName} {bytes : ByteArray} {maxL : Nat} {ret : Option FieldType} {ws : List Jvm.Cond} {rm : Room} {as : Array Value} {h0 : Heap} (hp : plainFor y = true) (hn0 : n0 ≤ h0.size)
    (body : ∀ (p : Program) (e : Env) (s : State) (m : MethodId) (below : List Frame) (meth : Method) (c : Code) (T : State), p.tables.exec = Jvm.exec → Z.Warmed39 s.vm → c.code = bytes → c.maxLocals = maxL → s.vm.findClass y.cls = some m.cls → meth.name = y.name → meth.sig.returnType = ret → WSt p l e rm s m as below meth c Z n0 T h0 0 0 → WGo p e below s n0 Q rm.cells rm.slots T (entryFrame m as maxL)) :
    WCon l Z n0 h0 y bytes maxL ret ws rm as Q := by
  refine MetFree.of_bodySF hp hisR ?_
  intro p e s m args below meth c s₁ Bd hml0 hP hK
  obtain ⟨rfl, hZ, hh⟩ := hP
  have X0 := Stand.of_body Bd
  exact body p e s m below meth c s₁ Bd.exec hZ Bd.bytes hml0 (findClass_of_methodNamed Bd.named) (name_of_methodNamed Bd.named Bd.method).1 Bd.returns ⟨[], X0, by rw [← hh, Bd.state]; rfl, Fr.nil _, by rw [hh]; exact hn0, Bd.exec, hZ, Bd.notSynchronized⟩
/-- the returns -/
theorem w_ret (S : WSt p l e R s m args below meth c Z n0 T h k n) {t : FieldType} {w : Value} {i : Instr} {pc : Nat} {Ls : Array Slot} {rest : List Value} (hret : meth.sig.returnType = some t) (hnw : narrow t w = w)
    (hi : (i = .ireturn ∧ (t = .int ∨ t = .boolean ∨ t = .byte ∨ t = .char ∨ t = .short) ∧ ∃ z, w = .int z) ∨ (i = .lreturn ∧ t = .long ∧ ∃ z, w = .long z) ∨ (i = .dreturn ∧ t = .double ∧ ∃ z, w = .double z) ∨ (i = .freturn ∧ t = .float ∧ ∃ z, w = .float z) ∨ (i = .areturn ∧ t.isReference = true ∧ w.isRef = true))
    (hd : decode c.code pc = .ok (i, 1)) (hk : k ≤ K) (hn : n ≤ N) (hQ : Q (some w) h) : WGo p e below s n0 Q K N T (mkF m pc Ls (w :: rest)) := by
  obtain ⟨locs, X, e1, N1, -, hx, hZ, hlk⟩ := S
  obtain ⟨fs, hr, hrun, hended, hW, hsame⟩ := X.leave (v := some w) (fun q => by rw [hret] at q; cases q) hlk
  refine ⟨_, _, retOut X hx hret hnw hi hd hr, hrun, hended, _, locs, rfl, ⟨?_, N1⟩, ⟨_, rfl⟩, hW, hsame.mono hk hn⟩
  show Q (some w) T.heap
  rw [e1]; exact hQ
theorem w_retI (S : WSt p l e R s m args below meth c Z n0 T h k n) {z : Int32} {pc : Nat} {Ls : Array Slot} {rest : List Value} (hret : meth.sig.returnType = some .int) (hd : decode c.code pc = .ok (.ireturn, 1)) (hk : k ≤ K) (hn : n ≤ N) (hQ : Q (some (.int z)) h) : WGo p e below s n0 Q K N T (mkF m pc Ls (.int z :: rest)) :=
  w_ret S hret rfl (Or.inl ⟨rfl, Or.inl rfl, _, rfl⟩) hd hk hn hQ
theorem w_retZ (S : WSt p l e R s m args below meth c Z n0 T h k n) {z : Int32} {pc : Nat} {Ls : Array Slot} {rest : List Value} (hret : meth.sig.returnType = some .boolean) (hd : decode c.code pc = .ok (.ireturn, 1)) (hz : z = 0 ∨ z = 1) (hk : k ≤ K) (hn : n ≤ N) (hQ : Q (some (.int z)) h) : WGo p e below s n0 Q K N T (mkF m pc Ls (.int z :: rest)) :=
  w_ret S hret (by rcases hz with rfl | rfl <;> rfl) (Or.inl ⟨rfl, Or.inr (Or.inl rfl), _, rfl⟩) hd hk hn hQ
theorem w_retJ (S : WSt p l e R s m args below meth c Z n0 T h k n) {z : Int64} {pc : Nat} {Ls : Array Slot} {rest : List Value} (hret : meth.sig.returnType = some .long) (hd : decode c.code pc = .ok (.lreturn, 1)) (hk : k ≤ K) (hn : n ≤ N) (hQ : Q (some (.long z)) h) : WGo p e below s n0 Q K N T (mkF m pc Ls (.long z :: rest)) :=
  w_ret S hret rfl (Or.inr (Or.inl ⟨rfl, rfl, _, rfl⟩)) hd hk hn hQ
theorem w_retA (S : WSt p l e R s m args below meth c Z n0 T h k n) {t : FieldType} {z : Addr} {pc : Nat} {Ls : Array Slot} {rest : List Value} (hret : meth.sig.returnType = some t) (ht : t.isReference = true) (hnw : narrow t (.ref z) = .ref z) (hd : decode c.code pc = .ok (.areturn, 1)) (hk : k ≤ K) (hn : n ≤ N) (hQ : Q (some (.ref z)) h) : WGo p e below s n0 Q K N T (mkF m pc Ls (.ref z :: rest)) :=
  w_ret S hret hnw (Or.inr (Or.inr (Or.inr (Or.inr ⟨rfl, ht, rfl⟩)))) hd hk hn hQ
theorem w_retV (S : WSt p l e R s m args below meth c Z n0 T h k n) {pc : Nat} {Ls : Array Slot} (hret : meth.sig.returnType = none) (hd : decode c.code pc = .ok (.return_, 1)) (hk : k ≤ K) (hn : n ≤ N) (hQ : Q none h) : WGo p e below s n0 Q K N T (mkF m pc Ls []) := by
  obtain ⟨locs, X, e1, N1, -, hx, hZ, hlk⟩ := S
  obtain ⟨fs, hr, hrun, hended, hW, hsame⟩ := X.leave (v := none) (fun _ => rfl) hlk
  refine ⟨_, _, X.returnOut hx hret hd hr, hrun, hended, _, locs, rfl, ⟨?_, N1⟩, ⟨_, rfl⟩, hW, hsame.mono hk hn⟩
  show Q none T.heap
  rw [e1]; exact hQ
/-- constants, remainder -/
theorem w_ldc (S : WSt p l e R s m args below meth c Z n0 T h k n) {own : String} {index : Nat} {v : Int32} (hown : s.vm.findClass own = some m.cls) (w : (Jvm.Cond.constant own index v).before a0 Z = true) {g : JFrame} (hg : g.method = m) (hd : decode c.code g.pc = .ok (.ldc index, 2))
    (r : WGo p e below s n0 Q K N T { g with pc := g.pc + 2, stack := .int v :: g.stack }) : WGo p e below s n0 Q K N T g := by
  obtain ⟨locs, X, e1, N1, -, hx, hZ, hlk⟩ := S
  exact WGo.st (X.ldcInt hx hown (mvT hZ w) hg hd) r
theorem w_ldc2 (S : WSt p l e R s m args below meth c Z n0 T h k n) {own : String} {index : Nat} {v : Int64} (hown : s.vm.findClass own = some m.cls) (w : (Jvm.Cond.constantLong own index v).before a0 Z = true) {g : JFrame} (hg : g.method = m) (hd : decode c.code g.pc = .ok (.ldc2_w index, 3))
    (r : WGo p e below s n0 Q K N T { g with pc := g.pc + 3, stack := .long v :: g.stack }) : WGo p e below s n0 Q K N T g := by
  obtain ⟨locs, X, e1, N1, -, hx, hZ, hlk⟩ := S
  exact WGo.st (X.ldc2Long hx hown (mvT hZ w) hg hd) r
theorem w_irem (S : WSt p l e R s m args below meth c Z n0 T h k n) {g : JFrame} (hg : g.method = m) {x y : Int32} {rest : List Value} (hd : decode c.code g.pc = .ok (.irem, 1)) (hs : g.stack = .int y :: .int x :: rest) (hy : y ≠ 0)
    (r : WGo p e below s n0 Q K N T { g with pc := g.pc + 1, stack := .int (x % y) :: rest }) : WGo p e below s n0 Q K N T g := by
  obtain ⟨locs, X, e1, N1, -, hx, hZ, hlk⟩ := S
  exact WGo.st (fun _ q => iremM X hx hg hd hs hy q) r
/-- arrays of ints, bytes, booleans, chars: the values in order -/
def AI (Z : State) (h : Heap) (a : Addr) (ty : FieldType) (L : List Int32) : Prop := ∃ cl : Cell, Arr Z h a cl ty ∧ cl.slots = (L.map Value.int).toArray
def gi (L : List Int32) (j : Int32) : Int32 := L.getD j.toNatClampNeg 0
def si (L : List Int32) (j : Int32) (v : Int32) : List Int32 := L.set j.toNatClampNeg v
variable {a b : Addr} {ty : FieldType} {L : List Int32} {h' : Heap} {ws : List Addr}
theorem AI.lt (A : AI Z h a ty L) : a < h.size := by obtain ⟨cl, A, -⟩ := A; exact A.lt
theorem AI.keep (A : AI Z h a ty L) (K : Keep h h' ws) (q : a ∉ ws) : AI Z h' a ty L := by obtain ⟨cl, A, r⟩ := A; exact ⟨cl, ⟨K.2.1 a cl A.1 q, A.2⟩, r⟩
theorem ai_size {cl : Cell} (r : cl.slots = (L.map Value.int).toArray) : cl.slots.size = L.length := by rw [r]; simp
theorem ai_in {cl : Cell} {j : Int32} (r : cl.slots = (L.map Value.int).toArray) (h0 : 0 ≤ j.toInt) (h1 : j.toInt < L.length) : ¬ (j < 0 ∨ cl.slots.size ≤ j.toNatClampNeg) := by
  rw [ai_size r]
  have : (0 : Int32).toInt = 0 := rfl
  simp only [Int32.lt_iff_toInt_lt, Int32.toNatClampNeg]; omega
theorem ai_at {cl : Cell} {j : Int32} (r : cl.slots = (L.map Value.int).toArray) (h0 : 0 ≤ j.toInt) (h1 : j.toInt < L.length) : cl.slots[j.toNatClampNeg]? = some (.int (gi L j)) := by
  have q : j.toNatClampNeg < L.length := by simp only [Int32.toNatClampNeg]; omega
  rw [r]
  simp [gi, q]
theorem keep_ext {h h' : Heap} (E : Ext h h') (ws : List Addr) : Keep h h' ws := (Keep.refl h ws).ext E
theorem ai_new {cl : ClassId} {ty : FieldType} {j : Int32} (hty : defaultValue ty = .int 0) : (newA cl ty j).slots = ((List.replicate j.toNatClampNeg (0 : Int32)).map Value.int).toArray := by
  simp [newA, hty]
theorem w_newarray (S : WSt p l e R s m args below meth c Z n0 T h k n) {aty : ArrayType} (w : (Jvm.Cond.arrayClass (newarray.typeOf aty)).before a0 Z = true) (hty : defaultValue (newarray.typeOf aty) = .int 0) {g : JFrame} (hg : g.method = m) (hd : decode c.code g.pc = .ok (.newarray aty, 2)) {j : Int32} {rest : List Value} (hs : g.stack = .int j :: rest)
    (hj : ¬ j < 0) {cap : Nat} (hcap : j.toNatClampNeg ≤ cap) (hb : cap * 8 ≤ 536870912) (hc : k + 1 ≤ R.cells) (hl : n + cap ≤ R.slots) {L : List Int32} (hL : List.replicate j.toNatClampNeg 0 = L)
    (r : ∀ T' h' a', WSt p l e R s m args below meth c Z n0 T' h' (k + 1) (n + cap) → Keep h h' [] → a' = h.size → n0 ≤ a' → AI Z h' a' (newarray.typeOf aty) L → WGo p e below s n0 Q K N T' { g with pc := g.pc + 2, stack := .ref a' :: rest }) : WGo p e below s n0 Q K N T g := by
  have hge := S.ge
  obtain ⟨locs, X, e1, N1, n1, hx, hZ, hlk⟩ := S
  obtain ⟨T', h', cA, X', e', E', A', st⟩ := newP X hx hZ w e1 hg hd hs hj hcap hb hc hl
  exact WGo.st st (r T' h' _ ⟨locs, X', e', N1, n1, hx, hZ, hlk⟩ (keep_ext E' _) rfl hge ⟨_, A', by rw [ai_new hty, hL]⟩)
theorem w_iaload (S : WSt p l e R s m args below meth c Z n0 T h k n) (A : AI Z h a .int L) {g : JFrame} (hg : g.method = m) (hd : decode c.code g.pc = .ok (.iaload, 1)) {j : Int32} {rest : List Value} (hs : g.stack = .int j :: .ref a :: rest) (h0 : 0 ≤ j.toInt) (h1 : j.toInt < L.length) {v : Int32} (hv : gi L j = v)
    (r : WGo p e below s n0 Q K N T { g with pc := g.pc + 1, stack := .int v :: rest }) : WGo p e below s n0 Q K N T g := by
  subst hv
  obtain ⟨locs, X, e1, N1, n1, hx, hZ, hlk⟩ := S
  obtain ⟨cl, A, q⟩ := A
  exact WGo.st (fun t u => X.iaload hx (j := j) (v := .int (gi L j)) (by rw [e1]; exact A.1) (State.isArrayOf_alike hZ.alike A.2.1) A.2.2 (ai_in q h0 h1) (ai_at q h0 h1) hg hs hd t u) r
theorem w_caload (S : WSt p l e R s m args below meth c Z n0 T h k n) (A : AI Z h a .char L) {g : JFrame} (hg : g.method = m) (hd : decode c.code g.pc = .ok (.caload, 1)) {j : Int32} {rest : List Value} (hs : g.stack = .int j :: .ref a :: rest) (h0 : 0 ≤ j.toInt) (h1 : j.toInt < L.length) {v : Int32} (hv : gi L j = v)
    (r : WGo p e below s n0 Q K N T { g with pc := g.pc + 1, stack := .int v :: rest }) : WGo p e below s n0 Q K N T g := by
  subst hv
  obtain ⟨locs, X, e1, N1, n1, hx, hZ, hlk⟩ := S
  obtain ⟨cl, A, q⟩ := A
  exact WGo.st (fun t u => X.caload hx (j := j) (v := .int (gi L j)) (by rw [e1]; exact A.1) (State.isArrayOf_alike hZ.alike A.2.1) A.2.2 (ai_in q h0 h1) (ai_at q h0 h1) hg hs hd t u) r
theorem w_baload (S : WSt p l e R s m args below meth c Z n0 T h k n) (A : AI Z h a .byte L) {g : JFrame} (hg : g.method = m) (hd : decode c.code g.pc = .ok (.baload, 1)) {j : Int32} {rest : List Value} (hs : g.stack = .int j :: .ref a :: rest) (h0 : 0 ≤ j.toInt) (h1 : j.toInt < L.length) {v : Int32} (hv : gi L j = v)
    (r : WGo p e below s n0 Q K N T { g with pc := g.pc + 1, stack := .int v :: rest }) : WGo p e below s n0 Q K N T g := by
  subst hv
  obtain ⟨locs, X, e1, N1, n1, hx, hZ, hlk⟩ := S
  obtain ⟨cl, A, q⟩ := A
  exact WGo.st (fun t u => X.baloadBytes hx (j := j) (v := .int (gi L j)) (by rw [e1]; exact A.1) (State.isArrayOf_alike hZ.alike A.2.1) A.2.2 (ai_in q h0 h1) (ai_at q h0 h1) hg hs hd t u) r
theorem w_zaload (S : WSt p l e R s m args below meth c Z n0 T h k n) (A : AI Z h a .boolean L) {g : JFrame} (hg : g.method = m) (hd : decode c.code g.pc = .ok (.baload, 1)) {j : Int32} {rest : List Value} (hs : g.stack = .int j :: .ref a :: rest) (h0 : 0 ≤ j.toInt) (h1 : j.toInt < L.length) {v : Int32} (hv : gi L j = v)
    (r : WGo p e below s n0 Q K N T { g with pc := g.pc + 1, stack := .int v :: rest }) : WGo p e below s n0 Q K N T g := by
  subst hv
  obtain ⟨locs, X, e1, N1, n1, hx, hZ, hlk⟩ := S
  obtain ⟨cl, A, q⟩ := A
  exact WGo.st (fun t u => X.baloadBooleans hx (j := j) (v := .int (gi L j)) (by rw [e1]; exact A.1) (State.isArrayOf_alike hZ.alike A.2.1) A.2.2 (ai_in q h0 h1) (ai_at q h0 h1) hg hs hd t u) r
theorem w_arraylength (S : WSt p l e R s m args below meth c Z n0 T h k n) (A : AI Z h a ty L) {g : JFrame} (hg : g.method = m) (hd : decode c.code g.pc = .ok (.arraylength, 1)) {rest : List Value} (hs : g.stack = .ref a :: rest) {z : Int32} (hz : L.length.toInt32 = z)
    (r : WGo p e below s n0 Q K N T { g with pc := g.pc + 1, stack := .int z :: rest }) : WGo p e below s n0 Q K N T g := by
  obtain ⟨locs, X, e1, N1, n1, hx, hZ, hlk⟩ := S
  obtain ⟨cl, A, q⟩ := A
  subst hz
  exact WGo.st (fun t u => X.arraylength hx (by rw [e1]; exact A.1) (State.isArrayOf_alike hZ.alike A.2.1) hg hs hd t (by rw [ai_size q]; exact u)) r
theorem ai_set {cl : Cell} {j x : Int32} (r : cl.slots = (L.map Value.int).toArray) : (cl.setSlot j.toNatClampNeg (.int x)).slots = ((si L j x).map Value.int).toArray := by
  simp [Cell.setSlot, r, si]
theorem w_iastore (S : WSt p l e R s m args below meth c Z n0 T h k n) (A : AI Z h a .int L) (ga : n0 ≤ a) {g : JFrame} (hg : g.method = m) (hd : decode c.code g.pc = .ok (.iastore, 1)) {j x : Int32} {rest : List Value} (hs : g.stack = .int x :: .int j :: .ref a :: rest) (h0 : 0 ≤ j.toInt) (h1 : j.toInt < L.length) {L' : List Int32} (hL : si L j x = L')
    (r : ∀ T' h', WSt p l e R s m args below meth c Z n0 T' h' k n → Keep h h' [a] → AI Z h' a .int L' → WGo p e below s n0 Q K N T' { g with pc := g.pc + 1, stack := rest }) : WGo p e below s n0 Q K N T g := by
  obtain ⟨locs, X, e1, N1, n1, hx, hZ, hlk⟩ := S
  obtain ⟨cl, A, q⟩ := A
  obtain ⟨T', h', X', e', W', st⟩ := stI X hx hZ e1 A (ai_in q h0 h1) hg hs hd
  exact WGo.st st (r T' h' ⟨_, X', e', Fr.snoc X' N1 ga, n1, hx, hZ, hlk⟩ (Keep.of_wr W') ⟨_, A.same W', by rw [ai_set q, hL]⟩)
theorem w_bastore (S : WSt p l e R s m args below meth c Z n0 T h k n) (A : AI Z h a .byte L) (ga : n0 ≤ a) {g : JFrame} (hg : g.method = m) (hd : decode c.code g.pc = .ok (.bastore, 1)) {j x : Int32} {rest : List Value} (hs : g.stack = .int x :: .int j :: .ref a :: rest) (h0 : 0 ≤ j.toInt) (h1 : j.toInt < L.length) {L' : List Int32} (hL : si L j x.toInt8.toInt32 = L')
    (r : ∀ T' h', WSt p l e R s m args below meth c Z n0 T' h' k n → Keep h h' [a] → AI Z h' a .byte L' → WGo p e below s n0 Q K N T' { g with pc := g.pc + 1, stack := rest }) : WGo p e below s n0 Q K N T g := by
  obtain ⟨locs, X, e1, N1, n1, hx, hZ, hlk⟩ := S
  obtain ⟨cl, A, q⟩ := A
  obtain ⟨T', h', X', e', W', st⟩ := stB X hx hZ e1 A (ai_in q h0 h1) hg hs hd
  exact WGo.st st (r T' h' ⟨_, X', e', Fr.snoc X' N1 ga, n1, hx, hZ, hlk⟩ (Keep.of_wr W') ⟨_, A.same W', by rw [ai_set q]; exact hL ▸ rfl⟩)
theorem w_zastore (S : WSt p l e R s m args below meth c Z n0 T h k n) (A : AI Z h a .boolean L) (ga : n0 ≤ a) {g : JFrame} (hg : g.method = m) (hd : decode c.code g.pc = .ok (.bastore, 1)) {j x : Int32} {rest : List Value} (hs : g.stack = .int x :: .int j :: .ref a :: rest) (h0 : 0 ≤ j.toInt) (h1 : j.toInt < L.length) (hb : x = 0 ∨ x = 1) {L' : List Int32} (hL : si L j x = L')
    (r : ∀ T' h', WSt p l e R s m args below meth c Z n0 T' h' k n → Keep h h' [a] → AI Z h' a .boolean L' → WGo p e below s n0 Q K N T' { g with pc := g.pc + 1, stack := rest }) : WGo p e below s n0 Q K N T g := by
  obtain ⟨locs, X, e1, N1, n1, hx, hZ, hlk⟩ := S
  obtain ⟨cl, A, q⟩ := A
  obtain ⟨T', h', X', e', W', st⟩ := stZ X hx hZ e1 A (ai_in q h0 h1) hg hs hd
  have hx1 : nar .boolean x = x := by rcases hb with rfl | rfl <;> rfl
  rw [hx1] at W'
  exact WGo.st st (r T' h' ⟨_, X', e', Fr.snoc X' N1 ga, n1, hx, hZ, hlk⟩ (Keep.of_wr W') ⟨_, A.same W', by rw [ai_set q, hL]⟩)
/-- calls by contract -/
theorem w_static (S : WSt p l e R s m args below meth c Z n0 T h k n) {own : String} {index : Nat} {y : MethodName} {bytes : ByteArray} {maxL : Nat} {ret : Option FieldType} (hown : s.vm.findClass own = some m.cls) (w1 : (Jvm.Cond.methodLink own index y).before a0 Z = true) (w2 : (Jvm.Cond.static y).before a0 Z = true) (w3 : (Jvm.Cond.initialized y.cls).before a0 Z = true) (w4 : (Jvm.Cond.code y bytes maxL ret).before a0 Z = true) (hy : y.cls ≠ "java/lang/invoke/MethodHandle" ∧ y.cls ≠ "java/lang/invoke/VarHandle")
    {rm : Room} {as : Array Value} {Qc : Option Value → Heap → Prop} (C : WCon l Z n0 h y bytes maxL ret [] rm as Qc) {W : Nat} (hf : rm.frames + 1 ≤ R.frames) (hl : W + (maxL + 11) + rm.locals ≤ R.locals) (hc : k + rm.cells ≤ R.cells) (hs : n + rm.slots ≤ R.slots)
    {g : JFrame} (hg : g.method = m) (hsize : g.locals.size = c.maxLocals) {argsL rest : List Value} {ps : List FieldType} {rt : Option FieldType} (hpd : parseMethodDescriptor y.desc = some ⟨ps, rt⟩) (hlen : argsL.length = ps.length) (hstack : g.stack = argsL.reverse ++ rest) (has : argsL.toArray = as) (hW : 2 * g.monitorRoom + (rest.map fun v => v.category).sum ≤ W) (hd : decode c.code g.pc = .ok (.invokestatic index, 3))
    (r : ∀ T' h' v, WSt p l e R s m args below meth c Z n0 T' h' (k + rm.cells) (n + rm.slots) → Qc v h' → WGo p e below s n0 Q K N T' { g with pc := g.pc + 3, stack := v.toList ++ rest }) : WGo p e below s n0 Q K N T g := by
  obtain ⟨locs, X, e1, N1, n1, hx, hZ, hlk⟩ := S
  have B := backOf (W := W) (s := s) (args := args) (R := R) (p := p) (e := e) (below := below) (len := 3) (a0 := a0) (Q := fun v h L => Qc v h ∧ Fr n0 L) C hZ w4 w3 hf hl
  obtain ⟨v, vm1, ⟨T1, L1, k1, m1⟩, -, X1, ⟨Lc, hQ, l1, y1, z1⟩, st⟩ := Jvm.LawKit.callS X hx (y := y) hown (mvT hZ w1) (mvT hZ w2) (mvT hZ w3) (mvT hZ w4) hy B hg hsize (lenOf hpd hlen) hstack hW hd (fun _ _ => ⟨has, e1, hc, hs⟩)
  dsimp only [Pt.U, Pt.locs, Pt.cells, Pt.slots] at X1 l1 y1 z1 st hQ
  subst l1 y1 z1
  exact WGo.st st (r _ _ v ⟨_, X1, rfl, Fr.app N1 hQ.2, n1, hx, hZ, hlk⟩ hQ.1)
theorem w_special (S : WSt p l e R s m args below meth c Z n0 T h k n) {own : String} {index : Nat} {y : MethodName} {bytes : ByteArray} {maxL : Nat} (hyn : y.name = "<init>") (hown : s.vm.findClass own = some m.cls) (w1 : (Jvm.Cond.methodLink own index y).before a0 Z = true) (w2 : (Jvm.Cond.instanceMethod y).before a0 Z = true) (w3 : (Jvm.Cond.initialized y.cls).before a0 Z = true) (w4 : (Jvm.Cond.code y bytes maxL none).before a0 Z = true) (hy : y.cls ≠ "java/lang/invoke/MethodHandle" ∧ y.cls ≠ "java/lang/invoke/VarHandle")
    {rm : Room} {as : Array Value} {Qc : Option Value → Heap → Prop} (C : WCon l Z n0 h y bytes maxL none [] rm as Qc) {W : Nat} (hf : rm.frames + 1 ≤ R.frames) (hl : W + (maxL + 11) + rm.locals ≤ R.locals) (hc : k + rm.cells ≤ R.cells) (hs : n + rm.slots ≤ R.slots)
    {g : JFrame} (hg : g.method = m) (hsize : g.locals.size = c.maxLocals) {argsL rest : List Value} {ps : List FieldType} {rt : Option FieldType} (hpd : parseMethodDescriptor y.desc = some ⟨ps, rt⟩) (hlen : argsL.length = ps.length) (hstack : g.stack = argsL.reverse ++ .ref a :: rest) (has : (Value.ref a :: argsL).toArray = as) (hW : 2 * g.monitorRoom + (rest.map fun v => v.category).sum ≤ W) (hd : decode c.code g.pc = .ok (.invokespecial index, 3))
    (r : ∀ T' h' v, WSt p l e R s m args below meth c Z n0 T' h' (k + rm.cells) (n + rm.slots) → Qc v h' → WGo p e below s n0 Q K N T' { g with pc := g.pc + 3, stack := v.toList ++ rest }) : WGo p e below s n0 Q K N T g := by
  obtain ⟨locs, X, e1, N1, n1, hx, hZ, hlk⟩ := S
  have B := backOf (W := W) (s := s) (args := args) (R := R) (p := p) (e := e) (below := below) (len := 3) (a0 := a0) (Q := fun v h L => Qc v h ∧ Fr n0 L) C hZ w4 w3 hf hl
  obtain ⟨v, vm1, ⟨T1, L1, k1, m1⟩, -, X1, ⟨Lc, hQ, l1, y1, z1⟩, st⟩ := X.specialBack hx (y := y) hyn hown (mvT hZ w1) (mvT hZ w2) (mvT hZ w4) hy B hg hsize (Steps.refl _) (lenOf hpd hlen) hstack hW hd (fun _ _ => ⟨has, e1, hc, hs⟩)
  dsimp only [Pt.U, Pt.locs, Pt.cells, Pt.slots] at X1 l1 y1 z1 st hQ
  subst l1 y1 z1
  exact WGo.st (fun _ q => st.trans q) (r _ _ v ⟨_, X1, rfl, Fr.app N1 hQ.2, n1, hx, hZ, hlk⟩ hQ.1)
theorem w_virtual (S : WSt p l e R s m args below meth c Z n0 T h k n) {own C : String} {index : Nat} {y : MethodName} {bytes : ByteArray} {maxL : Nat} {ret : Option FieldType} (hown : s.vm.findClass own = some m.cls) (w1 : (Jvm.Cond.methodLink own index y).before a0 Z = true) (w2 : (Jvm.Cond.declares y).before a0 Z = true) (w5 : (Jvm.Cond.selects C y y).before a0 Z = true) (w6 : (Jvm.Cond.instanceMethod y).before a0 Z = true) (w3 : (Jvm.Cond.initialized y.cls).before a0 Z = true) (w4 : (Jvm.Cond.code y bytes maxL ret).before a0 Z = true) (hy : y.cls ≠ "java/lang/invoke/MethodHandle" ∧ y.cls ≠ "java/lang/invoke/VarHandle") (E : Exa Z h a C)
    {rm : Room} {as : Array Value} {Qc : Option Value → Heap → Prop} (Cn : WCon l Z n0 h y bytes maxL ret [] rm as Qc) {W : Nat} (hf : rm.frames + 1 ≤ R.frames) (hl : W + (maxL + 11) + rm.locals ≤ R.locals) (hc : k + rm.cells ≤ R.cells) (hs : n + rm.slots ≤ R.slots)
    {g : JFrame} (hg : g.method = m) (hsize : g.locals.size = c.maxLocals) {argsL rest : List Value} {ps : List FieldType} {rt : Option FieldType} (hpd : parseMethodDescriptor y.desc = some ⟨ps, rt⟩) (hlen : argsL.length = ps.length) (hstack : g.stack = argsL.reverse ++ .ref a :: rest) (has : (Value.ref a :: argsL).toArray = as) (hW : 2 * g.monitorRoom + (rest.map fun v => v.category).sum ≤ W) (hd : decode c.code g.pc = .ok (.invokevirtual index, 3))
    (r : ∀ T' h' v, WSt p l e R s m args below meth c Z n0 T' h' (k + rm.cells) (n + rm.slots) → Qc v h' → WGo p e below s n0 Q K N T' { g with pc := g.pc + 3, stack := v.toList ++ rest }) : WGo p e below s n0 Q K N T g := by
  obtain ⟨locs, X, e1, N1, n1, hx, hZ, hlk⟩ := S
  have B := backOf (W := W) (s := s) (args := args) (R := R) (p := p) (e := e) (below := below) (len := 3) (a0 := a0) (Q := fun v h L => Qc v h ∧ Fr n0 L) Cn hZ w4 w3 hf hl
  obtain ⟨cq, kq, qa, qb, qc⟩ := isOf hZ e1 E
  obtain ⟨v, vm1, ⟨T1, L1, k1, m1⟩, -, X1, ⟨Lc, hQ, l1, y1, z1⟩, st⟩ := X.virtualBack hx (y := y) (z := y) hown (mvT hZ w1) (mvT hZ w2) (notFace_of_selects (args := #[]) (mvT hZ w5)) (mvT hZ w5) (mvT hZ w6) hy B qa qc hg hsize (Steps.refl _) (lenOf hpd hlen) hstack hW hd (fun _ _ => ⟨has, e1, hc, hs⟩)
  dsimp only [Pt.U, Pt.locs, Pt.cells, Pt.slots] at X1 l1 y1 z1 st hQ
  subst l1 y1 z1
  exact WGo.st (fun _ q => st.trans q) (r _ _ v ⟨_, X1, rfl, Fr.app N1 hQ.2, n1, hx, hZ, hlk⟩ hQ.1)
theorem w_private (S : WSt p l e R s m args below meth c Z n0 T h k n) {own C : String} {index : Nat} {y z : MethodName} {bytes : ByteArray} {maxL : Nat} {ret : Option FieldType} (hown : s.vm.findClass own = some m.cls) (w1 : (Jvm.Cond.methodLink own index y).before a0 Z = true) (w6 : (Jvm.Cond.instanceMethod y).before a0 Z = true) (w7 : (Jvm.Cond.privateMethod y).before a0 Z = true) (w3 : (Jvm.Cond.initialized y.cls).before a0 Z = true) (w4 : (Jvm.Cond.code y bytes maxL ret).before a0 Z = true) (w5 : (Jvm.Cond.selects z.cls z z).before a0 Z = true) (hzy : z.cls = y.cls) (hy : y.cls ≠ "java/lang/invoke/MethodHandle" ∧ y.cls ≠ "java/lang/invoke/VarHandle") (E : Exa Z h a C)
    {rm : Room} {as : Array Value} {Qc : Option Value → Heap → Prop} (Cn : WCon l Z n0 h y bytes maxL ret [] rm as Qc) {W : Nat} (hf : rm.frames + 1 ≤ R.frames) (hl : W + (maxL + 11) + rm.locals ≤ R.locals) (hc : k + rm.cells ≤ R.cells) (hs : n + rm.slots ≤ R.slots)
    {g : JFrame} (hg : g.method = m) (hsize : g.locals.size = c.maxLocals) {argsL rest : List Value} {ps : List FieldType} {rt : Option FieldType} (hpd : parseMethodDescriptor y.desc = some ⟨ps, rt⟩) (hlen : argsL.length = ps.length) (hstack : g.stack = argsL.reverse ++ .ref a :: rest) (has : (Value.ref a :: argsL).toArray = as) (hW : 2 * g.monitorRoom + (rest.map fun v => v.category).sum ≤ W) (hd : decode c.code g.pc = .ok (.invokevirtual index, 3))
    (r : ∀ T' h' v, WSt p l e R s m args below meth c Z n0 T' h' (k + rm.cells) (n + rm.slots) → Qc v h' → WGo p e below s n0 Q K N T' { g with pc := g.pc + 3, stack := v.toList ++ rest }) : WGo p e below s n0 Q K N T g := by
  obtain ⟨locs, X, e1, N1, n1, hx, hZ, hlk⟩ := S
  have B := backOf (W := W) (s := s) (args := args) (R := R) (p := p) (e := e) (below := below) (len := 3) (a0 := a0) (Q := fun v h L => Qc v h ∧ Fr n0 L) Cn hZ w4 w3 hf hl
  have hpriv := Cond.privateMethod_at (mvP hZ w7 (args := #[]))
  have hsel : (Jvm.Cond.selects y.cls y y).before args s = true := by
    have q5 : (Jvm.Cond.selects z.cls z z).before args s = true := mvT hZ w5
    obtain ⟨c2, r2, m2, -, -, q3, -, kP, hkP, hkPi⟩ := Cond.selects_spec q5
    have hfc := findClass_of_methodNamed q3
    rw [hzy] at hfc
    exact selects_self_of_private hfc hkP hkPi hpriv (mvT hZ w6) hy
  obtain ⟨cq, q1, q2⟩ := E.cell
  obtain ⟨v, vm1, ⟨T1, L1, k1, m1⟩, -, X1, ⟨Lc, hQ, l1, y1, z1⟩, st⟩ := X.privateBack hx (y := y) hown (mvT hZ w1) (mvT hZ w6) hsel hpriv (mvT hZ w4) hy B hg hsize (Steps.refl _) (a := a) (by rw [e1]; exact q1) q2 (lenOf hpd hlen) hstack hW hd (fun _ _ => ⟨has, e1, hc, hs⟩)
  dsimp only [Pt.U, Pt.locs, Pt.cells, Pt.slots] at X1 l1 y1 z1 st hQ
  subst l1 y1 z1
  exact WGo.st (fun _ q => st.trans q) (r _ _ v ⟨_, X1, rfl, Fr.app N1 hQ.2, n1, hx, hZ, hlk⟩ hQ.1)
/-- objects -/
theorem w_objinit (S : WSt p l e R s m args below meth c Z n0 T h k n) {own : String} {idx : Nat} (hown : s.vm.findClass own = some m.cls) (w1 : (Jvm.Cond.methodLink own idx Lib.objectInit).before a0 Z = true) (w2 : (Jvm.Cond.instanceMethod Lib.objectInit).before a0 Z = true) (w3 : (Jvm.Cond.code Lib.objectInit ⟨#[0xb1]⟩ 1 none).before a0 Z = true)
    {g : JFrame} (hg : g.method = m) (hsize : g.locals.size = c.maxLocals) {rest : List Value} (hs : g.stack = .ref a :: rest) (hd : decode c.code g.pc = .ok (.invokespecial idx, 3)) (hf : 1 ≤ R.frames) {W : Nat} (hW : 2 * g.monitorRoom + (rest.map fun v => v.category).sum ≤ W) (hl : W + 12 ≤ R.locals)
    (r : ∀ T', WSt p l e R s m args below meth c Z n0 T' h k n → WGo p e below s n0 Q K N T' { g with pc := g.pc + 3, stack := rest }) : WGo p e below s n0 Q K N T g := by
  obtain ⟨locs, X, e1, N1, n1, hx, hZ, hlk⟩ := S
  obtain ⟨T', X', e', st⟩ := initO X hx hZ hown w1 w2 w3 e1 hg hsize hs hd hf hW hl
  exact WGo.st st (r T' ⟨locs, X', e', N1, n1, hx, hZ, hlk⟩)
theorem w_new (S : WSt p l e R s m args below meth c Z n0 T h k n) {own C : String} {index nn : Nat} (hown : s.vm.findClass own = some m.cls) (w : (Jvm.Cond.classLink own index C).before a0 Z = true) (wi : (Jvm.Cond.instantiable C nn).before a0 Z = true) (wz : (Jvm.Cond.initialized C).before a0 Z = true)
    {g : JFrame} (hg : g.method = m) (hd : decode c.code g.pc = .ok (.new index, 3)) (hc : k + 1 ≤ R.cells) (hl : n + nn ≤ R.slots)
    (r : ∀ T' h' a', WSt p l e R s m args below meth c Z n0 T' h' (k + 1) (n + nn) → Keep h h' [] → a' = h.size → n0 ≤ a' → Exa Z h' a' C → (∀ {O nm d : String} {ty : FieldType}, Laid Z a0 C O nm d → parseFieldDescriptor d = some ty → Fld Z h' a' O nm d (defaultValue ty)) → WGo p e below s n0 Q K N T' { g with pc := g.pc + 3, stack := .ref a' :: g.stack }) : WGo p e below s n0 Q K N T g := by
  have hge := S.ge
  obtain ⟨locs, X, e1, N1, n1, hx, hZ, hlk⟩ := S
  obtain ⟨T', h', X', e', E', A', D', -, st⟩ := newO X hx hZ hown w wi wz e1 hg hd hc hl
  exact WGo.st st (r T' h' _ ⟨locs, X', e', N1, n1, hx, hZ, hlk⟩ (keep_ext E' _) rfl hge A' D')
theorem w_getfield (S : WSt p l e R s m args below meth c Z n0 T h k n) {own R0 O f d : String} {index : Nat} (hown : s.vm.findClass own = some m.cls) (w : (Jvm.Cond.fieldLink own index R0 f d).before a0 Z = true) (via : Via Z R0 O f d) {v : Value} (F : Fld Z h a O f d v) {g : JFrame} (hg : g.method = m) {rest : List Value} (hs : g.stack = .ref a :: rest) (hd : decode c.code g.pc = .ok (.getfield index, 3))
    (r : ∀ T', WSt p l e R s m args below meth c Z n0 T' h k n → WGo p e below s n0 Q K N T' { g with pc := g.pc + 3, stack := v :: rest }) : WGo p e below s n0 Q K N T g := by
  obtain ⟨locs, X, e1, N1, n1, hx, hZ, hlk⟩ := S
  obtain ⟨T', X', e', st⟩ := getF X hx hZ hown (host := "") (Or.inl w) via e1 F hg hs hd
  exact WGo.st st (r T' ⟨locs, X', e', N1, n1, hx, hZ, hlk⟩)
theorem w_putfield (S : WSt p l e R s m args below meth c Z n0 T h k n) {own R0 O f d C : String} {index kk : Nat} {ty : FieldType} (hown : s.vm.findClass own = some m.cls) (w : (Jvm.Cond.fieldLink own index R0 f d).before a0 Z = true) (via : Via Z R0 O f d) {v old : Value} (F : Fld Z h a O f d old) (E : Exa Z h a C)
    (L : (Jvm.Cond.lays C O f d).before a0 Z = true ∨ ((Jvm.Cond.laysFinal C O f d).before a0 Z = true ∧ own = O ∧ meth.name = "<init>")) (wi : (Jvm.Cond.instantiable C kk).before a0 Z = true) (ga : n0 ≤ a)
    (hty : parseFieldDescriptor d = some ty) (hn : narrow ty v = v) (hf : fits ty v = true) {g : JFrame} (hg : g.method = m) {rest : List Value} (hs : g.stack = v :: .ref a :: rest) (hd : decode c.code g.pc = .ok (.putfield index, 3))
    (r : ∀ T' h', WSt p l e R s m args below meth c Z n0 T' h' k n → Wr h h' a (Jvm.RoadKit.slotOf Z O f d) v → Keep h h' [a] → WGo p e below s n0 Q K N T' { g with pc := g.pc + 3, stack := rest }) : WGo p e below s n0 Q K N T g := by
  obtain ⟨locs, X, e1, N1, n1, hx, hZ, hlk⟩ := S
  obtain ⟨T', h', X', e', W', st⟩ := putF X hx hZ hown (host := "") (Or.inl w) via e1 F E L wi hty hn hf hg hs hd
  exact WGo.st st (r T' h' ⟨_, X', e', Fr.snoc X' N1 ga, n1, hx, hZ, hlk⟩ W' (Keep.of_wr W'))
theorem w_getstatic (S : WSt p l e R s m args below meth c Z n0 T h k n) {own R0 O f d : String} {index : Nat} (hown : s.vm.findClass own = some m.cls) (w : (Jvm.Cond.fieldLink own index R0 f d).before a0 Z = true) (via : Via Z R0 O f d) {v : Value} (F : Sta Z h O f d v) {g : JFrame} (hg : g.method = m) (hd : decode c.code g.pc = .ok (.getstatic index, 3))
    (r : ∀ T', WSt p l e R s m args below meth c Z n0 T' h k n → WGo p e below s n0 Q K N T' { g with pc := g.pc + 3, stack := v :: g.stack }) : WGo p e below s n0 Q K N T g := by
  obtain ⟨locs, X, e1, N1, n1, hx, hZ, hlk⟩ := S
  obtain ⟨T', X', e', st⟩ := getS X hx hZ hown (host := "") w via e1 F hg hd
  exact WGo.st st (r T' ⟨locs, X', e', N1, n1, hx, hZ, hlk⟩)
/-- comparisons of longs -/
theorem cl_lt {x y : Int64} (q : x < y) : lcmpW x y = -1 := Int32.toInt_inj.mp ((c_lcmp x y).1 (Int64.lt_iff_toInt_lt.mp q))
theorem cl_eq {x y : Int64} (q : x = y) : lcmpW x y = 0 := Int32.toInt_inj.mp ((c_lcmp x y).2.1 (by rw [q]))
theorem cl_gt {x y : Int64} (q : y < x) : lcmpW x y = 1 := Int32.toInt_inj.mp ((c_lcmp x y).2.2 (Int64.lt_iff_toInt_lt.mp q))
theorem cl_tri (x y : Int64) : x < y ∨ x = y ∨ y < x := by
  simp only [Int64.lt_iff_toInt_lt]
  rcases Int.lt_trichotomy x.toInt y.toInt with q | q | q
  · exact Or.inl q
  · exact Or.inr (Or.inl (Int64.toInt_inj.mp q))
  · exact Or.inr (Or.inr q)
theorem tltJ {x y : Int64} (q : x < y) : ifCond.holds .lt (lcmpW x y) = true ∧ ifCond.holds .ge (lcmpW x y) = false := by rw [cl_lt q]; decide
theorem fltJ {x y : Int64} (q : ¬ x < y) : ifCond.holds .lt (lcmpW x y) = false ∧ ifCond.holds .ge (lcmpW x y) = true := by
  rcases cl_tri x y with r | r | r
  · exact absurd r q
  · rw [cl_eq r]; decide
  · rw [cl_gt r]; decide
theorem tgtJ {x y : Int64} (q : y < x) : ifCond.holds .gt (lcmpW x y) = true ∧ ifCond.holds .le (lcmpW x y) = false := by rw [cl_gt q]; decide
theorem fgtJ {x y : Int64} (q : ¬ y < x) : ifCond.holds .gt (lcmpW x y) = false ∧ ifCond.holds .le (lcmpW x y) = true := by
  rcases cl_tri x y with r | r | r
  · rw [cl_lt r]; decide
  · rw [cl_eq r]; decide
  · exact absurd r q
theorem teqJ {x y : Int64} (q : x = y) : ifCond.holds .eq (lcmpW x y) = true ∧ ifCond.holds .ne (lcmpW x y) = false := by rw [cl_eq q]; decide
theorem feqJ {x y : Int64} (q : ¬ x = y) : ifCond.holds .eq (lcmpW x y) = false ∧ ifCond.holds .ne (lcmpW x y) = true := by
  rcases cl_tri x y with r | r | r
  · rw [cl_lt r]; decide
  · exact absurd r q
  · rw [cl_gt r]; decide
theorem w_dupX2 {tb : Tables} [Ours tb] {target : State} {g : JFrame} (h : At T m c below) (hx : tb.exec = Jvm.exec) (hg : g.method = m) {x y z : Value} {rest : List Value} (hd : decode c.code g.pc = .ok (.dup_x2, 1)) (hs : g.stack = x :: y :: z :: rest) (hc : x.category = 1) (hc1 : y.category = 1) (hc2 : z.category = 1)
    (hr : Steps tb e below (T.setTop { g with pc := g.pc + 1, stack := x :: y :: z :: x :: rest }) target) : Steps tb e below (T.setTop g) target := by
  subst hg
  jvm_step h [h.top, hx, hd, hs, hc, hc1, hc2]
  exact hr
end Core
section Arith
theorem rem_rng (x y : Int32) (d : Int) (hy : y.toInt = d) (hd : 0 < d) : 0 ≤ ((x &&& (2147483647 : Int32)) % y).toInt ∧ ((x &&& (2147483647 : Int32)) % y).toInt < d := by
  have h1 := c_mask x 2147483647 31 (by decide) (by decide)
  have h2 := (c_irem (x &&& 2147483647) y d hy).1 (by omega)
  rw [h2]
  exact ⟨Int.emod_nonneg _ (by omega), Int.emod_lt_of_pos _ hd⟩
theorem byte_idem (x : Int32) : x.toInt8.toInt32.toInt8.toInt32 = x.toInt8.toInt32 := by
  have h1 := c_i2b x
  have h2 := c_i2b x.toInt8.toInt32
  apply Int32.toInt_inj.mp
  omega
theorem si_len (L : List Int32) (j v : Int32) : (si L j v).length = L.length := by simp [si]
theorem gi_same (L : List Int32) (j v : Int32) (h0 : 0 ≤ j.toInt) (h1 : j.toInt < L.length) : gi (si L j v) j = v := by
  have q : j.toNatClampNeg < L.length := by simp only [Int32.toNatClampNeg]; omega
  simp [gi, si, q]
theorem gi_other (L : List Int32) (i j v : Int32) (h0 : 0 ≤ i.toInt) (h1 : 0 ≤ j.toInt) (hne : i.toInt ≠ j.toInt) : gi (si L j v) i = gi L i := by
  have q : j.toNatClampNeg ≠ i.toNatClampNeg := by simp only [Int32.toNatClampNeg]; omega
  simp [gi, si, List.getElem?_set, q]
theorem add_c {x k : Int32} {z : Int} (hz : k.toInt = z) (h0 : -2147483648 ≤ x.toInt + z) (h1 : x.toInt + z < 2147483648) : (x + k).toInt = x.toInt + z := by
  have h := c_iadd x k
  have r := rng32 (x + k)
  omega
theorem sub_c {x k : Int32} {z : Int} (hz : k.toInt = z) (h0 : -2147483648 ≤ x.toInt - z) (h1 : x.toInt - z < 2147483648) : (x - k).toInt = x.toInt - z := by
  have h := c_isub x k
  have r := rng32 (x - k)
  omega
theorem two_st (L : List Int32) (p q x y : Int32) (p0 : 0 ≤ p.toInt) (p1 : p.toInt < L.length) (q0 : 0 ≤ q.toInt) (q1 : q.toInt < L.length) (ne : p.toInt ≠ q.toInt) : gi (si (si L p x) q y) p = x ∧ gi (si (si L p x) q y) q = y :=
  ⟨by rw [gi_other _ _ _ _ p0 q0 ne]; exact gi_same L p x p0 p1, gi_same _ q y q0 (by rw [si_len]; exact q1)⟩
end Arith

def bitF (x i : Int32) : Int32 := if ((x >>> (i &&& 31)) &&& (1 : Int32)) = (0 : Int32) then 0 else 1
theorem bit_bool (x i : Int32) : bitF x i = 0 ∨ bitF x i = 1 := by unfold bitF; split; exact Or.inl rfl; exact Or.inr rfl
def Hit (LS LD : List Int32) (w j : Int32) : Prop := gi LS j = w ∧ gi LD j ≠ (0 : Int32)
def Dro (LS LD : List Int32) (f w r : Int32) : Prop := (r = -1 ∧ ∀ j : Int32, f.toInt < j.toInt → j.toInt < 4 → ¬ Hit LS LD w j) ∨ (f.toInt < r.toInt ∧ r.toInt < 4 ∧ Hit LS LD w r ∧ ∀ j : Int32, f.toInt < j.toInt → j.toInt < r.toInt → ¬ Hit LS LD w j)
def mm (y d : Int32) : Int32 := if y = (0 : Int32) then (if d = (0 : Int32) then 0 else 1) else 0
def ex1 (f m3 : Int32) : Int32 := if f < (3 : Int32) then (if m3 = (0 : Int32) then -1 else 3) else -1
def ex2 (f m2 x : Int32) : Int32 := if f < (2 : Int32) then (if m2 = (0 : Int32) then x else 2) else x
def ex3 (f m1 x : Int32) : Int32 := if f < (1 : Int32) then (if m1 = (0 : Int32) then x else 1) else x
theorem xor_iff (c y : Int32) : c ^^^ y = c ↔ y = 0 := by
  constructor
  · intro h
    have q : c ^^^ (c ^^^ y) = c ^^^ c := by rw [h]
    rwa [← Int32.xor_assoc, Int32.xor_self, Int32.zero_xor] at q
  · intro h; rw [h, Int32.xor_zero]
theorem mm_hit {c y d : Int32} : mm y d = 0 ↔ ¬ (c ^^^ y = c ∧ d ≠ 0) := by
  rw [xor_iff]; unfold mm
  by_cases h1 : y = 0 <;> by_cases h2 : d = 0 <;> simp [h1, h2]
theorem fin_drop {c y0 y1 y2 y3 d0 d1 d2 d3 f r : Int32} (f0 : 0 ≤ f.toInt) (f1 : f.toInt < 5) (h : Dro [c ^^^ y0, c ^^^ y1, c ^^^ y2, c ^^^ y3] [d0, d1, d2, d3] f c r) : r = ex3 f (mm y1 d1) (ex2 f (mm y2 d2) (ex1 f (mm y3 d3))) := by
  have e1 : (1 : Int32).toInt = 1 := by decide
  have e2 : (2 : Int32).toInt = 2 := by decide
  have e3 : (3 : Int32).toInt = 3 := by decide
  have k1 : mm y1 d1 = 0 ↔ ¬ Hit [c ^^^ y0, c ^^^ y1, c ^^^ y2, c ^^^ y3] [d0, d1, d2, d3] c 1 := mm_hit
  have k2 : mm y2 d2 = 0 ↔ ¬ Hit [c ^^^ y0, c ^^^ y1, c ^^^ y2, c ^^^ y3] [d0, d1, d2, d3] c 2 := mm_hit
  have k3 : mm y3 d3 = 0 ↔ ¬ Hit [c ^^^ y0, c ^^^ y1, c ^^^ y2, c ^^^ y3] [d0, d1, d2, d3] c 3 := mm_hit
  have l1 : f < 1 ↔ f.toInt < 1 := by rw [Int32.lt_iff_toInt_lt, e1]
  have l2 : f < 2 ↔ f.toInt < 2 := by rw [Int32.lt_iff_toInt_lt, e2]
  have l3 : f < 3 ↔ f.toInt < 3 := by rw [Int32.lt_iff_toInt_lt, e3]
  generalize mm y1 d1 = m1 at *
  generalize mm y2 d2 = m2 at *
  generalize mm y3 d3 = m3 at *
  unfold Dro at h
  generalize Hit [c ^^^ y0, c ^^^ y1, c ^^^ y2, c ^^^ y3] [d0, d1, d2, d3] c = H at *
  rcases h with ⟨rfl, hno⟩ | ⟨h1, h2, h3, hno⟩
  · have q1 := hno 1; have q2 := hno 2; have q3 := hno 3
    rw [e1] at q1; rw [e2] at q2; rw [e3] at q3
    have z3 : ex1 f m3 = -1 := by
      unfold ex1; by_cases g : f.toInt < 3
      · rw [if_pos (l3.mpr g), if_pos (k3.mpr (q3 g (by omega)))]
      · rw [if_neg (fun u => g (l3.mp u))]
    have z2 : ex2 f m2 (ex1 f m3) = -1 := by
      rw [z3]; unfold ex2; by_cases g : f.toInt < 2
      · rw [if_pos (l2.mpr g), if_pos (k2.mpr (q2 g (by omega)))]
      · rw [if_neg (fun u => g (l2.mp u))]
    rw [z2]; unfold ex3; by_cases g : f.toInt < 1
    · rw [if_pos (l1.mpr g), if_pos (k1.mpr (q1 g (by omega)))]
    · rw [if_neg (fun u => g (l1.mp u))]
  · have hr : r.toInt = 1 ∨ r.toInt = 2 ∨ r.toInt = 3 := by omega
    rcases hr with hr | hr | hr
    · obtain rfl : r = 1 := Int32.toInt_inj.mp (by omega)
      unfold ex3; rw [if_pos (l1.mpr (by omega)), if_neg (fun u => k1.mp u h3)]
    · obtain rfl : r = 2 := Int32.toInt_inj.mp (by omega)
      have z2 : ex2 f m2 (ex1 f m3) = 2 := by unfold ex2; rw [if_pos (l2.mpr (by omega)), if_neg (fun u => k2.mp u h3)]
      rw [z2]; unfold ex3; by_cases g : f.toInt < 1
      · rw [if_pos (l1.mpr g), if_pos (k1.mpr (hno 1 (by omega) (by omega)))]
      · rw [if_neg (fun u => g (l1.mp u))]
    · obtain rfl : r = 3 := Int32.toInt_inj.mp (by omega)
      have z3 : ex1 f m3 = 3 := by unfold ex1; rw [if_pos (l3.mpr (by omega)), if_neg (fun u => k3.mp u h3)]
      have z2 : ex2 f m2 (ex1 f m3) = 3 := by
        rw [z3]; unfold ex2; by_cases g : f.toInt < 2
        · rw [if_pos (l2.mpr g), if_pos (k2.mpr (hno 2 (by omega) (by omega)))]
        · rw [if_neg (fun u => g (l2.mp u))]
      rw [z2]; unfold ex3; by_cases g : f.toInt < 1
      · rw [if_pos (l1.mpr g), if_pos (k1.mpr (hno 1 (by omega) (by omega)))]
      · rw [if_neg (fun u => g (l1.mp u))]
theorem d_method_2_code_0 : decode method_2_code 0 = .ok (.iload_n 0, 1) := by decide +kernel
theorem d_method_2_code_1 : decode method_2_code 1 = .ok (.iload_n 1, 1) := by decide +kernel
theorem d_method_2_code_2 : decode method_2_code 2 = .ok (.ishr, 1) := by decide +kernel
theorem d_method_2_code_3 : decode method_2_code 3 = .ok (.iconst 1, 1) := by decide +kernel
theorem d_method_2_code_4 : decode method_2_code 4 = .ok (.iand, 1) := by decide +kernel
theorem d_method_2_code_5 : decode method_2_code 5 = .ok (.ifCond .eq 7, 3) := by decide +kernel
theorem d_method_2_code_8 : decode method_2_code 8 = .ok (.iconst 1, 1) := by decide +kernel
theorem d_method_2_code_9 : decode method_2_code 9 = .ok (.goto 4, 3) := by decide +kernel
theorem d_method_2_code_12 : decode method_2_code 12 = .ok (.iconst 0, 1) := by decide +kernel
theorem d_method_2_code_13 : decode method_2_code 13 = .ok (.ireturn, 1) := by decide +kernel
def QBt (Z : State) (n0 : Nat) (h0 : Heap) (p1 : Int32) (p2 : Int32) (v : Option Value) (h : Heap) : Prop := v = some (.int (bitF p1 p2)) ∧ h = h0
theorem ef_Bt (m : MethodId) (p1 : Int32) (p2 : Int32) : entryFrame m #[(.int p1), (.int p2)] 2 = mkF m 0 #[.val (.int p1), .val (.int p2)] [] := by first | (simp [entryFrame, mkF, argsToLocals, Value.category, maxLocals]; done) | rfl
set_option maxRecDepth 65536 in
set_option maxHeartbeats 40000000 in
theorem rm_Bt (l : Launch) (Z : State) (a0 : Array Value) (hw : ∀ d ∈ tables_1, d.before a0 Z = true) (n0 : Nat) (h0 : Heap) (p1 : Int32) (p2 : Int32) (Z0 : n0 ≤ h0.size)  :
    WCon l Z n0 h0 (⟨"com/example/pathweave/pathweave/routing/PatternDropOffAfterPinLaw", "bit", "(II)Z"⟩ : MethodName) method_2_code 2 (some .boolean) [] ({ frames := 0, cells := 0, slots := 0, locals := 0 } : Room) #[(.int p1), (.int p2)] (QBt Z n0 h0 p1 p2) := by
  refine WCon.of (by first | exact plainFor_of_name (by decide +kernel) | decide +kernel) Z0 ?_
  intro p e s m below meth c T hx hZ hby hml hown hnm hret S
  refine WGo.cast (ef_Bt m p1 p2) ?_
  show WGo _ _ _ _ _ _ _ _ T (mkF m 0 #[.val (.int p1), .val (.int p2)] [])
  refine WGo.st (fun _ q => XS.iloadN S.here hx rfl (hb hby d_method_2_code_0) rfl q) ?_
  show WGo _ _ _ _ _ _ _ _ T (mkF m 1 #[.val (.int p1), .val (.int p2)] [(.int p1)])
  refine WGo.st (fun _ q => XS.iloadN S.here hx rfl (hb hby d_method_2_code_1) rfl q) ?_
  show WGo _ _ _ _ _ _ _ _ T (mkF m 2 #[.val (.int p1), .val (.int p2)] [(.int p2), (.int p1)])
  refine WGo.st (fun _ q => XS.ishr S.here hx rfl (hb hby d_method_2_code_2) rfl q) ?_
  show WGo _ _ _ _ _ _ _ _ T (mkF m 3 #[.val (.int p1), .val (.int p2)] [(.int (p1 >>> (p2 &&& 31)))])
  refine WGo.st (fun _ q => XS.iconst S.here hx rfl (hb hby d_method_2_code_3) q) ?_
  show WGo _ _ _ _ _ _ _ _ T (mkF m 4 #[.val (.int p1), .val (.int p2)] [(.int (1 : Int32)), (.int (p1 >>> (p2 &&& 31)))])
  refine WGo.st (fun _ q => XS.iand S.here hx rfl (hb hby d_method_2_code_4) rfl q) ?_
  show WGo _ _ _ _ _ _ _ _ T (mkF m 5 #[.val (.int p1), .val (.int p2)] [(.int ((p1 >>> (p2 &&& 31)) &&& (1 : Int32)))])
  by_cases c5 : ((p1 >>> (p2 &&& 31)) &&& (1 : Int32)) = (0 : Int32)
  · refine WGo.st (fun _ q => XS.ifYes S.here hx rfl (pc0 := 5) (pc' := 12) rfl (hb hby d_method_2_code_5) rfl ((if0 _ _).trans (teq c5).1) (by decide) (by decide) q) ?_
    show WGo _ _ _ _ _ _ _ _ T (mkF m 12 #[.val (.int p1), .val (.int p2)] [])
    refine WGo.st (fun _ q => XS.iconst S.here hx rfl (hb hby d_method_2_code_12) q) ?_
    show WGo _ _ _ _ _ _ _ _ T (mkF m 13 #[.val (.int p1), .val (.int p2)] [(.int (0 : Int32))])
    refine w_retZ S hret (hb hby d_method_2_code_13) (by decide) (by decide) (by decide) ?_
    exact ⟨by simp [bitF, *], rfl⟩
  · refine WGo.st (fun _ q => XS.ifNo S.here hx rfl (hb hby d_method_2_code_5) rfl ((if0 _ _).trans (feq c5).1) q) ?_
    show WGo _ _ _ _ _ _ _ _ T (mkF m 8 #[.val (.int p1), .val (.int p2)] [])
    refine WGo.st (fun _ q => XS.iconst S.here hx rfl (hb hby d_method_2_code_8) q) ?_
    show WGo _ _ _ _ _ _ _ _ T (mkF m 9 #[.val (.int p1), .val (.int p2)] [(.int (1 : Int32))])
    refine WGo.st (fun _ q => XS.goto S.here hx rfl (pc0 := 9) (pc' := 13) rfl (hb hby d_method_2_code_9) (by decide) (by decide) q) ?_
    show WGo _ _ _ _ _ _ _ _ T (mkF m 13 #[.val (.int p1), .val (.int p2)] [(.int (1 : Int32))])
    refine w_retZ S hret (hb hby d_method_2_code_13) (by decide) (by decide) (by decide) ?_
    exact ⟨by simp [bitF, *], rfl⟩
theorem d_prog_88_method_1_code_0 : decode prog_88_method_1_code 0 = .ok (.aload_n 0, 1) := by decide +kernel
theorem d_prog_88_method_1_code_1 : decode prog_88_method_1_code 1 = .ok (.invokespecial 1, 3) := by decide +kernel
theorem d_prog_88_method_1_code_4 : decode prog_88_method_1_code 4 = .ok (.aload_n 0, 1) := by decide +kernel
theorem d_prog_88_method_1_code_5 : decode prog_88_method_1_code 5 = .ok (.iload_n 1, 1) := by decide +kernel
theorem d_prog_88_method_1_code_6 : decode prog_88_method_1_code 6 = .ok (.putfield 7, 3) := by decide +kernel
theorem d_prog_88_method_1_code_9 : decode prog_88_method_1_code 9 = .ok (.aload_n 0, 1) := by decide +kernel
theorem d_prog_88_method_1_code_10 : decode prog_88_method_1_code 10 = .ok (.aload_n 2, 1) := by decide +kernel
theorem d_prog_88_method_1_code_11 : decode prog_88_method_1_code 11 = .ok (.putfield 13, 3) := by decide +kernel
theorem d_prog_88_method_1_code_14 : decode prog_88_method_1_code 14 = .ok (.aload_n 0, 1) := by decide +kernel
theorem d_prog_88_method_1_code_15 : decode prog_88_method_1_code 15 = .ok (.aload_n 3, 1) := by decide +kernel
theorem d_prog_88_method_1_code_16 : decode prog_88_method_1_code 16 = .ok (.putfield 17, 3) := by decide +kernel
theorem d_prog_88_method_1_code_19 : decode prog_88_method_1_code 19 = .ok (.aload_n 0, 1) := by decide +kernel
theorem d_prog_88_method_1_code_20 : decode prog_88_method_1_code 20 = .ok (.aload 4, 2) := by decide +kernel
theorem d_prog_88_method_1_code_22 : decode prog_88_method_1_code 22 = .ok (.putfield 21, 3) := by decide +kernel
theorem d_prog_88_method_1_code_25 : decode prog_88_method_1_code 25 = .ok (.aload_n 0, 1) := by decide +kernel
theorem d_prog_88_method_1_code_26 : decode prog_88_method_1_code 26 = .ok (.aload 5, 2) := by decide +kernel
theorem d_prog_88_method_1_code_28 : decode prog_88_method_1_code 28 = .ok (.putfield 24, 3) := by decide +kernel
theorem d_prog_88_method_1_code_31 : decode prog_88_method_1_code 31 = .ok (.aload_n 0, 1) := by decide +kernel
theorem d_prog_88_method_1_code_32 : decode prog_88_method_1_code 32 = .ok (.aload 6, 2) := by decide +kernel
theorem d_prog_88_method_1_code_34 : decode prog_88_method_1_code 34 = .ok (.putfield 27, 3) := by decide +kernel
theorem d_prog_88_method_1_code_37 : decode prog_88_method_1_code 37 = .ok (.aload_n 0, 1) := by decide +kernel
theorem d_prog_88_method_1_code_38 : decode prog_88_method_1_code 38 = .ok (.aload 7, 2) := by decide +kernel
theorem d_prog_88_method_1_code_40 : decode prog_88_method_1_code 40 = .ok (.putfield 30, 3) := by decide +kernel
theorem d_prog_88_method_1_code_43 : decode prog_88_method_1_code 43 = .ok (.return_, 1) := by decide +kernel
def QK (Z : State) (n0 : Nat) (h0 : Heap) (a1 : Addr) (p2 : Int32) (r3 : Addr) (r4 : Addr) (r5 : Addr) (r6 : Addr) (r7 : Addr) (r8 : Addr) (v : Option Value) (h : Heap) : Prop := v = none ∧ Keep h0 h [a1] ∧ Exa Z h a1 "com/example/pathweave/pathweave/routing/Pattern" ∧ Fld Z h a1 "com/example/pathweave/pathweave/routing/Pattern" "stops" "[I" (.ref r3) ∧ Fld Z h a1 "com/example/pathweave/pathweave/routing/Pattern" "dropOffs" "[Z" (.ref r5) ∧ Fld Z h a1 "com/example/pathweave/pathweave/routing/Pattern" "arrivals" "[I" (.ref r7)
theorem ef_K (m : MethodId) (a1 : Addr) (p2 : Int32) (r3 : Addr) (r4 : Addr) (r5 : Addr) (r6 : Addr) (r7 : Addr) (r8 : Addr) : entryFrame m #[(.ref a1), (.int p2), (.ref r3), (.ref r4), (.ref r5), (.ref r6), (.ref r7), (.ref r8)] 8 = mkF m 0 #[.val (.ref a1), .val (.int p2), .val (.ref r3), .val (.ref r4), .val (.ref r5), .val (.ref r6), .val (.ref r7), .val (.ref r8)] [] := by first | (simp [entryFrame, mkF, argsToLocals, Value.category, maxLocals]; done) | rfl
set_option maxRecDepth 65536 in
set_option maxHeartbeats 40000000 in
theorem rm_K (l : Launch) (Z : State) (a0 : Array Value) (hw : ∀ d ∈ tables_1, d.before a0 Z = true) (n0 : Nat) (h0 : Heap) (a1 : Addr) (p2 : Int32) (r3 : Addr) (r4 : Addr) (r5 : Addr) (r6 : Addr) (r7 : Addr) (r8 : Addr) (Z0 : n0 ≤ h0.size) (g1 : n0 ≤ a1) (E1 : Exa Z h0 a1 "com/example/pathweave/pathweave/routing/Pattern") (F_route : Fld Z h0 a1 "com/example/pathweave/pathweave/routing/Pattern" "route" "I" (.int (0 : Int32))) (F_stops : Fld Z h0 a1 "com/example/pathweave/pathweave/routing/Pattern" "stops" "[I" (.null)) (F_pickups : Fld Z h0 a1 "com/example/pathweave/pathweave/routing/Pattern" "pickups" "[Z" (.null)) (F_dropOffs : Fld Z h0 a1 "com/example/pathweave/pathweave/routing/Pattern" "dropOffs" "[Z" (.null)) (F_trips : Fld Z h0 a1 "com/example/pathweave/pathweave/routing/Pattern" "trips" "[I" (.null)) (F_arrivals : Fld Z h0 a1 "com/example/pathweave/pathweave/routing/Pattern" "arrivals" "[I" (.null)) (F_departures : Fld Z h0 a1 "com/example/pathweave/pathweave/routing/Pattern" "departures" "[I" (.null)) :
    WCon l Z n0 h0 (⟨"com/example/pathweave/pathweave/routing/Pattern", "<init>", "(I[I[Z[Z[I[I[I)V"⟩ : MethodName) prog_88_method_1_code 8 none [] ({ frames := 1, cells := 0, slots := 0, locals := 12 } : Room) #[(.ref a1), (.int p2), (.ref r3), (.ref r4), (.ref r5), (.ref r6), (.ref r7), (.ref r8)] (QK Z n0 h0 a1 p2 r3 r4 r5 r6 r7 r8) := by
  refine WCon.of (by first | exact plainFor_of_name (by decide +kernel) | decide +kernel) Z0 ?_
  intro p e s m below meth c T hx hZ hby hml hown hnm hret S
  refine WGo.cast (ef_K m a1 p2 r3 r4 r5 r6 r7 r8) ?_
  show WGo _ _ _ _ _ _ _ _ T (mkF m 0 #[.val (.ref a1), .val (.int p2), .val (.ref r3), .val (.ref r4), .val (.ref r5), .val (.ref r6), .val (.ref r7), .val (.ref r8)] [])
  refine WGo.st (fun _ q => XS.aloadN S.here hx rfl (hb hby d_prog_88_method_1_code_0) rfl rfl q) ?_
  show WGo _ _ _ _ _ _ _ _ T (mkF m 1 #[.val (.ref a1), .val (.int p2), .val (.ref r3), .val (.ref r4), .val (.ref r5), .val (.ref r6), .val (.ref r7), .val (.ref r8)] [(.ref a1)])
  refine w_objinit S hown (hw _ (List.mem_of_getElem? (i := 13) rfl)) (hw _ (List.mem_of_getElem? (i := 14) rfl)) (hw _ (List.mem_of_getElem? (i := 15) rfl)) rfl (by rw [hml]; rfl) rfl (hb hby d_prog_88_method_1_code_1) (by decide) (W := 0) (by show 2 * 0 + _ ≤ _; exact Nat.le_of_eq rfl) (by decide) ?_
  intro T1 S2
  show WGo _ _ _ _ _ _ _ _ T1 (mkF m 4 #[.val (.ref a1), .val (.int p2), .val (.ref r3), .val (.ref r4), .val (.ref r5), .val (.ref r6), .val (.ref r7), .val (.ref r8)] [])
  refine WGo.st (fun _ q => XS.aloadN S2.here hx rfl (hb hby d_prog_88_method_1_code_4) rfl rfl q) ?_
  show WGo _ _ _ _ _ _ _ _ T1 (mkF m 5 #[.val (.ref a1), .val (.int p2), .val (.ref r3), .val (.ref r4), .val (.ref r5), .val (.ref r6), .val (.ref r7), .val (.ref r8)] [(.ref a1)])
  refine WGo.st (fun _ q => XS.iloadN S2.here hx rfl (hb hby d_prog_88_method_1_code_5) rfl q) ?_
  show WGo _ _ _ _ _ _ _ _ T1 (mkF m 6 #[.val (.ref a1), .val (.int p2), .val (.ref r3), .val (.ref r4), .val (.ref r5), .val (.ref r6), .val (.ref r7), .val (.ref r8)] [(.int p2), (.ref a1)])
  refine w_putfield S2 hown (hw _ (List.mem_of_getElem? (i := 16) rfl)) Via.refl F_route E1 (Or.inr ⟨(hw _ (List.mem_of_getElem? (i := 17) rfl)), rfl, hnm⟩) (hw _ (List.mem_of_getElem? (i := 8) rfl)) g1 (ty := .int) (by decide) rfl rfl rfl rfl (hb hby d_prog_88_method_1_code_6) ?_
  intro T3 h4 S5 W7 K6
  have P8 := Keep.trans (Keep.refl h0 [a1]) K6 (allS (Or.inl (List.mem_of_getElem? (i := 0) rfl)) all0)
  have f9 := Exa.keep E1 K6
  have f10 : Fld Z h4 a1 "com/example/pathweave/pathweave/routing/Pattern" "route" "I" (.int p2) := Fld.same W7 F_route
  have f11 := Fld.other W7 F_stops (Or.inr (slot_ne (a0 := a0) (C := "com/example/pathweave/pathweave/routing/Pattern") (Or.inr (hw _ (List.mem_of_getElem? (i := 19) rfl))) (Or.inr (hw _ (List.mem_of_getElem? (i := 17) rfl))) (by decide) (t := (.array .int)) (by decide) (t' := .int) (by decide)))
  have f12 := Fld.other W7 F_pickups (Or.inr (slot_ne (a0 := a0) (C := "com/example/pathweave/pathweave/routing/Pattern") (Or.inr (hw _ (List.mem_of_getElem? (i := 21) rfl))) (Or.inr (hw _ (List.mem_of_getElem? (i := 17) rfl))) (by decide) (t := (.array .boolean)) (by decide) (t' := .int) (by decide)))
  have f13 := Fld.other W7 F_dropOffs (Or.inr (slot_ne (a0 := a0) (C := "com/example/pathweave/pathweave/routing/Pattern") (Or.inr (hw _ (List.mem_of_getElem? (i := 23) rfl))) (Or.inr (hw _ (List.mem_of_getElem? (i := 17) rfl))) (by decide) (t := (.array .boolean)) (by decide) (t' := .int) (by decide)))
  have f14 := Fld.other W7 F_trips (Or.inr (slot_ne (a0 := a0) (C := "com/example/pathweave/pathweave/routing/Pattern") (Or.inr (hw _ (List.mem_of_getElem? (i := 25) rfl))) (Or.inr (hw _ (List.mem_of_getElem? (i := 17) rfl))) (by decide) (t := (.array .int)) (by decide) (t' := .int) (by decide)))
  have f15 := Fld.other W7 F_arrivals (Or.inr (slot_ne (a0 := a0) (C := "com/example/pathweave/pathweave/routing/Pattern") (Or.inr (hw _ (List.mem_of_getElem? (i := 27) rfl))) (Or.inr (hw _ (List.mem_of_getElem? (i := 17) rfl))) (by decide) (t := (.array .int)) (by decide) (t' := .int) (by decide)))
  have f16 := Fld.other W7 F_departures (Or.inr (slot_ne (a0 := a0) (C := "com/example/pathweave/pathweave/routing/Pattern") (Or.inr (hw _ (List.mem_of_getElem? (i := 29) rfl))) (Or.inr (hw _ (List.mem_of_getElem? (i := 17) rfl))) (by decide) (t := (.array .int)) (by decide) (t' := .int) (by decide)))
  show WGo _ _ _ _ _ _ _ _ T3 (mkF m 9 #[.val (.ref a1), .val (.int p2), .val (.ref r3), .val (.ref r4), .val (.ref r5), .val (.ref r6), .val (.ref r7), .val (.ref r8)] [])
  refine WGo.st (fun _ q => XS.aloadN S5.here hx rfl (hb hby d_prog_88_method_1_code_9) rfl rfl q) ?_
  show WGo _ _ _ _ _ _ _ _ T3 (mkF m 10 #[.val (.ref a1), .val (.int p2), .val (.ref r3), .val (.ref r4), .val (.ref r5), .val (.ref r6), .val (.ref r7), .val (.ref r8)] [(.ref a1)])
  refine WGo.st (fun _ q => XS.aloadN S5.here hx rfl (hb hby d_prog_88_method_1_code_10) rfl rfl q) ?_
  show WGo _ _ _ _ _ _ _ _ T3 (mkF m 11 #[.val (.ref a1), .val (.int p2), .val (.ref r3), .val (.ref r4), .val (.ref r5), .val (.ref r6), .val (.ref r7), .val (.ref r8)] [(.ref r3), (.ref a1)])
  refine w_putfield S5 hown (hw _ (List.mem_of_getElem? (i := 18) rfl)) Via.refl f11 f9 (Or.inr ⟨(hw _ (List.mem_of_getElem? (i := 19) rfl)), rfl, hnm⟩) (hw _ (List.mem_of_getElem? (i := 8) rfl)) g1 (ty := (.array .int)) (by decide) rfl rfl rfl rfl (hb hby d_prog_88_method_1_code_11) ?_
  intro T17 h18 S19 W21 K20
  have P22 := Keep.trans P8 K20 (allS (Or.inl (List.mem_of_getElem? (i := 0) rfl)) all0)
  have f23 := Exa.keep f9 K20
  have f24 := Fld.other W21 f10 (Or.inr (slot_ne (a0 := a0) (C := "com/example/pathweave/pathweave/routing/Pattern") (Or.inr (hw _ (List.mem_of_getElem? (i := 17) rfl))) (Or.inr (hw _ (List.mem_of_getElem? (i := 19) rfl))) (by decide) (t := .int) (by decide) (t' := (.array .int)) (by decide)))
  have f25 : Fld Z h18 a1 "com/example/pathweave/pathweave/routing/Pattern" "stops" "[I" (.ref r3) := Fld.same W21 f11
  have f26 := Fld.other W21 f12 (Or.inr (slot_ne (a0 := a0) (C := "com/example/pathweave/pathweave/routing/Pattern") (Or.inr (hw _ (List.mem_of_getElem? (i := 21) rfl))) (Or.inr (hw _ (List.mem_of_getElem? (i := 19) rfl))) (by decide) (t := (.array .boolean)) (by decide) (t' := (.array .int)) (by decide)))
  have f27 := Fld.other W21 f13 (Or.inr (slot_ne (a0 := a0) (C := "com/example/pathweave/pathweave/routing/Pattern") (Or.inr (hw _ (List.mem_of_getElem? (i := 23) rfl))) (Or.inr (hw _ (List.mem_of_getElem? (i := 19) rfl))) (by decide) (t := (.array .boolean)) (by decide) (t' := (.array .int)) (by decide)))
  have f28 := Fld.other W21 f14 (Or.inr (slot_ne (a0 := a0) (C := "com/example/pathweave/pathweave/routing/Pattern") (Or.inr (hw _ (List.mem_of_getElem? (i := 25) rfl))) (Or.inr (hw _ (List.mem_of_getElem? (i := 19) rfl))) (by decide) (t := (.array .int)) (by decide) (t' := (.array .int)) (by decide)))
  have f29 := Fld.other W21 f15 (Or.inr (slot_ne (a0 := a0) (C := "com/example/pathweave/pathweave/routing/Pattern") (Or.inr (hw _ (List.mem_of_getElem? (i := 27) rfl))) (Or.inr (hw _ (List.mem_of_getElem? (i := 19) rfl))) (by decide) (t := (.array .int)) (by decide) (t' := (.array .int)) (by decide)))
  have f30 := Fld.other W21 f16 (Or.inr (slot_ne (a0 := a0) (C := "com/example/pathweave/pathweave/routing/Pattern") (Or.inr (hw _ (List.mem_of_getElem? (i := 29) rfl))) (Or.inr (hw _ (List.mem_of_getElem? (i := 19) rfl))) (by decide) (t := (.array .int)) (by decide) (t' := (.array .int)) (by decide)))
  show WGo _ _ _ _ _ _ _ _ T17 (mkF m 14 #[.val (.ref a1), .val (.int p2), .val (.ref r3), .val (.ref r4), .val (.ref r5), .val (.ref r6), .val (.ref r7), .val (.ref r8)] [])
  refine WGo.st (fun _ q => XS.aloadN S19.here hx rfl (hb hby d_prog_88_method_1_code_14) rfl rfl q) ?_
  show WGo _ _ _ _ _ _ _ _ T17 (mkF m 15 #[.val (.ref a1), .val (.int p2), .val (.ref r3), .val (.ref r4), .val (.ref r5), .val (.ref r6), .val (.ref r7), .val (.ref r8)] [(.ref a1)])
  refine WGo.st (fun _ q => XS.aloadN S19.here hx rfl (hb hby d_prog_88_method_1_code_15) rfl rfl q) ?_
  show WGo _ _ _ _ _ _ _ _ T17 (mkF m 16 #[.val (.ref a1), .val (.int p2), .val (.ref r3), .val (.ref r4), .val (.ref r5), .val (.ref r6), .val (.ref r7), .val (.ref r8)] [(.ref r4), (.ref a1)])
  refine w_putfield S19 hown (hw _ (List.mem_of_getElem? (i := 20) rfl)) Via.refl f26 f23 (Or.inr ⟨(hw _ (List.mem_of_getElem? (i := 21) rfl)), rfl, hnm⟩) (hw _ (List.mem_of_getElem? (i := 8) rfl)) g1 (ty := (.array .boolean)) (by decide) rfl rfl rfl rfl (hb hby d_prog_88_method_1_code_16) ?_
  intro T31 h32 S33 W35 K34
  have P36 := Keep.trans P22 K34 (allS (Or.inl (List.mem_of_getElem? (i := 0) rfl)) all0)
  have f37 := Exa.keep f23 K34
  have f38 := Fld.other W35 f24 (Or.inr (slot_ne (a0 := a0) (C := "com/example/pathweave/pathweave/routing/Pattern") (Or.inr (hw _ (List.mem_of_getElem? (i := 17) rfl))) (Or.inr (hw _ (List.mem_of_getElem? (i := 21) rfl))) (by decide) (t := .int) (by decide) (t' := (.array .boolean)) (by decide)))
  have f39 := Fld.other W35 f25 (Or.inr (slot_ne (a0 := a0) (C := "com/example/pathweave/pathweave/routing/Pattern") (Or.inr (hw _ (List.mem_of_getElem? (i := 19) rfl))) (Or.inr (hw _ (List.mem_of_getElem? (i := 21) rfl))) (by decide) (t := (.array .int)) (by decide) (t' := (.array .boolean)) (by decide)))
  have f40 : Fld Z h32 a1 "com/example/pathweave/pathweave/routing/Pattern" "pickups" "[Z" (.ref r4) := Fld.same W35 f26
  have f41 := Fld.other W35 f27 (Or.inr (slot_ne (a0 := a0) (C := "com/example/pathweave/pathweave/routing/Pattern") (Or.inr (hw _ (List.mem_of_getElem? (i := 23) rfl))) (Or.inr (hw _ (List.mem_of_getElem? (i := 21) rfl))) (by decide) (t := (.array .boolean)) (by decide) (t' := (.array .boolean)) (by decide)))
  have f42 := Fld.other W35 f28 (Or.inr (slot_ne (a0 := a0) (C := "com/example/pathweave/pathweave/routing/Pattern") (Or.inr (hw _ (List.mem_of_getElem? (i := 25) rfl))) (Or.inr (hw _ (List.mem_of_getElem? (i := 21) rfl))) (by decide) (t := (.array .int)) (by decide) (t' := (.array .boolean)) (by decide)))
  have f43 := Fld.other W35 f29 (Or.inr (slot_ne (a0 := a0) (C := "com/example/pathweave/pathweave/routing/Pattern") (Or.inr (hw _ (List.mem_of_getElem? (i := 27) rfl))) (Or.inr (hw _ (List.mem_of_getElem? (i := 21) rfl))) (by decide) (t := (.array .int)) (by decide) (t' := (.array .boolean)) (by decide)))
  have f44 := Fld.other W35 f30 (Or.inr (slot_ne (a0 := a0) (C := "com/example/pathweave/pathweave/routing/Pattern") (Or.inr (hw _ (List.mem_of_getElem? (i := 29) rfl))) (Or.inr (hw _ (List.mem_of_getElem? (i := 21) rfl))) (by decide) (t := (.array .int)) (by decide) (t' := (.array .boolean)) (by decide)))
  show WGo _ _ _ _ _ _ _ _ T31 (mkF m 19 #[.val (.ref a1), .val (.int p2), .val (.ref r3), .val (.ref r4), .val (.ref r5), .val (.ref r6), .val (.ref r7), .val (.ref r8)] [])
  refine WGo.st (fun _ q => XS.aloadN S33.here hx rfl (hb hby d_prog_88_method_1_code_19) rfl rfl q) ?_
  show WGo _ _ _ _ _ _ _ _ T31 (mkF m 20 #[.val (.ref a1), .val (.int p2), .val (.ref r3), .val (.ref r4), .val (.ref r5), .val (.ref r6), .val (.ref r7), .val (.ref r8)] [(.ref a1)])
  refine WGo.st (fun _ q => XS.aload S33.here hx rfl (hb hby d_prog_88_method_1_code_20) rfl rfl q) ?_
  show WGo _ _ _ _ _ _ _ _ T31 (mkF m 22 #[.val (.ref a1), .val (.int p2), .val (.ref r3), .val (.ref r4), .val (.ref r5), .val (.ref r6), .val (.ref r7), .val (.ref r8)] [(.ref r5), (.ref a1)])
  refine w_putfield S33 hown (hw _ (List.mem_of_getElem? (i := 22) rfl)) Via.refl f41 f37 (Or.inr ⟨(hw _ (List.mem_of_getElem? (i := 23) rfl)), rfl, hnm⟩) (hw _ (List.mem_of_getElem? (i := 8) rfl)) g1 (ty := (.array .boolean)) (by decide) rfl rfl rfl rfl (hb hby d_prog_88_method_1_code_22) ?_
  intro T45 h46 S47 W49 K48
  have P50 := Keep.trans P36 K48 (allS (Or.inl (List.mem_of_getElem? (i := 0) rfl)) all0)
  have f51 := Exa.keep f37 K48
  have f52 := Fld.other W49 f38 (Or.inr (slot_ne (a0 := a0) (C := "com/example/pathweave/pathweave/routing/Pattern") (Or.inr (hw _ (List.mem_of_getElem? (i := 17) rfl))) (Or.inr (hw _ (List.mem_of_getElem? (i := 23) rfl))) (by decide) (t := .int) (by decide) (t' := (.array .boolean)) (by decide)))
  have f53 := Fld.other W49 f39 (Or.inr (slot_ne (a0 := a0) (C := "com/example/pathweave/pathweave/routing/Pattern") (Or.inr (hw _ (List.mem_of_getElem? (i := 19) rfl))) (Or.inr (hw _ (List.mem_of_getElem? (i := 23) rfl))) (by decide) (t := (.array .int)) (by decide) (t' := (.array .boolean)) (by decide)))
  have f54 := Fld.other W49 f40 (Or.inr (slot_ne (a0 := a0) (C := "com/example/pathweave/pathweave/routing/Pattern") (Or.inr (hw _ (List.mem_of_getElem? (i := 21) rfl))) (Or.inr (hw _ (List.mem_of_getElem? (i := 23) rfl))) (by decide) (t := (.array .boolean)) (by decide) (t' := (.array .boolean)) (by decide)))
  have f55 : Fld Z h46 a1 "com/example/pathweave/pathweave/routing/Pattern" "dropOffs" "[Z" (.ref r5) := Fld.same W49 f41
  have f56 := Fld.other W49 f42 (Or.inr (slot_ne (a0 := a0) (C := "com/example/pathweave/pathweave/routing/Pattern") (Or.inr (hw _ (List.mem_of_getElem? (i := 25) rfl))) (Or.inr (hw _ (List.mem_of_getElem? (i := 23) rfl))) (by decide) (t := (.array .int)) (by decide) (t' := (.array .boolean)) (by decide)))
  have f57 := Fld.other W49 f43 (Or.inr (slot_ne (a0 := a0) (C := "com/example/pathweave/pathweave/routing/Pattern") (Or.inr (hw _ (List.mem_of_getElem? (i := 27) rfl))) (Or.inr (hw _ (List.mem_of_getElem? (i := 23) rfl))) (by decide) (t := (.array .int)) (by decide) (t' := (.array .boolean)) (by decide)))
  have f58 := Fld.other W49 f44 (Or.inr (slot_ne (a0 := a0) (C := "com/example/pathweave/pathweave/routing/Pattern") (Or.inr (hw _ (List.mem_of_getElem? (i := 29) rfl))) (Or.inr (hw _ (List.mem_of_getElem? (i := 23) rfl))) (by decide) (t := (.array .int)) (by decide) (t' := (.array .boolean)) (by decide)))
  show WGo _ _ _ _ _ _ _ _ T45 (mkF m 25 #[.val (.ref a1), .val (.int p2), .val (.ref r3), .val (.ref r4), .val (.ref r5), .val (.ref r6), .val (.ref r7), .val (.ref r8)] [])
  refine WGo.st (fun _ q => XS.aloadN S47.here hx rfl (hb hby d_prog_88_method_1_code_25) rfl rfl q) ?_
  show WGo _ _ _ _ _ _ _ _ T45 (mkF m 26 #[.val (.ref a1), .val (.int p2), .val (.ref r3), .val (.ref r4), .val (.ref r5), .val (.ref r6), .val (.ref r7), .val (.ref r8)] [(.ref a1)])
  refine WGo.st (fun _ q => XS.aload S47.here hx rfl (hb hby d_prog_88_method_1_code_26) rfl rfl q) ?_
  show WGo _ _ _ _ _ _ _ _ T45 (mkF m 28 #[.val (.ref a1), .val (.int p2), .val (.ref r3), .val (.ref r4), .val (.ref r5), .val (.ref r6), .val (.ref r7), .val (.ref r8)] [(.ref r6), (.ref a1)])
  refine w_putfield S47 hown (hw _ (List.mem_of_getElem? (i := 24) rfl)) Via.refl f56 f51 (Or.inr ⟨(hw _ (List.mem_of_getElem? (i := 25) rfl)), rfl, hnm⟩) (hw _ (List.mem_of_getElem? (i := 8) rfl)) g1 (ty := (.array .int)) (by decide) rfl rfl rfl rfl (hb hby d_prog_88_method_1_code_28) ?_
  intro T59 h60 S61 W63 K62
  have P64 := Keep.trans P50 K62 (allS (Or.inl (List.mem_of_getElem? (i := 0) rfl)) all0)
  have f65 := Exa.keep f51 K62
  have f66 := Fld.other W63 f52 (Or.inr (slot_ne (a0 := a0) (C := "com/example/pathweave/pathweave/routing/Pattern") (Or.inr (hw _ (List.mem_of_getElem? (i := 17) rfl))) (Or.inr (hw _ (List.mem_of_getElem? (i := 25) rfl))) (by decide) (t := .int) (by decide) (t' := (.array .int)) (by decide)))
  have f67 := Fld.other W63 f53 (Or.inr (slot_ne (a0 := a0) (C := "com/example/pathweave/pathweave/routing/Pattern") (Or.inr (hw _ (List.mem_of_getElem? (i := 19) rfl))) (Or.inr (hw _ (List.mem_of_getElem? (i := 25) rfl))) (by decide) (t := (.array .int)) (by decide) (t' := (.array .int)) (by decide)))
  have f68 := Fld.other W63 f54 (Or.inr (slot_ne (a0 := a0) (C := "com/example/pathweave/pathweave/routing/Pattern") (Or.inr (hw _ (List.mem_of_getElem? (i := 21) rfl))) (Or.inr (hw _ (List.mem_of_getElem? (i := 25) rfl))) (by decide) (t := (.array .boolean)) (by decide) (t' := (.array .int)) (by decide)))
  have f69 := Fld.other W63 f55 (Or.inr (slot_ne (a0 := a0) (C := "com/example/pathweave/pathweave/routing/Pattern") (Or.inr (hw _ (List.mem_of_getElem? (i := 23) rfl))) (Or.inr (hw _ (List.mem_of_getElem? (i := 25) rfl))) (by decide) (t := (.array .boolean)) (by decide) (t' := (.array .int)) (by decide)))
  have f70 : Fld Z h60 a1 "com/example/pathweave/pathweave/routing/Pattern" "trips" "[I" (.ref r6) := Fld.same W63 f56
  have f71 := Fld.other W63 f57 (Or.inr (slot_ne (a0 := a0) (C := "com/example/pathweave/pathweave/routing/Pattern") (Or.inr (hw _ (List.mem_of_getElem? (i := 27) rfl))) (Or.inr (hw _ (List.mem_of_getElem? (i := 25) rfl))) (by decide) (t := (.array .int)) (by decide) (t' := (.array .int)) (by decide)))
  have f72 := Fld.other W63 f58 (Or.inr (slot_ne (a0 := a0) (C := "com/example/pathweave/pathweave/routing/Pattern") (Or.inr (hw _ (List.mem_of_getElem? (i := 29) rfl))) (Or.inr (hw _ (List.mem_of_getElem? (i := 25) rfl))) (by decide) (t := (.array .int)) (by decide) (t' := (.array .int)) (by decide)))
  show WGo _ _ _ _ _ _ _ _ T59 (mkF m 31 #[.val (.ref a1), .val (.int p2), .val (.ref r3), .val (.ref r4), .val (.ref r5), .val (.ref r6), .val (.ref r7), .val (.ref r8)] [])
  refine WGo.st (fun _ q => XS.aloadN S61.here hx rfl (hb hby d_prog_88_method_1_code_31) rfl rfl q) ?_
  show WGo _ _ _ _ _ _ _ _ T59 (mkF m 32 #[.val (.ref a1), .val (.int p2), .val (.ref r3), .val (.ref r4), .val (.ref r5), .val (.ref r6), .val (.ref r7), .val (.ref r8)] [(.ref a1)])
  refine WGo.st (fun _ q => XS.aload S61.here hx rfl (hb hby d_prog_88_method_1_code_32) rfl rfl q) ?_
  show WGo _ _ _ _ _ _ _ _ T59 (mkF m 34 #[.val (.ref a1), .val (.int p2), .val (.ref r3), .val (.ref r4), .val (.ref r5), .val (.ref r6), .val (.ref r7), .val (.ref r8)] [(.ref r7), (.ref a1)])
  refine w_putfield S61 hown (hw _ (List.mem_of_getElem? (i := 26) rfl)) Via.refl f71 f65 (Or.inr ⟨(hw _ (List.mem_of_getElem? (i := 27) rfl)), rfl, hnm⟩) (hw _ (List.mem_of_getElem? (i := 8) rfl)) g1 (ty := (.array .int)) (by decide) rfl rfl rfl rfl (hb hby d_prog_88_method_1_code_34) ?_
  intro T73 h74 S75 W77 K76
  have P78 := Keep.trans P64 K76 (allS (Or.inl (List.mem_of_getElem? (i := 0) rfl)) all0)
  have f79 := Exa.keep f65 K76
  have f80 := Fld.other W77 f66 (Or.inr (slot_ne (a0 := a0) (C := "com/example/pathweave/pathweave/routing/Pattern") (Or.inr (hw _ (List.mem_of_getElem? (i := 17) rfl))) (Or.inr (hw _ (List.mem_of_getElem? (i := 27) rfl))) (by decide) (t := .int) (by decide) (t' := (.array .int)) (by decide)))
  have f81 := Fld.other W77 f67 (Or.inr (slot_ne (a0 := a0) (C := "com/example/pathweave/pathweave/routing/Pattern") (Or.inr (hw _ (List.mem_of_getElem? (i := 19) rfl))) (Or.inr (hw _ (List.mem_of_getElem? (i := 27) rfl))) (by decide) (t := (.array .int)) (by decide) (t' := (.array .int)) (by decide)))
  have f82 := Fld.other W77 f68 (Or.inr (slot_ne (a0 := a0) (C := "com/example/pathweave/pathweave/routing/Pattern") (Or.inr (hw _ (List.mem_of_getElem? (i := 21) rfl))) (Or.inr (hw _ (List.mem_of_getElem? (i := 27) rfl))) (by decide) (t := (.array .boolean)) (by decide) (t' := (.array .int)) (by decide)))
  have f83 := Fld.other W77 f69 (Or.inr (slot_ne (a0 := a0) (C := "com/example/pathweave/pathweave/routing/Pattern") (Or.inr (hw _ (List.mem_of_getElem? (i := 23) rfl))) (Or.inr (hw _ (List.mem_of_getElem? (i := 27) rfl))) (by decide) (t := (.array .boolean)) (by decide) (t' := (.array .int)) (by decide)))
  have f84 := Fld.other W77 f70 (Or.inr (slot_ne (a0 := a0) (C := "com/example/pathweave/pathweave/routing/Pattern") (Or.inr (hw _ (List.mem_of_getElem? (i := 25) rfl))) (Or.inr (hw _ (List.mem_of_getElem? (i := 27) rfl))) (by decide) (t := (.array .int)) (by decide) (t' := (.array .int)) (by decide)))
  have f85 : Fld Z h74 a1 "com/example/pathweave/pathweave/routing/Pattern" "arrivals" "[I" (.ref r7) := Fld.same W77 f71
  have f86 := Fld.other W77 f72 (Or.inr (slot_ne (a0 := a0) (C := "com/example/pathweave/pathweave/routing/Pattern") (Or.inr (hw _ (List.mem_of_getElem? (i := 29) rfl))) (Or.inr (hw _ (List.mem_of_getElem? (i := 27) rfl))) (by decide) (t := (.array .int)) (by decide) (t' := (.array .int)) (by decide)))
  show WGo _ _ _ _ _ _ _ _ T73 (mkF m 37 #[.val (.ref a1), .val (.int p2), .val (.ref r3), .val (.ref r4), .val (.ref r5), .val (.ref r6), .val (.ref r7), .val (.ref r8)] [])
  refine WGo.st (fun _ q => XS.aloadN S75.here hx rfl (hb hby d_prog_88_method_1_code_37) rfl rfl q) ?_
  show WGo _ _ _ _ _ _ _ _ T73 (mkF m 38 #[.val (.ref a1), .val (.int p2), .val (.ref r3), .val (.ref r4), .val (.ref r5), .val (.ref r6), .val (.ref r7), .val (.ref r8)] [(.ref a1)])
  refine WGo.st (fun _ q => XS.aload S75.here hx rfl (hb hby d_prog_88_method_1_code_38) rfl rfl q) ?_
  show WGo _ _ _ _ _ _ _ _ T73 (mkF m 40 #[.val (.ref a1), .val (.int p2), .val (.ref r3), .val (.ref r4), .val (.ref r5), .val (.ref r6), .val (.ref r7), .val (.ref r8)] [(.ref r8), (.ref a1)])
  refine w_putfield S75 hown (hw _ (List.mem_of_getElem? (i := 28) rfl)) Via.refl f86 f79 (Or.inr ⟨(hw _ (List.mem_of_getElem? (i := 29) rfl)), rfl, hnm⟩) (hw _ (List.mem_of_getElem? (i := 8) rfl)) g1 (ty := (.array .int)) (by decide) rfl rfl rfl rfl (hb hby d_prog_88_method_1_code_40) ?_
  intro T87 h88 S89 W91 K90
  have P92 := Keep.trans P78 K90 (allS (Or.inl (List.mem_of_getElem? (i := 0) rfl)) all0)
  have f93 := Exa.keep f79 K90
  have f94 := Fld.other W91 f80 (Or.inr (slot_ne (a0 := a0) (C := "com/example/pathweave/pathweave/routing/Pattern") (Or.inr (hw _ (List.mem_of_getElem? (i := 17) rfl))) (Or.inr (hw _ (List.mem_of_getElem? (i := 29) rfl))) (by decide) (t := .int) (by decide) (t' := (.array .int)) (by decide)))
  have f95 := Fld.other W91 f81 (Or.inr (slot_ne (a0 := a0) (C := "com/example/pathweave/pathweave/routing/Pattern") (Or.inr (hw _ (List.mem_of_getElem? (i := 19) rfl))) (Or.inr (hw _ (List.mem_of_getElem? (i := 29) rfl))) (by decide) (t := (.array .int)) (by decide) (t' := (.array .int)) (by decide)))
  have f96 := Fld.other W91 f82 (Or.inr (slot_ne (a0 := a0) (C := "com/example/pathweave/pathweave/routing/Pattern") (Or.inr (hw _ (List.mem_of_getElem? (i := 21) rfl))) (Or.inr (hw _ (List.mem_of_getElem? (i := 29) rfl))) (by decide) (t := (.array .boolean)) (by decide) (t' := (.array .int)) (by decide)))
  have f97 := Fld.other W91 f83 (Or.inr (slot_ne (a0 := a0) (C := "com/example/pathweave/pathweave/routing/Pattern") (Or.inr (hw _ (List.mem_of_getElem? (i := 23) rfl))) (Or.inr (hw _ (List.mem_of_getElem? (i := 29) rfl))) (by decide) (t := (.array .boolean)) (by decide) (t' := (.array .int)) (by decide)))
  have f98 := Fld.other W91 f84 (Or.inr (slot_ne (a0 := a0) (C := "com/example/pathweave/pathweave/routing/Pattern") (Or.inr (hw _ (List.mem_of_getElem? (i := 25) rfl))) (Or.inr (hw _ (List.mem_of_getElem? (i := 29) rfl))) (by decide) (t := (.array .int)) (by decide) (t' := (.array .int)) (by decide)))
  have f99 := Fld.other W91 f85 (Or.inr (slot_ne (a0 := a0) (C := "com/example/pathweave/pathweave/routing/Pattern") (Or.inr (hw _ (List.mem_of_getElem? (i := 27) rfl))) (Or.inr (hw _ (List.mem_of_getElem? (i := 29) rfl))) (by decide) (t := (.array .int)) (by decide) (t' := (.array .int)) (by decide)))
  have f100 : Fld Z h88 a1 "com/example/pathweave/pathweave/routing/Pattern" "departures" "[I" (.ref r8) := Fld.same W91 f86
  show WGo _ _ _ _ _ _ _ _ T87 (mkF m 43 #[.val (.ref a1), .val (.int p2), .val (.ref r3), .val (.ref r4), .val (.ref r5), .val (.ref r6), .val (.ref r7), .val (.ref r8)] [])
  refine w_retV S89 hret (hb hby d_prog_88_method_1_code_43) (by decide) (by decide) ?_
  exact ⟨rfl, P92, f93, f95, f97, f99⟩
theorem d_prog_88_method_14_code_0 : decode prog_88_method_14_code 0 = .ok (.iload_n 1, 1) := by decide +kernel
theorem d_prog_88_method_14_code_1 : decode prog_88_method_14_code 1 = .ok (.iconst 1, 1) := by decide +kernel
theorem d_prog_88_method_14_code_2 : decode prog_88_method_14_code 2 = .ok (.iadd, 1) := by decide +kernel
theorem d_prog_88_method_14_code_3 : decode prog_88_method_14_code 3 = .ok (.istore_n 3, 1) := by decide +kernel
theorem d_prog_88_method_14_code_4 : decode prog_88_method_14_code 4 = .ok (.iload_n 3, 1) := by decide +kernel
theorem d_prog_88_method_14_code_5 : decode prog_88_method_14_code 5 = .ok (.aload_n 0, 1) := by decide +kernel
theorem d_prog_88_method_14_code_6 : decode prog_88_method_14_code 6 = .ok (.getfield 13, 3) := by decide +kernel
theorem d_prog_88_method_14_code_9 : decode prog_88_method_14_code 9 = .ok (.arraylength, 1) := by decide +kernel
theorem d_prog_88_method_14_code_10 : decode prog_88_method_14_code 10 = .ok (.if_icmp .ge 30, 3) := by decide +kernel
theorem d_prog_88_method_14_code_13 : decode prog_88_method_14_code 13 = .ok (.aload_n 0, 1) := by decide +kernel
theorem d_prog_88_method_14_code_14 : decode prog_88_method_14_code 14 = .ok (.getfield 13, 3) := by decide +kernel
theorem d_prog_88_method_14_code_17 : decode prog_88_method_14_code 17 = .ok (.iload_n 3, 1) := by decide +kernel
theorem d_prog_88_method_14_code_18 : decode prog_88_method_14_code 18 = .ok (.iaload, 1) := by decide +kernel
theorem d_prog_88_method_14_code_19 : decode prog_88_method_14_code 19 = .ok (.iload_n 2, 1) := by decide +kernel
theorem d_prog_88_method_14_code_20 : decode prog_88_method_14_code 20 = .ok (.if_icmp .ne 14, 3) := by decide +kernel
theorem d_prog_88_method_14_code_23 : decode prog_88_method_14_code 23 = .ok (.aload_n 0, 1) := by decide +kernel
theorem d_prog_88_method_14_code_24 : decode prog_88_method_14_code 24 = .ok (.getfield 21, 3) := by decide +kernel
theorem d_prog_88_method_14_code_27 : decode prog_88_method_14_code 27 = .ok (.iload_n 3, 1) := by decide +kernel
theorem d_prog_88_method_14_code_28 : decode prog_88_method_14_code 28 = .ok (.baload, 1) := by decide +kernel
theorem d_prog_88_method_14_code_29 : decode prog_88_method_14_code 29 = .ok (.ifCond .eq 5, 3) := by decide +kernel
theorem d_prog_88_method_14_code_32 : decode prog_88_method_14_code 32 = .ok (.iload_n 3, 1) := by decide +kernel
theorem d_prog_88_method_14_code_33 : decode prog_88_method_14_code 33 = .ok (.ireturn, 1) := by decide +kernel
theorem d_prog_88_method_14_code_34 : decode prog_88_method_14_code 34 = .ok (.iinc 3 1, 3) := by decide +kernel
theorem d_prog_88_method_14_code_37 : decode prog_88_method_14_code 37 = .ok (.goto (-33), 3) := by decide +kernel
theorem d_prog_88_method_14_code_40 : decode prog_88_method_14_code 40 = .ok (.iconst (-1), 1) := by decide +kernel
theorem d_prog_88_method_14_code_41 : decode prog_88_method_14_code 41 = .ok (.ireturn, 1) := by decide +kernel
def QD (Z : State) (n0 : Nat) (h0 : Heap) (a1 : Addr) (p2 : Int32) (p3 : Int32) (aS : Addr) (aD : Addr) (LS : List Int32) (LD : List Int32) (v : Option Value) (h : Heap) : Prop := ∃ r, v = some (.int r) ∧ h = h0 ∧ Dro LS LD p2 p3 r
theorem ef_D (m : MethodId) (a1 : Addr) (p2 : Int32) (p3 : Int32) : entryFrame m #[(.ref a1), (.int p2), (.int p3)] 4 = mkF m 0 #[.val (.ref a1), .val (.int p2), .val (.int p3), .unset] [] := by first | (simp [entryFrame, mkF, argsToLocals, Value.category, maxLocals]; done) | rfl
set_option maxRecDepth 65536 in
set_option maxHeartbeats 40000000 in
theorem rm_D (l : Launch) (Z : State) (a0 : Array Value) (hw : ∀ d ∈ tables_1, d.before a0 Z = true) (n0 : Nat) (h0 : Heap) (a1 : Addr) (p2 : Int32) (p3 : Int32) (aS : Addr) (aD : Addr) (LS : List Int32) (LD : List Int32) (Z0 : n0 ≤ h0.size) (FS : Fld Z h0 a1 "com/example/pathweave/pathweave/routing/Pattern" "stops" "[I" (.ref aS)) (FD : Fld Z h0 a1 "com/example/pathweave/pathweave/routing/Pattern" "dropOffs" "[Z" (.ref aD)) (AS : AI Z h0 aS .int LS) (AD : AI Z h0 aD .boolean LD) (hlS : LS.length = 4) (hlD : LD.length = 4) (f0 : 0 ≤ p2.toInt) (f1 : p2.toInt < 5) :
    WCon l Z n0 h0 (⟨"com/example/pathweave/pathweave/routing/Pattern", "dropOffAfter", "(II)I"⟩ : MethodName) prog_88_method_14_code 4 (some .int) [] ({ frames := 0, cells := 0, slots := 0, locals := 0 } : Room) #[(.ref a1), (.int p2), (.int p3)] (QD Z n0 h0 a1 p2 p3 aS aD LS LD) := by
  refine WCon.of (by first | exact plainFor_of_name (by decide +kernel) | decide +kernel) Z0 ?_
  intro p e s m below meth c T hx hZ hby hml hown hnm hret S
  refine WGo.cast (ef_D m a1 p2 p3) ?_
  show WGo _ _ _ _ _ _ _ _ T (mkF m 0 #[.val (.ref a1), .val (.int p2), .val (.int p3), .unset] [])
  have loop : ∀ (k : Nat) (T0 : State) (i : Int32), WSt p l e ({ frames := 0, cells := 0, slots := 0, locals := 0 } : Room) s m #[(.ref a1), (.int p2), (.int p3)] below meth c Z n0 T0 h0 (0) (0) → (4 - i.toInt).toNat = k → p2.toInt < i.toInt → i.toInt ≤ 5 → (∀ j : Int32, p2.toInt < j.toInt → j.toInt < i.toInt → ¬ Hit LS LD p3 j) → WGo p e below s n0 (QD Z n0 h0 a1 p2 p3 aS aD LS LD) ({ frames := 0, cells := 0, slots := 0, locals := 0 } : Room).cells ({ frames := 0, cells := 0, slots := 0, locals := 0 } : Room).slots T0 (mkF m 4 #[.val (.ref a1), .val (.int p2), .val (.int p3), .val (.int i)] []) := by
    intro k
    induction k using Nat.strongRecOn with
    | _ k ih =>
    intro T0 i S0 hk hi hi5 hno
    show WGo _ _ _ _ _ _ _ _ T0 (mkF m 4 #[.val (.ref a1), .val (.int p2), .val (.int p3), .val (.int i)] [])
    refine WGo.st (fun _ q => XS.iloadN S0.here hx rfl (hb hby d_prog_88_method_14_code_4) rfl q) ?_
    show WGo _ _ _ _ _ _ _ _ T0 (mkF m 5 #[.val (.ref a1), .val (.int p2), .val (.int p3), .val (.int i)] [(.int i)])
    refine WGo.st (fun _ q => XS.aloadN S0.here hx rfl (hb hby d_prog_88_method_14_code_5) rfl rfl q) ?_
    show WGo _ _ _ _ _ _ _ _ T0 (mkF m 6 #[.val (.ref a1), .val (.int p2), .val (.int p3), .val (.int i)] [(.ref a1), (.int i)])
    refine w_getfield S0 hown (hw _ (List.mem_of_getElem? (i := 18) rfl)) Via.refl FS rfl rfl (hb hby d_prog_88_method_14_code_6) ?_
    intro T1 S2
    show WGo _ _ _ _ _ _ _ _ T1 (mkF m 9 #[.val (.ref a1), .val (.int p2), .val (.int p3), .val (.int i)] [(.ref aS), (.int i)])
    refine w_arraylength S2 AS rfl (hb hby d_prog_88_method_14_code_9) rfl (z := (4 : Int32)) ((congrArg Nat.toInt32 hlS).trans (by decide)) ?_
    show WGo _ _ _ _ _ _ _ _ T1 (mkF m 10 #[.val (.ref a1), .val (.int p2), .val (.int p3), .val (.int i)] [(.int (4 : Int32)), (.int i)])
    by_cases c10 : i < (4 : Int32)
    · refine WGo.st (fun _ q => XS.icmpNo S2.here hx rfl (hb hby d_prog_88_method_14_code_10) rfl (tlt c10).2.1 q) ?_
      show WGo _ _ _ _ _ _ _ _ T1 (mkF m 13 #[.val (.ref a1), .val (.int p2), .val (.int p3), .val (.int i)] [])
      refine WGo.st (fun _ q => XS.aloadN S2.here hx rfl (hb hby d_prog_88_method_14_code_13) rfl rfl q) ?_
      show WGo _ _ _ _ _ _ _ _ T1 (mkF m 14 #[.val (.ref a1), .val (.int p2), .val (.int p3), .val (.int i)] [(.ref a1)])
      refine w_getfield S2 hown (hw _ (List.mem_of_getElem? (i := 18) rfl)) Via.refl FS rfl rfl (hb hby d_prog_88_method_14_code_14) ?_
      intro T3 S4
      show WGo _ _ _ _ _ _ _ _ T3 (mkF m 17 #[.val (.ref a1), .val (.int p2), .val (.int p3), .val (.int i)] [(.ref aS)])
      refine WGo.st (fun _ q => XS.iloadN S4.here hx rfl (hb hby d_prog_88_method_14_code_17) rfl q) ?_
      show WGo _ _ _ _ _ _ _ _ T3 (mkF m 18 #[.val (.ref a1), .val (.int p2), .val (.int p3), .val (.int i)] [(.int i), (.ref aS)])
      refine w_iaload S4 AS rfl (hb hby d_prog_88_method_14_code_18) rfl (by omega) (by rw [Int32.lt_iff_toInt_lt] at c10; have z : (4 : Int32).toInt = 4 := (by decide); rw [hlS]; omega) rfl ?_
      show WGo _ _ _ _ _ _ _ _ T3 (mkF m 19 #[.val (.ref a1), .val (.int p2), .val (.int p3), .val (.int i)] [(.int (gi LS i))])
      refine WGo.st (fun _ q => XS.iloadN S4.here hx rfl (hb hby d_prog_88_method_14_code_19) rfl q) ?_
      show WGo _ _ _ _ _ _ _ _ T3 (mkF m 20 #[.val (.ref a1), .val (.int p2), .val (.int p3), .val (.int i)] [(.int p3), (.int (gi LS i))])
      by_cases c20 : (gi LS i) = p3
      · refine WGo.st (fun _ q => XS.icmpNo S4.here hx rfl (hb hby d_prog_88_method_14_code_20) rfl (teq c20).2 q) ?_
        show WGo _ _ _ _ _ _ _ _ T3 (mkF m 23 #[.val (.ref a1), .val (.int p2), .val (.int p3), .val (.int i)] [])
        refine WGo.st (fun _ q => XS.aloadN S4.here hx rfl (hb hby d_prog_88_method_14_code_23) rfl rfl q) ?_
        show WGo _ _ _ _ _ _ _ _ T3 (mkF m 24 #[.val (.ref a1), .val (.int p2), .val (.int p3), .val (.int i)] [(.ref a1)])
        refine w_getfield S4 hown (hw _ (List.mem_of_getElem? (i := 22) rfl)) Via.refl FD rfl rfl (hb hby d_prog_88_method_14_code_24) ?_
        intro T5 S6
        show WGo _ _ _ _ _ _ _ _ T5 (mkF m 27 #[.val (.ref a1), .val (.int p2), .val (.int p3), .val (.int i)] [(.ref aD)])
        refine WGo.st (fun _ q => XS.iloadN S6.here hx rfl (hb hby d_prog_88_method_14_code_27) rfl q) ?_
        show WGo _ _ _ _ _ _ _ _ T5 (mkF m 28 #[.val (.ref a1), .val (.int p2), .val (.int p3), .val (.int i)] [(.int i), (.ref aD)])
        refine w_zaload S6 AD rfl (hb hby d_prog_88_method_14_code_28) rfl (by omega) (by rw [Int32.lt_iff_toInt_lt] at c10; have z : (4 : Int32).toInt = 4 := (by decide); rw [hlD]; omega) rfl ?_
        show WGo _ _ _ _ _ _ _ _ T5 (mkF m 29 #[.val (.ref a1), .val (.int p2), .val (.int p3), .val (.int i)] [(.int (gi LD i))])
        by_cases c29 : (gi LD i) = (0 : Int32)
        · refine WGo.st (fun _ q => XS.ifYes S6.here hx rfl (pc0 := 29) (pc' := 34) rfl (hb hby d_prog_88_method_14_code_29) rfl ((if0 _ _).trans (teq c29).1) (by decide) (by decide) q) ?_
          show WGo _ _ _ _ _ _ _ _ T5 (mkF m 34 #[.val (.ref a1), .val (.int p2), .val (.int p3), .val (.int i)] [])
          refine WGo.st (fun _ q => XS.iinc S6.here hx rfl (hb hby d_prog_88_method_14_code_34) rfl (l' := #[.val (.ref a1), .val (.int p2), .val (.int p3), .val (.int (i + (1 : Int32)))]) rfl q) ?_
          show WGo _ _ _ _ _ _ _ _ T5 (mkF m 37 #[.val (.ref a1), .val (.int p2), .val (.int p3), .val (.int (i + (1 : Int32)))] [])
          refine WGo.st (fun _ q => XS.goto S6.here hx rfl (pc0 := 37) (pc' := 4) rfl (hb hby d_prog_88_method_14_code_37) (by decide) (by decide) q) ?_
          show WGo _ _ _ _ _ _ _ _ T5 (mkF m 4 #[.val (.ref a1), .val (.int p2), .val (.int p3), .val (.int (i + (1 : Int32)))] [])
          have z4 : (4 : Int32).toInt = 4 := (by decide)
          rw [Int32.lt_iff_toInt_lt, z4] at c10
          have q1 : (i + (1 : Int32)).toInt = i.toInt + 1 := add_c (by decide) (by omega) (by omega)
          refine ih _ ?_ T5 (i + (1 : Int32)) S6 rfl (by omega) (by omega) ?_
          · omega
          · intro j h1 h2
            by_cases hj : j.toInt = i.toInt
            · rw [Int32.toInt_inj.mp hj]; rintro ⟨u1, u2⟩; first | exact c20 u1 | exact u2 c29
            · exact hno j h1 (by omega)
        · refine WGo.st (fun _ q => XS.ifNo S6.here hx rfl (hb hby d_prog_88_method_14_code_29) rfl ((if0 _ _).trans (feq c29).1) q) ?_
          show WGo _ _ _ _ _ _ _ _ T5 (mkF m 32 #[.val (.ref a1), .val (.int p2), .val (.int p3), .val (.int i)] [])
          refine WGo.st (fun _ q => XS.iloadN S6.here hx rfl (hb hby d_prog_88_method_14_code_32) rfl q) ?_
          show WGo _ _ _ _ _ _ _ _ T5 (mkF m 33 #[.val (.ref a1), .val (.int p2), .val (.int p3), .val (.int i)] [(.int i)])
          refine w_retI S6 hret (hb hby d_prog_88_method_14_code_33) (by decide) (by decide) ?_
          exact ⟨i, rfl, rfl, Or.inr ⟨hi, (by rw [Int32.lt_iff_toInt_lt] at c10; exact c10), ⟨c20, c29⟩, hno⟩⟩
      · refine WGo.st (fun _ q => XS.icmpYes S4.here hx rfl (pc0 := 20) (pc' := 34) rfl (hb hby d_prog_88_method_14_code_20) rfl (feq c20).2 (by decide) (by decide) q) ?_
        show WGo _ _ _ _ _ _ _ _ T3 (mkF m 34 #[.val (.ref a1), .val (.int p2), .val (.int p3), .val (.int i)] [])
        refine WGo.st (fun _ q => XS.iinc S4.here hx rfl (hb hby d_prog_88_method_14_code_34) rfl (l' := #[.val (.ref a1), .val (.int p2), .val (.int p3), .val (.int (i + (1 : Int32)))]) rfl q) ?_
        show WGo _ _ _ _ _ _ _ _ T3 (mkF m 37 #[.val (.ref a1), .val (.int p2), .val (.int p3), .val (.int (i + (1 : Int32)))] [])
        refine WGo.st (fun _ q => XS.goto S4.here hx rfl (pc0 := 37) (pc' := 4) rfl (hb hby d_prog_88_method_14_code_37) (by decide) (by decide) q) ?_
        show WGo _ _ _ _ _ _ _ _ T3 (mkF m 4 #[.val (.ref a1), .val (.int p2), .val (.int p3), .val (.int (i + (1 : Int32)))] [])
        have z4 : (4 : Int32).toInt = 4 := (by decide)
        rw [Int32.lt_iff_toInt_lt, z4] at c10
        have q1 : (i + (1 : Int32)).toInt = i.toInt + 1 := add_c (by decide) (by omega) (by omega)
        refine ih _ ?_ T3 (i + (1 : Int32)) S4 rfl (by omega) (by omega) ?_
        · omega
        · intro j h1 h2
          by_cases hj : j.toInt = i.toInt
          · rw [Int32.toInt_inj.mp hj]; rintro ⟨u1, u2⟩; first | exact c20 u1 | exact u2 c29
          · exact hno j h1 (by omega)
    · refine WGo.st (fun _ q => XS.icmpYes S2.here hx rfl (pc0 := 10) (pc' := 40) rfl (hb hby d_prog_88_method_14_code_10) rfl (flt c10).2.1 (by decide) (by decide) q) ?_
      show WGo _ _ _ _ _ _ _ _ T1 (mkF m 40 #[.val (.ref a1), .val (.int p2), .val (.int p3), .val (.int i)] [])
      refine WGo.st (fun _ q => XS.iconst S2.here hx rfl (hb hby d_prog_88_method_14_code_40) q) ?_
      show WGo _ _ _ _ _ _ _ _ T1 (mkF m 41 #[.val (.ref a1), .val (.int p2), .val (.int p3), .val (.int i)] [(.int (-1 : Int32))])
      refine w_retI S2 hret (hb hby d_prog_88_method_14_code_41) (by decide) (by decide) ?_
      exact ⟨-1, rfl, rfl, Or.inl ⟨rfl, fun j h1 h2 => hno j h1 (by rw [Int32.lt_iff_toInt_lt] at c10; have z : (4 : Int32).toInt = 4 := (by decide); omega)⟩⟩
  refine WGo.st (fun _ q => XS.iloadN S.here hx rfl (hb hby d_prog_88_method_14_code_0) rfl q) ?_
  show WGo _ _ _ _ _ _ _ _ T (mkF m 1 #[.val (.ref a1), .val (.int p2), .val (.int p3), .unset] [(.int p2)])
  refine WGo.st (fun _ q => XS.iconst S.here hx rfl (hb hby d_prog_88_method_14_code_1) q) ?_
  show WGo _ _ _ _ _ _ _ _ T (mkF m 2 #[.val (.ref a1), .val (.int p2), .val (.int p3), .unset] [(.int (1 : Int32)), (.int p2)])
  refine WGo.st (fun _ q => XS.iadd S.here hx rfl (hb hby d_prog_88_method_14_code_2) rfl q) ?_
  show WGo _ _ _ _ _ _ _ _ T (mkF m 3 #[.val (.ref a1), .val (.int p2), .val (.int p3), .unset] [(.int (p2 + (1 : Int32)))])
  refine WGo.st (fun _ q => XS.istoreN S.here hx rfl (hb hby d_prog_88_method_14_code_3) rfl (l' := #[.val (.ref a1), .val (.int p2), .val (.int p3), .val (.int (p2 + (1 : Int32)))]) rfl q) ?_
  show WGo _ _ _ _ _ _ _ _ T (mkF m 4 #[.val (.ref a1), .val (.int p2), .val (.int p3), .val (.int (p2 + (1 : Int32)))] [])
  generalize hv3 : (p2 + (1 : Int32)) = v3
  show WGo _ _ _ _ _ _ _ _ T (mkF m 4 #[.val (.ref a1), .val (.int p2), .val (.int p3), .val (.int v3)] [])
  have q0 : v3.toInt = p2.toInt + 1 := by rw [← hv3]; exact add_c (by decide) (by omega) (by omega)
  exact loop _ T v3 S rfl (by omega) (by omega) (fun j h1 h2 => by omega)
def Q0 (Z : State) (n0 : Nat) (h0 : Heap) (p1 : Int32) (p2 : Int32) (p3 : Int32) (p4 : Int32) (v : Option Value) (h : Heap) : Prop := v = some (.int 1)
theorem ef_0 (m : MethodId) (p1 : Int32) (p2 : Int32) (p3 : Int32) (p4 : Int32) : entryFrame m #[(.int p1), (.int p2), (.int p3), (.int p4)] maxLocals = mkF m 0 #[.val (.int p1), .val (.int p2), .val (.int p3), .val (.int p4), .unset, .unset, .unset, .unset, .unset, .unset, .unset, .unset, .unset, .unset, .unset, .unset, .unset] [] := by first | (simp [entryFrame, mkF, argsToLocals, Value.category, maxLocals]; done) | rfl
set_option maxRecDepth 65536 in
set_option maxHeartbeats 40000000 in
theorem rm_0 (l : Launch) (Z : State) (a0 : Array Value) (hw : ∀ d ∈ tables_1, d.before a0 Z = true) (n0 : Nat) (h0 : Heap) (p1 : Int32) (p2 : Int32) (p3 : Int32) (p4 : Int32) (Z0 : n0 ≤ h0.size)  :
    WCon l Z n0 h0 x code maxLocals ret tables_1 room_1 #[(.int p1), (.int p2), (.int p3), (.int p4)] (Q0 Z n0 h0 p1 p2 p3 p4) := by
  refine WCon.of (by first | exact plainFor_of_name (by decide +kernel) | decide +kernel) Z0 ?_
  intro p e s m below meth c T hx hZ hby hml hown hnm hret S
  refine WGo.cast (ef_0 m p1 p2 p3 p4) ?_
  show WGo _ _ _ _ _ _ _ _ T (mkF m 0 #[.val (.int p1), .val (.int p2), .val (.int p3), .val (.int p4), .unset, .unset, .unset, .unset, .unset, .unset, .unset, .unset, .unset, .unset, .unset, .unset, .unset] [])
  refine WGo.st (fun _ q => XS.iloadN S.here hx rfl (hb hby at_0) rfl q) ?_
  show WGo _ _ _ _ _ _ _ _ T (mkF m 1 #[.val (.int p1), .val (.int p2), .val (.int p3), .val (.int p4), .unset, .unset, .unset, .unset, .unset, .unset, .unset, .unset, .unset, .unset, .unset, .unset, .unset] [(.int p1)])
  refine w_ldc S hown (hw _ (List.mem_of_getElem? (i := 0) rfl)) rfl (hb hby at_1) ?_
  show WGo _ _ _ _ _ _ _ _ T (mkF m 3 #[.val (.int p1), .val (.int p2), .val (.int p3), .val (.int p4), .unset, .unset, .unset, .unset, .unset, .unset, .unset, .unset, .unset, .unset, .unset, .unset, .unset] [(.int (2147483647 : Int32)), (.int p1)])
  refine WGo.st (fun _ q => XS.iand S.here hx rfl (hb hby at_3) rfl q) ?_
  show WGo _ _ _ _ _ _ _ _ T (mkF m 4 #[.val (.int p1), .val (.int p2), .val (.int p3), .val (.int p4), .unset, .unset, .unset, .unset, .unset, .unset, .unset, .unset, .unset, .unset, .unset, .unset, .unset] [(.int (p1 &&& (2147483647 : Int32)))])
  refine WGo.st (fun _ q => XS.iconst S.here hx rfl (hb hby at_4) q) ?_
  show WGo _ _ _ _ _ _ _ _ T (mkF m 5 #[.val (.int p1), .val (.int p2), .val (.int p3), .val (.int p4), .unset, .unset, .unset, .unset, .unset, .unset, .unset, .unset, .unset, .unset, .unset, .unset, .unset] [(.int (5 : Int32)), (.int (p1 &&& (2147483647 : Int32)))])
  refine w_irem S rfl (hb hby at_5) rfl (by decide) ?_
  show WGo _ _ _ _ _ _ _ _ T (mkF m 6 #[.val (.int p1), .val (.int p2), .val (.int p3), .val (.int p4), .unset, .unset, .unset, .unset, .unset, .unset, .unset, .unset, .unset, .unset, .unset, .unset, .unset] [(.int ((p1 &&& (2147483647 : Int32)) % (5 : Int32)))])
  refine WGo.st (fun _ q => XS.istore S.here hx rfl (hb hby at_6) rfl (l' := #[.val (.int p1), .val (.int p2), .val (.int p3), .val (.int p4), .val (.int ((p1 &&& (2147483647 : Int32)) % (5 : Int32))), .unset, .unset, .unset, .unset, .unset, .unset, .unset, .unset, .unset, .unset, .unset, .unset]) rfl q) ?_
  show WGo _ _ _ _ _ _ _ _ T (mkF m 8 #[.val (.int p1), .val (.int p2), .val (.int p3), .val (.int p4), .val (.int ((p1 &&& (2147483647 : Int32)) % (5 : Int32))), .unset, .unset, .unset, .unset, .unset, .unset, .unset, .unset, .unset, .unset, .unset, .unset] [])
  generalize hv6 : ((p1 &&& (2147483647 : Int32)) % (5 : Int32)) = v6
  show WGo _ _ _ _ _ _ _ _ T (mkF m 8 #[.val (.int p1), .val (.int p2), .val (.int p3), .val (.int p4), .val (.int v6), .unset, .unset, .unset, .unset, .unset, .unset, .unset, .unset, .unset, .unset, .unset, .unset] [])
  have bp : 0 ≤ v6.toInt ∧ v6.toInt < 5 := by rw [← hv6]; exact rem_rng _ _ _ (by decide) (by decide)
  refine WGo.st (fun _ q => XS.iconst S.here hx rfl (hb hby at_8) q) ?_
  show WGo _ _ _ _ _ _ _ _ T (mkF m 9 #[.val (.int p1), .val (.int p2), .val (.int p3), .val (.int p4), .val (.int v6), .unset, .unset, .unset, .unset, .unset, .unset, .unset, .unset, .unset, .unset, .unset, .unset] [(.int (4 : Int32))])
  refine w_newarray S (hw _ (List.mem_of_getElem? (i := 1) rfl)) rfl rfl (hb hby at_9) rfl (by decide) (cap := 4) (by decide) (by decide) (by decide) (by decide) (L := [(0 : Int32), (0 : Int32), (0 : Int32), (0 : Int32)]) rfl ?_
  intro T1 h2 aS S3 K4 e_aS g_aS A_aS
  show WGo _ _ _ _ _ _ _ _ T1 (mkF m 11 #[.val (.int p1), .val (.int p2), .val (.int p3), .val (.int p4), .val (.int v6), .unset, .unset, .unset, .unset, .unset, .unset, .unset, .unset, .unset, .unset, .unset, .unset] [(.ref aS)])
  refine WGo.st (fun _ q => XS.astore S3.here hx rfl (hb hby at_11) rfl rfl (l' := #[.val (.int p1), .val (.int p2), .val (.int p3), .val (.int p4), .val (.int v6), .val (.ref aS), .unset, .unset, .unset, .unset, .unset, .unset, .unset, .unset, .unset, .unset, .unset]) rfl q) ?_
  show WGo _ _ _ _ _ _ _ _ T1 (mkF m 13 #[.val (.int p1), .val (.int p2), .val (.int p3), .val (.int p4), .val (.int v6), .val (.ref aS), .unset, .unset, .unset, .unset, .unset, .unset, .unset, .unset, .unset, .unset, .unset] [])
  refine WGo.st (fun _ q => XS.iconst S3.here hx rfl (hb hby at_13) q) ?_
  show WGo _ _ _ _ _ _ _ _ T1 (mkF m 14 #[.val (.int p1), .val (.int p2), .val (.int p3), .val (.int p4), .val (.int v6), .val (.ref aS), .unset, .unset, .unset, .unset, .unset, .unset, .unset, .unset, .unset, .unset, .unset] [(.int (4 : Int32))])
  refine w_newarray S3 (hw _ (List.mem_of_getElem? (i := 2) rfl)) rfl rfl (hb hby at_14) rfl (by decide) (cap := 4) (by decide) (by decide) (by decide) (by decide) (L := [(0 : Int32), (0 : Int32), (0 : Int32), (0 : Int32)]) rfl ?_
  intro T5 h6 aP S7 K8 e_aP g_aP A_aP
  have n_aS_aP : aS ≠ aP := by rw [e_aP]; exact Nat.ne_of_lt A_aS.lt
  have f9 := AI.keep A_aS K8 nin0
  show WGo _ _ _ _ _ _ _ _ T5 (mkF m 16 #[.val (.int p1), .val (.int p2), .val (.int p3), .val (.int p4), .val (.int v6), .val (.ref aS), .unset, .unset, .unset, .unset, .unset, .unset, .unset, .unset, .unset, .unset, .unset] [(.ref aP)])
  refine WGo.st (fun _ q => XS.astore S7.here hx rfl (hb hby at_16) rfl rfl (l' := #[.val (.int p1), .val (.int p2), .val (.int p3), .val (.int p4), .val (.int v6), .val (.ref aS), .val (.ref aP), .unset, .unset, .unset, .unset, .unset, .unset, .unset, .unset, .unset, .unset]) rfl q) ?_
  show WGo _ _ _ _ _ _ _ _ T5 (mkF m 18 #[.val (.int p1), .val (.int p2), .val (.int p3), .val (.int p4), .val (.int v6), .val (.ref aS), .val (.ref aP), .unset, .unset, .unset, .unset, .unset, .unset, .unset, .unset, .unset, .unset] [])
  refine WGo.st (fun _ q => XS.iconst S7.here hx rfl (hb hby at_18) q) ?_
  show WGo _ _ _ _ _ _ _ _ T5 (mkF m 19 #[.val (.int p1), .val (.int p2), .val (.int p3), .val (.int p4), .val (.int v6), .val (.ref aS), .val (.ref aP), .unset, .unset, .unset, .unset, .unset, .unset, .unset, .unset, .unset, .unset] [(.int (4 : Int32))])
  refine w_newarray S7 (hw _ (List.mem_of_getElem? (i := 2) rfl)) rfl rfl (hb hby at_19) rfl (by decide) (cap := 4) (by decide) (by decide) (by decide) (by decide) (L := [(0 : Int32), (0 : Int32), (0 : Int32), (0 : Int32)]) rfl ?_
  intro T10 h11 aD S12 K13 e_aD g_aD A_aD
  have n_aS_aD : aS ≠ aD := by rw [e_aD]; exact Nat.ne_of_lt f9.lt
  have n_aP_aD : aP ≠ aD := by rw [e_aD]; exact Nat.ne_of_lt A_aP.lt
  have f14 := AI.keep f9 K13 nin0
  have f15 := AI.keep A_aP K13 nin0
  show WGo _ _ _ _ _ _ _ _ T10 (mkF m 21 #[.val (.int p1), .val (.int p2), .val (.int p3), .val (.int p4), .val (.int v6), .val (.ref aS), .val (.ref aP), .unset, .unset, .unset, .unset, .unset, .unset, .unset, .unset, .unset, .unset] [(.ref aD)])
  refine WGo.st (fun _ q => XS.astore S12.here hx rfl (hb hby at_21) rfl rfl (l' := #[.val (.int p1), .val (.int p2), .val (.int p3), .val (.int p4), .val (.int v6), .val (.ref aS), .val (.ref aP), .val (.ref aD), .unset, .unset, .unset, .unset, .unset, .unset, .unset, .unset, .unset]) rfl q) ?_
  show WGo _ _ _ _ _ _ _ _ T10 (mkF m 23 #[.val (.int p1), .val (.int p2), .val (.int p3), .val (.int p4), .val (.int v6), .val (.ref aS), .val (.ref aP), .val (.ref aD), .unset, .unset, .unset, .unset, .unset, .unset, .unset, .unset, .unset] [])
  refine WGo.st (fun _ q => XS.aload S12.here hx rfl (hb hby at_23) rfl rfl q) ?_
  show WGo _ _ _ _ _ _ _ _ T10 (mkF m 25 #[.val (.int p1), .val (.int p2), .val (.int p3), .val (.int p4), .val (.int v6), .val (.ref aS), .val (.ref aP), .val (.ref aD), .unset, .unset, .unset, .unset, .unset, .unset, .unset, .unset, .unset] [(.ref aS)])
  refine WGo.st (fun _ q => XS.iconst S12.here hx rfl (hb hby at_25) q) ?_
  show WGo _ _ _ _ _ _ _ _ T10 (mkF m 26 #[.val (.int p1), .val (.int p2), .val (.int p3), .val (.int p4), .val (.int v6), .val (.ref aS), .val (.ref aP), .val (.ref aD), .unset, .unset, .unset, .unset, .unset, .unset, .unset, .unset, .unset] [(.int (0 : Int32)), (.ref aS)])
  refine WGo.st (fun _ q => XS.iloadN S12.here hx rfl (hb hby at_26) rfl q) ?_
  show WGo _ _ _ _ _ _ _ _ T10 (mkF m 27 #[.val (.int p1), .val (.int p2), .val (.int p3), .val (.int p4), .val (.int v6), .val (.ref aS), .val (.ref aP), .val (.ref aD), .unset, .unset, .unset, .unset, .unset, .unset, .unset, .unset, .unset] [(.int p2), (.int (0 : Int32)), (.ref aS)])
  refine WGo.st (fun _ q => XS.iloadN S12.here hx rfl (hb hby at_27) rfl q) ?_
  show WGo _ _ _ _ _ _ _ _ T10 (mkF m 28 #[.val (.int p1), .val (.int p2), .val (.int p3), .val (.int p4), .val (.int v6), .val (.ref aS), .val (.ref aP), .val (.ref aD), .unset, .unset, .unset, .unset, .unset, .unset, .unset, .unset, .unset] [(.int p3), (.int p2), (.int (0 : Int32)), (.ref aS)])
  refine WGo.st (fun _ q => XS.iconst S12.here hx rfl (hb hby at_28) q) ?_
  show WGo _ _ _ _ _ _ _ _ T10 (mkF m 29 #[.val (.int p1), .val (.int p2), .val (.int p3), .val (.int p4), .val (.int v6), .val (.ref aS), .val (.ref aP), .val (.ref aD), .unset, .unset, .unset, .unset, .unset, .unset, .unset, .unset, .unset] [(.int (3 : Int32)), (.int p3), (.int p2), (.int (0 : Int32)), (.ref aS)])
  refine WGo.st (fun _ q => XS.iand S12.here hx rfl (hb hby at_29) rfl q) ?_
  show WGo _ _ _ _ _ _ _ _ T10 (mkF m 30 #[.val (.int p1), .val (.int p2), .val (.int p3), .val (.int p4), .val (.int v6), .val (.ref aS), .val (.ref aP), .val (.ref aD), .unset, .unset, .unset, .unset, .unset, .unset, .unset, .unset, .unset] [(.int (p3 &&& (3 : Int32))), (.int p2), (.int (0 : Int32)), (.ref aS)])
  refine WGo.st (fun _ q => XS.ixor S12.here hx rfl (hb hby at_30) rfl q) ?_
  show WGo _ _ _ _ _ _ _ _ T10 (mkF m 31 #[.val (.int p1), .val (.int p2), .val (.int p3), .val (.int p4), .val (.int v6), .val (.ref aS), .val (.ref aP), .val (.ref aD), .unset, .unset, .unset, .unset, .unset, .unset, .unset, .unset, .unset] [(.int (p2 ^^^ (p3 &&& (3 : Int32)))), (.int (0 : Int32)), (.ref aS)])
  refine w_iastore S12 f14 g_aS rfl (hb hby at_31) rfl (by decide) (by decide : (0 : Int32).toInt < ((4 : Nat) : Int)) (L' := [(p2 ^^^ (p3 &&& (3 : Int32))), (0 : Int32), (0 : Int32), (0 : Int32)]) rfl ?_
  intro T16 h17 S18 K19 A20
  have f21 := AI.keep f15 K19 (ninS (Ne.symm n_aS_aP) nin0)
  have f22 := AI.keep A_aD K19 (ninS (Ne.symm n_aS_aD) nin0)
  show WGo _ _ _ _ _ _ _ _ T16 (mkF m 32 #[.val (.int p1), .val (.int p2), .val (.int p3), .val (.int p4), .val (.int v6), .val (.ref aS), .val (.ref aP), .val (.ref aD), .unset, .unset, .unset, .unset, .unset, .unset, .unset, .unset, .unset] [])
  refine WGo.st (fun _ q => XS.aload S18.here hx rfl (hb hby at_32) rfl rfl q) ?_
  show WGo _ _ _ _ _ _ _ _ T16 (mkF m 34 #[.val (.int p1), .val (.int p2), .val (.int p3), .val (.int p4), .val (.int v6), .val (.ref aS), .val (.ref aP), .val (.ref aD), .unset, .unset, .unset, .unset, .unset, .unset, .unset, .unset, .unset] [(.ref aS)])
  refine WGo.st (fun _ q => XS.iconst S18.here hx rfl (hb hby at_34) q) ?_
  show WGo _ _ _ _ _ _ _ _ T16 (mkF m 35 #[.val (.int p1), .val (.int p2), .val (.int p3), .val (.int p4), .val (.int v6), .val (.ref aS), .val (.ref aP), .val (.ref aD), .unset, .unset, .unset, .unset, .unset, .unset, .unset, .unset, .unset] [(.int (1 : Int32)), (.ref aS)])
  refine WGo.st (fun _ q => XS.iloadN S18.here hx rfl (hb hby at_35) rfl q) ?_
  show WGo _ _ _ _ _ _ _ _ T16 (mkF m 36 #[.val (.int p1), .val (.int p2), .val (.int p3), .val (.int p4), .val (.int v6), .val (.ref aS), .val (.ref aP), .val (.ref aD), .unset, .unset, .unset, .unset, .unset, .unset, .unset, .unset, .unset] [(.int p2), (.int (1 : Int32)), (.ref aS)])
  refine WGo.st (fun _ q => XS.iloadN S18.here hx rfl (hb hby at_36) rfl q) ?_
  show WGo _ _ _ _ _ _ _ _ T16 (mkF m 37 #[.val (.int p1), .val (.int p2), .val (.int p3), .val (.int p4), .val (.int v6), .val (.ref aS), .val (.ref aP), .val (.ref aD), .unset, .unset, .unset, .unset, .unset, .unset, .unset, .unset, .unset] [(.int p3), (.int p2), (.int (1 : Int32)), (.ref aS)])
  refine WGo.st (fun _ q => XS.iconst S18.here hx rfl (hb hby at_37) q) ?_
  show WGo _ _ _ _ _ _ _ _ T16 (mkF m 38 #[.val (.int p1), .val (.int p2), .val (.int p3), .val (.int p4), .val (.int v6), .val (.ref aS), .val (.ref aP), .val (.ref aD), .unset, .unset, .unset, .unset, .unset, .unset, .unset, .unset, .unset] [(.int (2 : Int32)), (.int p3), (.int p2), (.int (1 : Int32)), (.ref aS)])
  refine WGo.st (fun _ q => XS.ishr S18.here hx rfl (hb hby at_38) rfl q) ?_
  show WGo _ _ _ _ _ _ _ _ T16 (mkF m 39 #[.val (.int p1), .val (.int p2), .val (.int p3), .val (.int p4), .val (.int v6), .val (.ref aS), .val (.ref aP), .val (.ref aD), .unset, .unset, .unset, .unset, .unset, .unset, .unset, .unset, .unset] [(.int (p3 >>> ((2 : Int32) &&& 31))), (.int p2), (.int (1 : Int32)), (.ref aS)])
  refine WGo.st (fun _ q => XS.iconst S18.here hx rfl (hb hby at_39) q) ?_
  show WGo _ _ _ _ _ _ _ _ T16 (mkF m 40 #[.val (.int p1), .val (.int p2), .val (.int p3), .val (.int p4), .val (.int v6), .val (.ref aS), .val (.ref aP), .val (.ref aD), .unset, .unset, .unset, .unset, .unset, .unset, .unset, .unset, .unset] [(.int (3 : Int32)), (.int (p3 >>> ((2 : Int32) &&& 31))), (.int p2), (.int (1 : Int32)), (.ref aS)])
  refine WGo.st (fun _ q => XS.iand S18.here hx rfl (hb hby at_40) rfl q) ?_
  show WGo _ _ _ _ _ _ _ _ T16 (mkF m 41 #[.val (.int p1), .val (.int p2), .val (.int p3), .val (.int p4), .val (.int v6), .val (.ref aS), .val (.ref aP), .val (.ref aD), .unset, .unset, .unset, .unset, .unset, .unset, .unset, .unset, .unset] [(.int ((p3 >>> ((2 : Int32) &&& 31)) &&& (3 : Int32))), (.int p2), (.int (1 : Int32)), (.ref aS)])
  refine WGo.st (fun _ q => XS.ixor S18.here hx rfl (hb hby at_41) rfl q) ?_
  show WGo _ _ _ _ _ _ _ _ T16 (mkF m 42 #[.val (.int p1), .val (.int p2), .val (.int p3), .val (.int p4), .val (.int v6), .val (.ref aS), .val (.ref aP), .val (.ref aD), .unset, .unset, .unset, .unset, .unset, .unset, .unset, .unset, .unset] [(.int (p2 ^^^ ((p3 >>> ((2 : Int32) &&& 31)) &&& (3 : Int32)))), (.int (1 : Int32)), (.ref aS)])
  refine w_iastore S18 A20 g_aS rfl (hb hby at_42) rfl (by decide) (by decide : (1 : Int32).toInt < ((4 : Nat) : Int)) (L' := [(p2 ^^^ (p3 &&& (3 : Int32))), (p2 ^^^ ((p3 >>> ((2 : Int32) &&& 31)) &&& (3 : Int32))), (0 : Int32), (0 : Int32)]) rfl ?_
  intro T23 h24 S25 K26 A27
  have f28 := AI.keep f21 K26 (ninS (Ne.symm n_aS_aP) nin0)
  have f29 := AI.keep f22 K26 (ninS (Ne.symm n_aS_aD) nin0)
  show WGo _ _ _ _ _ _ _ _ T23 (mkF m 43 #[.val (.int p1), .val (.int p2), .val (.int p3), .val (.int p4), .val (.int v6), .val (.ref aS), .val (.ref aP), .val (.ref aD), .unset, .unset, .unset, .unset, .unset, .unset, .unset, .unset, .unset] [])
  refine WGo.st (fun _ q => XS.aload S25.here hx rfl (hb hby at_43) rfl rfl q) ?_
  show WGo _ _ _ _ _ _ _ _ T23 (mkF m 45 #[.val (.int p1), .val (.int p2), .val (.int p3), .val (.int p4), .val (.int v6), .val (.ref aS), .val (.ref aP), .val (.ref aD), .unset, .unset, .unset, .unset, .unset, .unset, .unset, .unset, .unset] [(.ref aS)])
  refine WGo.st (fun _ q => XS.iconst S25.here hx rfl (hb hby at_45) q) ?_
  show WGo _ _ _ _ _ _ _ _ T23 (mkF m 46 #[.val (.int p1), .val (.int p2), .val (.int p3), .val (.int p4), .val (.int v6), .val (.ref aS), .val (.ref aP), .val (.ref aD), .unset, .unset, .unset, .unset, .unset, .unset, .unset, .unset, .unset] [(.int (2 : Int32)), (.ref aS)])
  refine WGo.st (fun _ q => XS.iloadN S25.here hx rfl (hb hby at_46) rfl q) ?_
  show WGo _ _ _ _ _ _ _ _ T23 (mkF m 47 #[.val (.int p1), .val (.int p2), .val (.int p3), .val (.int p4), .val (.int v6), .val (.ref aS), .val (.ref aP), .val (.ref aD), .unset, .unset, .unset, .unset, .unset, .unset, .unset, .unset, .unset] [(.int p2), (.int (2 : Int32)), (.ref aS)])
  refine WGo.st (fun _ q => XS.iloadN S25.here hx rfl (hb hby at_47) rfl q) ?_
  show WGo _ _ _ _ _ _ _ _ T23 (mkF m 48 #[.val (.int p1), .val (.int p2), .val (.int p3), .val (.int p4), .val (.int v6), .val (.ref aS), .val (.ref aP), .val (.ref aD), .unset, .unset, .unset, .unset, .unset, .unset, .unset, .unset, .unset] [(.int p3), (.int p2), (.int (2 : Int32)), (.ref aS)])
  refine WGo.st (fun _ q => XS.iconst S25.here hx rfl (hb hby at_48) q) ?_
  show WGo _ _ _ _ _ _ _ _ T23 (mkF m 49 #[.val (.int p1), .val (.int p2), .val (.int p3), .val (.int p4), .val (.int v6), .val (.ref aS), .val (.ref aP), .val (.ref aD), .unset, .unset, .unset, .unset, .unset, .unset, .unset, .unset, .unset] [(.int (4 : Int32)), (.int p3), (.int p2), (.int (2 : Int32)), (.ref aS)])
  refine WGo.st (fun _ q => XS.ishr S25.here hx rfl (hb hby at_49) rfl q) ?_
  show WGo _ _ _ _ _ _ _ _ T23 (mkF m 50 #[.val (.int p1), .val (.int p2), .val (.int p3), .val (.int p4), .val (.int v6), .val (.ref aS), .val (.ref aP), .val (.ref aD), .unset, .unset, .unset, .unset, .unset, .unset, .unset, .unset, .unset] [(.int (p3 >>> ((4 : Int32) &&& 31))), (.int p2), (.int (2 : Int32)), (.ref aS)])
  refine WGo.st (fun _ q => XS.iconst S25.here hx rfl (hb hby at_50) q) ?_
  show WGo _ _ _ _ _ _ _ _ T23 (mkF m 51 #[.val (.int p1), .val (.int p2), .val (.int p3), .val (.int p4), .val (.int v6), .val (.ref aS), .val (.ref aP), .val (.ref aD), .unset, .unset, .unset, .unset, .unset, .unset, .unset, .unset, .unset] [(.int (3 : Int32)), (.int (p3 >>> ((4 : Int32) &&& 31))), (.int p2), (.int (2 : Int32)), (.ref aS)])
  refine WGo.st (fun _ q => XS.iand S25.here hx rfl (hb hby at_51) rfl q) ?_
  show WGo _ _ _ _ _ _ _ _ T23 (mkF m 52 #[.val (.int p1), .val (.int p2), .val (.int p3), .val (.int p4), .val (.int v6), .val (.ref aS), .val (.ref aP), .val (.ref aD), .unset, .unset, .unset, .unset, .unset, .unset, .unset, .unset, .unset] [(.int ((p3 >>> ((4 : Int32) &&& 31)) &&& (3 : Int32))), (.int p2), (.int (2 : Int32)), (.ref aS)])
  refine WGo.st (fun _ q => XS.ixor S25.here hx rfl (hb hby at_52) rfl q) ?_
  show WGo _ _ _ _ _ _ _ _ T23 (mkF m 53 #[.val (.int p1), .val (.int p2), .val (.int p3), .val (.int p4), .val (.int v6), .val (.ref aS), .val (.ref aP), .val (.ref aD), .unset, .unset, .unset, .unset, .unset, .unset, .unset, .unset, .unset] [(.int (p2 ^^^ ((p3 >>> ((4 : Int32) &&& 31)) &&& (3 : Int32)))), (.int (2 : Int32)), (.ref aS)])
  refine w_iastore S25 A27 g_aS rfl (hb hby at_53) rfl (by decide) (by decide : (2 : Int32).toInt < ((4 : Nat) : Int)) (L' := [(p2 ^^^ (p3 &&& (3 : Int32))), (p2 ^^^ ((p3 >>> ((2 : Int32) &&& 31)) &&& (3 : Int32))), (p2 ^^^ ((p3 >>> ((4 : Int32) &&& 31)) &&& (3 : Int32))), (0 : Int32)]) rfl ?_
  intro T30 h31 S32 K33 A34
  have f35 := AI.keep f28 K33 (ninS (Ne.symm n_aS_aP) nin0)
  have f36 := AI.keep f29 K33 (ninS (Ne.symm n_aS_aD) nin0)
  show WGo _ _ _ _ _ _ _ _ T30 (mkF m 54 #[.val (.int p1), .val (.int p2), .val (.int p3), .val (.int p4), .val (.int v6), .val (.ref aS), .val (.ref aP), .val (.ref aD), .unset, .unset, .unset, .unset, .unset, .unset, .unset, .unset, .unset] [])
  refine WGo.st (fun _ q => XS.aload S32.here hx rfl (hb hby at_54) rfl rfl q) ?_
  show WGo _ _ _ _ _ _ _ _ T30 (mkF m 56 #[.val (.int p1), .val (.int p2), .val (.int p3), .val (.int p4), .val (.int v6), .val (.ref aS), .val (.ref aP), .val (.ref aD), .unset, .unset, .unset, .unset, .unset, .unset, .unset, .unset, .unset] [(.ref aS)])
  refine WGo.st (fun _ q => XS.iconst S32.here hx rfl (hb hby at_56) q) ?_
  show WGo _ _ _ _ _ _ _ _ T30 (mkF m 57 #[.val (.int p1), .val (.int p2), .val (.int p3), .val (.int p4), .val (.int v6), .val (.ref aS), .val (.ref aP), .val (.ref aD), .unset, .unset, .unset, .unset, .unset, .unset, .unset, .unset, .unset] [(.int (3 : Int32)), (.ref aS)])
  refine WGo.st (fun _ q => XS.iloadN S32.here hx rfl (hb hby at_57) rfl q) ?_
  show WGo _ _ _ _ _ _ _ _ T30 (mkF m 58 #[.val (.int p1), .val (.int p2), .val (.int p3), .val (.int p4), .val (.int v6), .val (.ref aS), .val (.ref aP), .val (.ref aD), .unset, .unset, .unset, .unset, .unset, .unset, .unset, .unset, .unset] [(.int p2), (.int (3 : Int32)), (.ref aS)])
  refine WGo.st (fun _ q => XS.iloadN S32.here hx rfl (hb hby at_58) rfl q) ?_
  show WGo _ _ _ _ _ _ _ _ T30 (mkF m 59 #[.val (.int p1), .val (.int p2), .val (.int p3), .val (.int p4), .val (.int v6), .val (.ref aS), .val (.ref aP), .val (.ref aD), .unset, .unset, .unset, .unset, .unset, .unset, .unset, .unset, .unset] [(.int p3), (.int p2), (.int (3 : Int32)), (.ref aS)])
  refine WGo.st (fun _ q => XS.bipush S32.here hx rfl (hb hby at_59) q) ?_
  show WGo _ _ _ _ _ _ _ _ T30 (mkF m 61 #[.val (.int p1), .val (.int p2), .val (.int p3), .val (.int p4), .val (.int v6), .val (.ref aS), .val (.ref aP), .val (.ref aD), .unset, .unset, .unset, .unset, .unset, .unset, .unset, .unset, .unset] [(.int (6 : Int32)), (.int p3), (.int p2), (.int (3 : Int32)), (.ref aS)])
  refine WGo.st (fun _ q => XS.ishr S32.here hx rfl (hb hby at_61) rfl q) ?_
  show WGo _ _ _ _ _ _ _ _ T30 (mkF m 62 #[.val (.int p1), .val (.int p2), .val (.int p3), .val (.int p4), .val (.int v6), .val (.ref aS), .val (.ref aP), .val (.ref aD), .unset, .unset, .unset, .unset, .unset, .unset, .unset, .unset, .unset] [(.int (p3 >>> ((6 : Int32) &&& 31))), (.int p2), (.int (3 : Int32)), (.ref aS)])
  refine WGo.st (fun _ q => XS.iconst S32.here hx rfl (hb hby at_62) q) ?_
  show WGo _ _ _ _ _ _ _ _ T30 (mkF m 63 #[.val (.int p1), .val (.int p2), .val (.int p3), .val (.int p4), .val (.int v6), .val (.ref aS), .val (.ref aP), .val (.ref aD), .unset, .unset, .unset, .unset, .unset, .unset, .unset, .unset, .unset] [(.int (3 : Int32)), (.int (p3 >>> ((6 : Int32) &&& 31))), (.int p2), (.int (3 : Int32)), (.ref aS)])
  refine WGo.st (fun _ q => XS.iand S32.here hx rfl (hb hby at_63) rfl q) ?_
  show WGo _ _ _ _ _ _ _ _ T30 (mkF m 64 #[.val (.int p1), .val (.int p2), .val (.int p3), .val (.int p4), .val (.int v6), .val (.ref aS), .val (.ref aP), .val (.ref aD), .unset, .unset, .unset, .unset, .unset, .unset, .unset, .unset, .unset] [(.int ((p3 >>> ((6 : Int32) &&& 31)) &&& (3 : Int32))), (.int p2), (.int (3 : Int32)), (.ref aS)])
  refine WGo.st (fun _ q => XS.ixor S32.here hx rfl (hb hby at_64) rfl q) ?_
  show WGo _ _ _ _ _ _ _ _ T30 (mkF m 65 #[.val (.int p1), .val (.int p2), .val (.int p3), .val (.int p4), .val (.int v6), .val (.ref aS), .val (.ref aP), .val (.ref aD), .unset, .unset, .unset, .unset, .unset, .unset, .unset, .unset, .unset] [(.int (p2 ^^^ ((p3 >>> ((6 : Int32) &&& 31)) &&& (3 : Int32)))), (.int (3 : Int32)), (.ref aS)])
  refine w_iastore S32 A34 g_aS rfl (hb hby at_65) rfl (by decide) (by decide : (3 : Int32).toInt < ((4 : Nat) : Int)) (L' := [(p2 ^^^ (p3 &&& (3 : Int32))), (p2 ^^^ ((p3 >>> ((2 : Int32) &&& 31)) &&& (3 : Int32))), (p2 ^^^ ((p3 >>> ((4 : Int32) &&& 31)) &&& (3 : Int32))), (p2 ^^^ ((p3 >>> ((6 : Int32) &&& 31)) &&& (3 : Int32)))]) rfl ?_
  intro T37 h38 S39 K40 A41
  have f42 := AI.keep f35 K40 (ninS (Ne.symm n_aS_aP) nin0)
  have f43 := AI.keep f36 K40 (ninS (Ne.symm n_aS_aD) nin0)
  show WGo _ _ _ _ _ _ _ _ T37 (mkF m 66 #[.val (.int p1), .val (.int p2), .val (.int p3), .val (.int p4), .val (.int v6), .val (.ref aS), .val (.ref aP), .val (.ref aD), .unset, .unset, .unset, .unset, .unset, .unset, .unset, .unset, .unset] [])
  refine WGo.st (fun _ q => XS.aload S39.here hx rfl (hb hby at_66) rfl rfl q) ?_
  show WGo _ _ _ _ _ _ _ _ T37 (mkF m 68 #[.val (.int p1), .val (.int p2), .val (.int p3), .val (.int p4), .val (.int v6), .val (.ref aS), .val (.ref aP), .val (.ref aD), .unset, .unset, .unset, .unset, .unset, .unset, .unset, .unset, .unset] [(.ref aD)])
  refine WGo.st (fun _ q => XS.iconst S39.here hx rfl (hb hby at_68) q) ?_
  show WGo _ _ _ _ _ _ _ _ T37 (mkF m 69 #[.val (.int p1), .val (.int p2), .val (.int p3), .val (.int p4), .val (.int v6), .val (.ref aS), .val (.ref aP), .val (.ref aD), .unset, .unset, .unset, .unset, .unset, .unset, .unset, .unset, .unset] [(.int (0 : Int32)), (.ref aD)])
  refine WGo.st (fun _ q => XS.iloadN S39.here hx rfl (hb hby at_69) rfl q) ?_
  show WGo _ _ _ _ _ _ _ _ T37 (mkF m 70 #[.val (.int p1), .val (.int p2), .val (.int p3), .val (.int p4), .val (.int v6), .val (.ref aS), .val (.ref aP), .val (.ref aD), .unset, .unset, .unset, .unset, .unset, .unset, .unset, .unset, .unset] [(.int p4), (.int (0 : Int32)), (.ref aD)])
  refine WGo.st (fun _ q => XS.iconst S39.here hx rfl (hb hby at_70) q) ?_
  show WGo _ _ _ _ _ _ _ _ T37 (mkF m 71 #[.val (.int p1), .val (.int p2), .val (.int p3), .val (.int p4), .val (.int v6), .val (.ref aS), .val (.ref aP), .val (.ref aD), .unset, .unset, .unset, .unset, .unset, .unset, .unset, .unset, .unset] [(.int (0 : Int32)), (.int p4), (.int (0 : Int32)), (.ref aD)])
  refine w_static S39 (y := (⟨"com/example/pathweave/pathweave/routing/PatternDropOffAfterPinLaw", "bit", "(II)Z"⟩ : MethodName)) hown (hw _ (List.mem_of_getElem? (i := 3) rfl)) (hw _ (List.mem_of_getElem? (i := 4) rfl)) (hw _ (List.mem_of_getElem? (i := 5) rfl)) (hw _ (List.mem_of_getElem? (i := 6) rfl)) (by decide) (rm_Bt l Z a0 hw n0 h38 p4 (0 : Int32) S39.ge) (W := 2) (by decide) (by decide) (by decide) (by decide) rfl (by rw [hml]; rfl) (argsL := [(.int p4), (.int (0 : Int32))]) (rest := [(.int (0 : Int32)), (.ref aD)]) (ps := [.int, .int]) (rt := (some .boolean)) (by decide) rfl rfl rfl (by show 2 * 0 + _ ≤ _; exact Nat.le_of_eq rfl) (hb hby at_71) ?_
  intro T44 h46 w47 S45 q48
  obtain ⟨q48a, q48b⟩ := q48
  subst q48a
  replace q48b := Eq.symm q48b
  subst q48b
  show WGo _ _ _ _ _ _ _ _ T44 (mkF m 74 #[.val (.int p1), .val (.int p2), .val (.int p3), .val (.int p4), .val (.int v6), .val (.ref aS), .val (.ref aP), .val (.ref aD), .unset, .unset, .unset, .unset, .unset, .unset, .unset, .unset, .unset] [(.int (bitF p4 (0 : Int32))), (.int (0 : Int32)), (.ref aD)])
  refine w_zastore S45 f43 g_aD rfl (hb hby at_74) rfl (by decide) (by decide : (0 : Int32).toInt < ((4 : Nat) : Int)) (bit_bool _ _) (L' := [(bitF p4 (0 : Int32)), (0 : Int32), (0 : Int32), (0 : Int32)]) rfl ?_
  intro T49 h50 S51 K52 A53
  have f54 := AI.keep A41 K52 (ninS n_aS_aD nin0)
  have f55 := AI.keep f42 K52 (ninS n_aP_aD nin0)
  show WGo _ _ _ _ _ _ _ _ T49 (mkF m 75 #[.val (.int p1), .val (.int p2), .val (.int p3), .val (.int p4), .val (.int v6), .val (.ref aS), .val (.ref aP), .val (.ref aD), .unset, .unset, .unset, .unset, .unset, .unset, .unset, .unset, .unset] [])
  refine WGo.st (fun _ q => XS.aload S51.here hx rfl (hb hby at_75) rfl rfl q) ?_
  show WGo _ _ _ _ _ _ _ _ T49 (mkF m 77 #[.val (.int p1), .val (.int p2), .val (.int p3), .val (.int p4), .val (.int v6), .val (.ref aS), .val (.ref aP), .val (.ref aD), .unset, .unset, .unset, .unset, .unset, .unset, .unset, .unset, .unset] [(.ref aD)])
  refine WGo.st (fun _ q => XS.iconst S51.here hx rfl (hb hby at_77) q) ?_
  show WGo _ _ _ _ _ _ _ _ T49 (mkF m 78 #[.val (.int p1), .val (.int p2), .val (.int p3), .val (.int p4), .val (.int v6), .val (.ref aS), .val (.ref aP), .val (.ref aD), .unset, .unset, .unset, .unset, .unset, .unset, .unset, .unset, .unset] [(.int (1 : Int32)), (.ref aD)])
  refine WGo.st (fun _ q => XS.iloadN S51.here hx rfl (hb hby at_78) rfl q) ?_
  show WGo _ _ _ _ _ _ _ _ T49 (mkF m 79 #[.val (.int p1), .val (.int p2), .val (.int p3), .val (.int p4), .val (.int v6), .val (.ref aS), .val (.ref aP), .val (.ref aD), .unset, .unset, .unset, .unset, .unset, .unset, .unset, .unset, .unset] [(.int p4), (.int (1 : Int32)), (.ref aD)])
  refine WGo.st (fun _ q => XS.iconst S51.here hx rfl (hb hby at_79) q) ?_
  show WGo _ _ _ _ _ _ _ _ T49 (mkF m 80 #[.val (.int p1), .val (.int p2), .val (.int p3), .val (.int p4), .val (.int v6), .val (.ref aS), .val (.ref aP), .val (.ref aD), .unset, .unset, .unset, .unset, .unset, .unset, .unset, .unset, .unset] [(.int (1 : Int32)), (.int p4), (.int (1 : Int32)), (.ref aD)])
  refine w_static S51 (y := (⟨"com/example/pathweave/pathweave/routing/PatternDropOffAfterPinLaw", "bit", "(II)Z"⟩ : MethodName)) hown (hw _ (List.mem_of_getElem? (i := 3) rfl)) (hw _ (List.mem_of_getElem? (i := 4) rfl)) (hw _ (List.mem_of_getElem? (i := 5) rfl)) (hw _ (List.mem_of_getElem? (i := 6) rfl)) (by decide) (rm_Bt l Z a0 hw n0 h50 p4 (1 : Int32) S51.ge) (W := 2) (by decide) (by decide) (by decide) (by decide) rfl (by rw [hml]; rfl) (argsL := [(.int p4), (.int (1 : Int32))]) (rest := [(.int (1 : Int32)), (.ref aD)]) (ps := [.int, .int]) (rt := (some .boolean)) (by decide) rfl rfl rfl (by show 2 * 0 + _ ≤ _; exact Nat.le_of_eq rfl) (hb hby at_80) ?_
  intro T56 h58 w59 S57 q60
  obtain ⟨q60a, q60b⟩ := q60
  subst q60a
  replace q60b := Eq.symm q60b
  subst q60b
  show WGo _ _ _ _ _ _ _ _ T56 (mkF m 83 #[.val (.int p1), .val (.int p2), .val (.int p3), .val (.int p4), .val (.int v6), .val (.ref aS), .val (.ref aP), .val (.ref aD), .unset, .unset, .unset, .unset, .unset, .unset, .unset, .unset, .unset] [(.int (bitF p4 (1 : Int32))), (.int (1 : Int32)), (.ref aD)])
  refine w_zastore S57 A53 g_aD rfl (hb hby at_83) rfl (by decide) (by decide : (1 : Int32).toInt < ((4 : Nat) : Int)) (bit_bool _ _) (L' := [(bitF p4 (0 : Int32)), (bitF p4 (1 : Int32)), (0 : Int32), (0 : Int32)]) rfl ?_
  intro T61 h62 S63 K64 A65
  have f66 := AI.keep f54 K64 (ninS n_aS_aD nin0)
  have f67 := AI.keep f55 K64 (ninS n_aP_aD nin0)
  show WGo _ _ _ _ _ _ _ _ T61 (mkF m 84 #[.val (.int p1), .val (.int p2), .val (.int p3), .val (.int p4), .val (.int v6), .val (.ref aS), .val (.ref aP), .val (.ref aD), .unset, .unset, .unset, .unset, .unset, .unset, .unset, .unset, .unset] [])
  refine WGo.st (fun _ q => XS.aload S63.here hx rfl (hb hby at_84) rfl rfl q) ?_
  show WGo _ _ _ _ _ _ _ _ T61 (mkF m 86 #[.val (.int p1), .val (.int p2), .val (.int p3), .val (.int p4), .val (.int v6), .val (.ref aS), .val (.ref aP), .val (.ref aD), .unset, .unset, .unset, .unset, .unset, .unset, .unset, .unset, .unset] [(.ref aD)])
  refine WGo.st (fun _ q => XS.iconst S63.here hx rfl (hb hby at_86) q) ?_
  show WGo _ _ _ _ _ _ _ _ T61 (mkF m 87 #[.val (.int p1), .val (.int p2), .val (.int p3), .val (.int p4), .val (.int v6), .val (.ref aS), .val (.ref aP), .val (.ref aD), .unset, .unset, .unset, .unset, .unset, .unset, .unset, .unset, .unset] [(.int (2 : Int32)), (.ref aD)])
  refine WGo.st (fun _ q => XS.iloadN S63.here hx rfl (hb hby at_87) rfl q) ?_
  show WGo _ _ _ _ _ _ _ _ T61 (mkF m 88 #[.val (.int p1), .val (.int p2), .val (.int p3), .val (.int p4), .val (.int v6), .val (.ref aS), .val (.ref aP), .val (.ref aD), .unset, .unset, .unset, .unset, .unset, .unset, .unset, .unset, .unset] [(.int p4), (.int (2 : Int32)), (.ref aD)])
  refine WGo.st (fun _ q => XS.iconst S63.here hx rfl (hb hby at_88) q) ?_
  show WGo _ _ _ _ _ _ _ _ T61 (mkF m 89 #[.val (.int p1), .val (.int p2), .val (.int p3), .val (.int p4), .val (.int v6), .val (.ref aS), .val (.ref aP), .val (.ref aD), .unset, .unset, .unset, .unset, .unset, .unset, .unset, .unset, .unset] [(.int (2 : Int32)), (.int p4), (.int (2 : Int32)), (.ref aD)])
  refine w_static S63 (y := (⟨"com/example/pathweave/pathweave/routing/PatternDropOffAfterPinLaw", "bit", "(II)Z"⟩ : MethodName)) hown (hw _ (List.mem_of_getElem? (i := 3) rfl)) (hw _ (List.mem_of_getElem? (i := 4) rfl)) (hw _ (List.mem_of_getElem? (i := 5) rfl)) (hw _ (List.mem_of_getElem? (i := 6) rfl)) (by decide) (rm_Bt l Z a0 hw n0 h62 p4 (2 : Int32) S63.ge) (W := 2) (by decide) (by decide) (by decide) (by decide) rfl (by rw [hml]; rfl) (argsL := [(.int p4), (.int (2 : Int32))]) (rest := [(.int (2 : Int32)), (.ref aD)]) (ps := [.int, .int]) (rt := (some .boolean)) (by decide) rfl rfl rfl (by show 2 * 0 + _ ≤ _; exact Nat.le_of_eq rfl) (hb hby at_89) ?_
  intro T68 h70 w71 S69 q72
  obtain ⟨q72a, q72b⟩ := q72
  subst q72a
  replace q72b := Eq.symm q72b
  subst q72b
  show WGo _ _ _ _ _ _ _ _ T68 (mkF m 92 #[.val (.int p1), .val (.int p2), .val (.int p3), .val (.int p4), .val (.int v6), .val (.ref aS), .val (.ref aP), .val (.ref aD), .unset, .unset, .unset, .unset, .unset, .unset, .unset, .unset, .unset] [(.int (bitF p4 (2 : Int32))), (.int (2 : Int32)), (.ref aD)])
  refine w_zastore S69 A65 g_aD rfl (hb hby at_92) rfl (by decide) (by decide : (2 : Int32).toInt < ((4 : Nat) : Int)) (bit_bool _ _) (L' := [(bitF p4 (0 : Int32)), (bitF p4 (1 : Int32)), (bitF p4 (2 : Int32)), (0 : Int32)]) rfl ?_
  intro T73 h74 S75 K76 A77
  have f78 := AI.keep f66 K76 (ninS n_aS_aD nin0)
  have f79 := AI.keep f67 K76 (ninS n_aP_aD nin0)
  show WGo _ _ _ _ _ _ _ _ T73 (mkF m 93 #[.val (.int p1), .val (.int p2), .val (.int p3), .val (.int p4), .val (.int v6), .val (.ref aS), .val (.ref aP), .val (.ref aD), .unset, .unset, .unset, .unset, .unset, .unset, .unset, .unset, .unset] [])
  refine WGo.st (fun _ q => XS.aload S75.here hx rfl (hb hby at_93) rfl rfl q) ?_
  show WGo _ _ _ _ _ _ _ _ T73 (mkF m 95 #[.val (.int p1), .val (.int p2), .val (.int p3), .val (.int p4), .val (.int v6), .val (.ref aS), .val (.ref aP), .val (.ref aD), .unset, .unset, .unset, .unset, .unset, .unset, .unset, .unset, .unset] [(.ref aD)])
  refine WGo.st (fun _ q => XS.iconst S75.here hx rfl (hb hby at_95) q) ?_
  show WGo _ _ _ _ _ _ _ _ T73 (mkF m 96 #[.val (.int p1), .val (.int p2), .val (.int p3), .val (.int p4), .val (.int v6), .val (.ref aS), .val (.ref aP), .val (.ref aD), .unset, .unset, .unset, .unset, .unset, .unset, .unset, .unset, .unset] [(.int (3 : Int32)), (.ref aD)])
  refine WGo.st (fun _ q => XS.iloadN S75.here hx rfl (hb hby at_96) rfl q) ?_
  show WGo _ _ _ _ _ _ _ _ T73 (mkF m 97 #[.val (.int p1), .val (.int p2), .val (.int p3), .val (.int p4), .val (.int v6), .val (.ref aS), .val (.ref aP), .val (.ref aD), .unset, .unset, .unset, .unset, .unset, .unset, .unset, .unset, .unset] [(.int p4), (.int (3 : Int32)), (.ref aD)])
  refine WGo.st (fun _ q => XS.iconst S75.here hx rfl (hb hby at_97) q) ?_
  show WGo _ _ _ _ _ _ _ _ T73 (mkF m 98 #[.val (.int p1), .val (.int p2), .val (.int p3), .val (.int p4), .val (.int v6), .val (.ref aS), .val (.ref aP), .val (.ref aD), .unset, .unset, .unset, .unset, .unset, .unset, .unset, .unset, .unset] [(.int (3 : Int32)), (.int p4), (.int (3 : Int32)), (.ref aD)])
  refine w_static S75 (y := (⟨"com/example/pathweave/pathweave/routing/PatternDropOffAfterPinLaw", "bit", "(II)Z"⟩ : MethodName)) hown (hw _ (List.mem_of_getElem? (i := 3) rfl)) (hw _ (List.mem_of_getElem? (i := 4) rfl)) (hw _ (List.mem_of_getElem? (i := 5) rfl)) (hw _ (List.mem_of_getElem? (i := 6) rfl)) (by decide) (rm_Bt l Z a0 hw n0 h74 p4 (3 : Int32) S75.ge) (W := 2) (by decide) (by decide) (by decide) (by decide) rfl (by rw [hml]; rfl) (argsL := [(.int p4), (.int (3 : Int32))]) (rest := [(.int (3 : Int32)), (.ref aD)]) (ps := [.int, .int]) (rt := (some .boolean)) (by decide) rfl rfl rfl (by show 2 * 0 + _ ≤ _; exact Nat.le_of_eq rfl) (hb hby at_98) ?_
  intro T80 h82 w83 S81 q84
  obtain ⟨q84a, q84b⟩ := q84
  subst q84a
  replace q84b := Eq.symm q84b
  subst q84b
  show WGo _ _ _ _ _ _ _ _ T80 (mkF m 101 #[.val (.int p1), .val (.int p2), .val (.int p3), .val (.int p4), .val (.int v6), .val (.ref aS), .val (.ref aP), .val (.ref aD), .unset, .unset, .unset, .unset, .unset, .unset, .unset, .unset, .unset] [(.int (bitF p4 (3 : Int32))), (.int (3 : Int32)), (.ref aD)])
  refine w_zastore S81 A77 g_aD rfl (hb hby at_101) rfl (by decide) (by decide : (3 : Int32).toInt < ((4 : Nat) : Int)) (bit_bool _ _) (L' := [(bitF p4 (0 : Int32)), (bitF p4 (1 : Int32)), (bitF p4 (2 : Int32)), (bitF p4 (3 : Int32))]) rfl ?_
  intro T85 h86 S87 K88 A89
  have f90 := AI.keep f78 K88 (ninS n_aS_aD nin0)
  have f91 := AI.keep f79 K88 (ninS n_aP_aD nin0)
  show WGo _ _ _ _ _ _ _ _ T85 (mkF m 102 #[.val (.int p1), .val (.int p2), .val (.int p3), .val (.int p4), .val (.int v6), .val (.ref aS), .val (.ref aP), .val (.ref aD), .unset, .unset, .unset, .unset, .unset, .unset, .unset, .unset, .unset] [])
  refine WGo.st (fun _ q => XS.aload S87.here hx rfl (hb hby at_102) rfl rfl q) ?_
  show WGo _ _ _ _ _ _ _ _ T85 (mkF m 104 #[.val (.int p1), .val (.int p2), .val (.int p3), .val (.int p4), .val (.int v6), .val (.ref aS), .val (.ref aP), .val (.ref aD), .unset, .unset, .unset, .unset, .unset, .unset, .unset, .unset, .unset] [(.ref aP)])
  refine WGo.st (fun _ q => XS.iconst S87.here hx rfl (hb hby at_104) q) ?_
  show WGo _ _ _ _ _ _ _ _ T85 (mkF m 105 #[.val (.int p1), .val (.int p2), .val (.int p3), .val (.int p4), .val (.int v6), .val (.ref aS), .val (.ref aP), .val (.ref aD), .unset, .unset, .unset, .unset, .unset, .unset, .unset, .unset, .unset] [(.int (0 : Int32)), (.ref aP)])
  refine WGo.st (fun _ q => XS.iloadN S87.here hx rfl (hb hby at_105) rfl q) ?_
  show WGo _ _ _ _ _ _ _ _ T85 (mkF m 106 #[.val (.int p1), .val (.int p2), .val (.int p3), .val (.int p4), .val (.int v6), .val (.ref aS), .val (.ref aP), .val (.ref aD), .unset, .unset, .unset, .unset, .unset, .unset, .unset, .unset, .unset] [(.int p4), (.int (0 : Int32)), (.ref aP)])
  refine WGo.st (fun _ q => XS.iconst S87.here hx rfl (hb hby at_106) q) ?_
  show WGo _ _ _ _ _ _ _ _ T85 (mkF m 107 #[.val (.int p1), .val (.int p2), .val (.int p3), .val (.int p4), .val (.int v6), .val (.ref aS), .val (.ref aP), .val (.ref aD), .unset, .unset, .unset, .unset, .unset, .unset, .unset, .unset, .unset] [(.int (4 : Int32)), (.int p4), (.int (0 : Int32)), (.ref aP)])
  refine w_static S87 (y := (⟨"com/example/pathweave/pathweave/routing/PatternDropOffAfterPinLaw", "bit", "(II)Z"⟩ : MethodName)) hown (hw _ (List.mem_of_getElem? (i := 3) rfl)) (hw _ (List.mem_of_getElem? (i := 4) rfl)) (hw _ (List.mem_of_getElem? (i := 5) rfl)) (hw _ (List.mem_of_getElem? (i := 6) rfl)) (by decide) (rm_Bt l Z a0 hw n0 h86 p4 (4 : Int32) S87.ge) (W := 2) (by decide) (by decide) (by decide) (by decide) rfl (by rw [hml]; rfl) (argsL := [(.int p4), (.int (4 : Int32))]) (rest := [(.int (0 : Int32)), (.ref aP)]) (ps := [.int, .int]) (rt := (some .boolean)) (by decide) rfl rfl rfl (by show 2 * 0 + _ ≤ _; exact Nat.le_of_eq rfl) (hb hby at_107) ?_
  intro T92 h94 w95 S93 q96
  obtain ⟨q96a, q96b⟩ := q96
  subst q96a
  replace q96b := Eq.symm q96b
  subst q96b
  show WGo _ _ _ _ _ _ _ _ T92 (mkF m 110 #[.val (.int p1), .val (.int p2), .val (.int p3), .val (.int p4), .val (.int v6), .val (.ref aS), .val (.ref aP), .val (.ref aD), .unset, .unset, .unset, .unset, .unset, .unset, .unset, .unset, .unset] [(.int (bitF p4 (4 : Int32))), (.int (0 : Int32)), (.ref aP)])
  refine w_zastore S93 f91 g_aP rfl (hb hby at_110) rfl (by decide) (by decide : (0 : Int32).toInt < ((4 : Nat) : Int)) (bit_bool _ _) (L' := [(bitF p4 (4 : Int32)), (0 : Int32), (0 : Int32), (0 : Int32)]) rfl ?_
  intro T97 h98 S99 K100 A101
  have f102 := AI.keep f90 K100 (ninS n_aS_aP nin0)
  have f103 := AI.keep A89 K100 (ninS (Ne.symm n_aP_aD) nin0)
  show WGo _ _ _ _ _ _ _ _ T97 (mkF m 111 #[.val (.int p1), .val (.int p2), .val (.int p3), .val (.int p4), .val (.int v6), .val (.ref aS), .val (.ref aP), .val (.ref aD), .unset, .unset, .unset, .unset, .unset, .unset, .unset, .unset, .unset] [])
  refine WGo.st (fun _ q => XS.aload S99.here hx rfl (hb hby at_111) rfl rfl q) ?_
  show WGo _ _ _ _ _ _ _ _ T97 (mkF m 113 #[.val (.int p1), .val (.int p2), .val (.int p3), .val (.int p4), .val (.int v6), .val (.ref aS), .val (.ref aP), .val (.ref aD), .unset, .unset, .unset, .unset, .unset, .unset, .unset, .unset, .unset] [(.ref aP)])
  refine WGo.st (fun _ q => XS.iconst S99.here hx rfl (hb hby at_113) q) ?_
  show WGo _ _ _ _ _ _ _ _ T97 (mkF m 114 #[.val (.int p1), .val (.int p2), .val (.int p3), .val (.int p4), .val (.int v6), .val (.ref aS), .val (.ref aP), .val (.ref aD), .unset, .unset, .unset, .unset, .unset, .unset, .unset, .unset, .unset] [(.int (1 : Int32)), (.ref aP)])
  refine WGo.st (fun _ q => XS.iloadN S99.here hx rfl (hb hby at_114) rfl q) ?_
  show WGo _ _ _ _ _ _ _ _ T97 (mkF m 115 #[.val (.int p1), .val (.int p2), .val (.int p3), .val (.int p4), .val (.int v6), .val (.ref aS), .val (.ref aP), .val (.ref aD), .unset, .unset, .unset, .unset, .unset, .unset, .unset, .unset, .unset] [(.int p4), (.int (1 : Int32)), (.ref aP)])
  refine WGo.st (fun _ q => XS.iconst S99.here hx rfl (hb hby at_115) q) ?_
  show WGo _ _ _ _ _ _ _ _ T97 (mkF m 116 #[.val (.int p1), .val (.int p2), .val (.int p3), .val (.int p4), .val (.int v6), .val (.ref aS), .val (.ref aP), .val (.ref aD), .unset, .unset, .unset, .unset, .unset, .unset, .unset, .unset, .unset] [(.int (5 : Int32)), (.int p4), (.int (1 : Int32)), (.ref aP)])
  refine w_static S99 (y := (⟨"com/example/pathweave/pathweave/routing/PatternDropOffAfterPinLaw", "bit", "(II)Z"⟩ : MethodName)) hown (hw _ (List.mem_of_getElem? (i := 3) rfl)) (hw _ (List.mem_of_getElem? (i := 4) rfl)) (hw _ (List.mem_of_getElem? (i := 5) rfl)) (hw _ (List.mem_of_getElem? (i := 6) rfl)) (by decide) (rm_Bt l Z a0 hw n0 h98 p4 (5 : Int32) S99.ge) (W := 2) (by decide) (by decide) (by decide) (by decide) rfl (by rw [hml]; rfl) (argsL := [(.int p4), (.int (5 : Int32))]) (rest := [(.int (1 : Int32)), (.ref aP)]) (ps := [.int, .int]) (rt := (some .boolean)) (by decide) rfl rfl rfl (by show 2 * 0 + _ ≤ _; exact Nat.le_of_eq rfl) (hb hby at_116) ?_
  intro T104 h106 w107 S105 q108
  obtain ⟨q108a, q108b⟩ := q108
  subst q108a
  replace q108b := Eq.symm q108b
  subst q108b
  show WGo _ _ _ _ _ _ _ _ T104 (mkF m 119 #[.val (.int p1), .val (.int p2), .val (.int p3), .val (.int p4), .val (.int v6), .val (.ref aS), .val (.ref aP), .val (.ref aD), .unset, .unset, .unset, .unset, .unset, .unset, .unset, .unset, .unset] [(.int (bitF p4 (5 : Int32))), (.int (1 : Int32)), (.ref aP)])
  refine w_zastore S105 A101 g_aP rfl (hb hby at_119) rfl (by decide) (by decide : (1 : Int32).toInt < ((4 : Nat) : Int)) (bit_bool _ _) (L' := [(bitF p4 (4 : Int32)), (bitF p4 (5 : Int32)), (0 : Int32), (0 : Int32)]) rfl ?_
  intro T109 h110 S111 K112 A113
  have f114 := AI.keep f102 K112 (ninS n_aS_aP nin0)
  have f115 := AI.keep f103 K112 (ninS (Ne.symm n_aP_aD) nin0)
  show WGo _ _ _ _ _ _ _ _ T109 (mkF m 120 #[.val (.int p1), .val (.int p2), .val (.int p3), .val (.int p4), .val (.int v6), .val (.ref aS), .val (.ref aP), .val (.ref aD), .unset, .unset, .unset, .unset, .unset, .unset, .unset, .unset, .unset] [])
  refine WGo.st (fun _ q => XS.aload S111.here hx rfl (hb hby at_120) rfl rfl q) ?_
  show WGo _ _ _ _ _ _ _ _ T109 (mkF m 122 #[.val (.int p1), .val (.int p2), .val (.int p3), .val (.int p4), .val (.int v6), .val (.ref aS), .val (.ref aP), .val (.ref aD), .unset, .unset, .unset, .unset, .unset, .unset, .unset, .unset, .unset] [(.ref aP)])
  refine WGo.st (fun _ q => XS.iconst S111.here hx rfl (hb hby at_122) q) ?_
  show WGo _ _ _ _ _ _ _ _ T109 (mkF m 123 #[.val (.int p1), .val (.int p2), .val (.int p3), .val (.int p4), .val (.int v6), .val (.ref aS), .val (.ref aP), .val (.ref aD), .unset, .unset, .unset, .unset, .unset, .unset, .unset, .unset, .unset] [(.int (2 : Int32)), (.ref aP)])
  refine WGo.st (fun _ q => XS.iloadN S111.here hx rfl (hb hby at_123) rfl q) ?_
  show WGo _ _ _ _ _ _ _ _ T109 (mkF m 124 #[.val (.int p1), .val (.int p2), .val (.int p3), .val (.int p4), .val (.int v6), .val (.ref aS), .val (.ref aP), .val (.ref aD), .unset, .unset, .unset, .unset, .unset, .unset, .unset, .unset, .unset] [(.int p4), (.int (2 : Int32)), (.ref aP)])
  refine WGo.st (fun _ q => XS.bipush S111.here hx rfl (hb hby at_124) q) ?_
  show WGo _ _ _ _ _ _ _ _ T109 (mkF m 126 #[.val (.int p1), .val (.int p2), .val (.int p3), .val (.int p4), .val (.int v6), .val (.ref aS), .val (.ref aP), .val (.ref aD), .unset, .unset, .unset, .unset, .unset, .unset, .unset, .unset, .unset] [(.int (6 : Int32)), (.int p4), (.int (2 : Int32)), (.ref aP)])
  refine w_static S111 (y := (⟨"com/example/pathweave/pathweave/routing/PatternDropOffAfterPinLaw", "bit", "(II)Z"⟩ : MethodName)) hown (hw _ (List.mem_of_getElem? (i := 3) rfl)) (hw _ (List.mem_of_getElem? (i := 4) rfl)) (hw _ (List.mem_of_getElem? (i := 5) rfl)) (hw _ (List.mem_of_getElem? (i := 6) rfl)) (by decide) (rm_Bt l Z a0 hw n0 h110 p4 (6 : Int32) S111.ge) (W := 2) (by decide) (by decide) (by decide) (by decide) rfl (by rw [hml]; rfl) (argsL := [(.int p4), (.int (6 : Int32))]) (rest := [(.int (2 : Int32)), (.ref aP)]) (ps := [.int, .int]) (rt := (some .boolean)) (by decide) rfl rfl rfl (by show 2 * 0 + _ ≤ _; exact Nat.le_of_eq rfl) (hb hby at_126) ?_
  intro T116 h118 w119 S117 q120
  obtain ⟨q120a, q120b⟩ := q120
  subst q120a
  replace q120b := Eq.symm q120b
  subst q120b
  show WGo _ _ _ _ _ _ _ _ T116 (mkF m 129 #[.val (.int p1), .val (.int p2), .val (.int p3), .val (.int p4), .val (.int v6), .val (.ref aS), .val (.ref aP), .val (.ref aD), .unset, .unset, .unset, .unset, .unset, .unset, .unset, .unset, .unset] [(.int (bitF p4 (6 : Int32))), (.int (2 : Int32)), (.ref aP)])
  refine w_zastore S117 A113 g_aP rfl (hb hby at_129) rfl (by decide) (by decide : (2 : Int32).toInt < ((4 : Nat) : Int)) (bit_bool _ _) (L' := [(bitF p4 (4 : Int32)), (bitF p4 (5 : Int32)), (bitF p4 (6 : Int32)), (0 : Int32)]) rfl ?_
  intro T121 h122 S123 K124 A125
  have f126 := AI.keep f114 K124 (ninS n_aS_aP nin0)
  have f127 := AI.keep f115 K124 (ninS (Ne.symm n_aP_aD) nin0)
  show WGo _ _ _ _ _ _ _ _ T121 (mkF m 130 #[.val (.int p1), .val (.int p2), .val (.int p3), .val (.int p4), .val (.int v6), .val (.ref aS), .val (.ref aP), .val (.ref aD), .unset, .unset, .unset, .unset, .unset, .unset, .unset, .unset, .unset] [])
  refine WGo.st (fun _ q => XS.aload S123.here hx rfl (hb hby at_130) rfl rfl q) ?_
  show WGo _ _ _ _ _ _ _ _ T121 (mkF m 132 #[.val (.int p1), .val (.int p2), .val (.int p3), .val (.int p4), .val (.int v6), .val (.ref aS), .val (.ref aP), .val (.ref aD), .unset, .unset, .unset, .unset, .unset, .unset, .unset, .unset, .unset] [(.ref aP)])
  refine WGo.st (fun _ q => XS.iconst S123.here hx rfl (hb hby at_132) q) ?_
  show WGo _ _ _ _ _ _ _ _ T121 (mkF m 133 #[.val (.int p1), .val (.int p2), .val (.int p3), .val (.int p4), .val (.int v6), .val (.ref aS), .val (.ref aP), .val (.ref aD), .unset, .unset, .unset, .unset, .unset, .unset, .unset, .unset, .unset] [(.int (3 : Int32)), (.ref aP)])
  refine WGo.st (fun _ q => XS.iloadN S123.here hx rfl (hb hby at_133) rfl q) ?_
  show WGo _ _ _ _ _ _ _ _ T121 (mkF m 134 #[.val (.int p1), .val (.int p2), .val (.int p3), .val (.int p4), .val (.int v6), .val (.ref aS), .val (.ref aP), .val (.ref aD), .unset, .unset, .unset, .unset, .unset, .unset, .unset, .unset, .unset] [(.int p4), (.int (3 : Int32)), (.ref aP)])
  refine WGo.st (fun _ q => XS.bipush S123.here hx rfl (hb hby at_134) q) ?_
  show WGo _ _ _ _ _ _ _ _ T121 (mkF m 136 #[.val (.int p1), .val (.int p2), .val (.int p3), .val (.int p4), .val (.int v6), .val (.ref aS), .val (.ref aP), .val (.ref aD), .unset, .unset, .unset, .unset, .unset, .unset, .unset, .unset, .unset] [(.int (7 : Int32)), (.int p4), (.int (3 : Int32)), (.ref aP)])
  refine w_static S123 (y := (⟨"com/example/pathweave/pathweave/routing/PatternDropOffAfterPinLaw", "bit", "(II)Z"⟩ : MethodName)) hown (hw _ (List.mem_of_getElem? (i := 3) rfl)) (hw _ (List.mem_of_getElem? (i := 4) rfl)) (hw _ (List.mem_of_getElem? (i := 5) rfl)) (hw _ (List.mem_of_getElem? (i := 6) rfl)) (by decide) (rm_Bt l Z a0 hw n0 h122 p4 (7 : Int32) S123.ge) (W := 2) (by decide) (by decide) (by decide) (by decide) rfl (by rw [hml]; rfl) (argsL := [(.int p4), (.int (7 : Int32))]) (rest := [(.int (3 : Int32)), (.ref aP)]) (ps := [.int, .int]) (rt := (some .boolean)) (by decide) rfl rfl rfl (by show 2 * 0 + _ ≤ _; exact Nat.le_of_eq rfl) (hb hby at_136) ?_
  intro T128 h130 w131 S129 q132
  obtain ⟨q132a, q132b⟩ := q132
  subst q132a
  replace q132b := Eq.symm q132b
  subst q132b
  show WGo _ _ _ _ _ _ _ _ T128 (mkF m 139 #[.val (.int p1), .val (.int p2), .val (.int p3), .val (.int p4), .val (.int v6), .val (.ref aS), .val (.ref aP), .val (.ref aD), .unset, .unset, .unset, .unset, .unset, .unset, .unset, .unset, .unset] [(.int (bitF p4 (7 : Int32))), (.int (3 : Int32)), (.ref aP)])
  refine w_zastore S129 A125 g_aP rfl (hb hby at_139) rfl (by decide) (by decide : (3 : Int32).toInt < ((4 : Nat) : Int)) (bit_bool _ _) (L' := [(bitF p4 (4 : Int32)), (bitF p4 (5 : Int32)), (bitF p4 (6 : Int32)), (bitF p4 (7 : Int32))]) rfl ?_
  intro T133 h134 S135 K136 A137
  have f138 := AI.keep f126 K136 (ninS n_aS_aP nin0)
  have f139 := AI.keep f127 K136 (ninS (Ne.symm n_aP_aD) nin0)
  show WGo _ _ _ _ _ _ _ _ T133 (mkF m 140 #[.val (.int p1), .val (.int p2), .val (.int p3), .val (.int p4), .val (.int v6), .val (.ref aS), .val (.ref aP), .val (.ref aD), .unset, .unset, .unset, .unset, .unset, .unset, .unset, .unset, .unset] [])
  refine WGo.st (fun _ q => XS.iconst S135.here hx rfl (hb hby at_140) q) ?_
  show WGo _ _ _ _ _ _ _ _ T133 (mkF m 141 #[.val (.int p1), .val (.int p2), .val (.int p3), .val (.int p4), .val (.int v6), .val (.ref aS), .val (.ref aP), .val (.ref aD), .unset, .unset, .unset, .unset, .unset, .unset, .unset, .unset, .unset] [(.int (1 : Int32))])
  refine w_newarray S135 (hw _ (List.mem_of_getElem? (i := 1) rfl)) rfl rfl (hb hby at_141) rfl (by decide) (cap := 1) (by decide) (by decide) (by decide) (by decide) (L := [(0 : Int32)]) rfl ?_
  intro T140 h141 aT S142 K143 e_aT g_aT A_aT
  have n_aS_aT : aS ≠ aT := by rw [e_aT]; exact Nat.ne_of_lt f138.lt
  have n_aP_aT : aP ≠ aT := by rw [e_aT]; exact Nat.ne_of_lt A137.lt
  have n_aD_aT : aD ≠ aT := by rw [e_aT]; exact Nat.ne_of_lt f139.lt
  have f144 := AI.keep f138 K143 nin0
  have f145 := AI.keep A137 K143 nin0
  have f146 := AI.keep f139 K143 nin0
  show WGo _ _ _ _ _ _ _ _ T140 (mkF m 143 #[.val (.int p1), .val (.int p2), .val (.int p3), .val (.int p4), .val (.int v6), .val (.ref aS), .val (.ref aP), .val (.ref aD), .unset, .unset, .unset, .unset, .unset, .unset, .unset, .unset, .unset] [(.ref aT)])
  refine WGo.st (fun _ q => XS.dup S142.here hx rfl (hb hby at_143) rfl rfl q) ?_
  show WGo _ _ _ _ _ _ _ _ T140 (mkF m 144 #[.val (.int p1), .val (.int p2), .val (.int p3), .val (.int p4), .val (.int v6), .val (.ref aS), .val (.ref aP), .val (.ref aD), .unset, .unset, .unset, .unset, .unset, .unset, .unset, .unset, .unset] [(.ref aT), (.ref aT)])
  refine WGo.st (fun _ q => XS.iconst S142.here hx rfl (hb hby at_144) q) ?_
  show WGo _ _ _ _ _ _ _ _ T140 (mkF m 145 #[.val (.int p1), .val (.int p2), .val (.int p3), .val (.int p4), .val (.int v6), .val (.ref aS), .val (.ref aP), .val (.ref aD), .unset, .unset, .unset, .unset, .unset, .unset, .unset, .unset, .unset] [(.int (0 : Int32)), (.ref aT), (.ref aT)])
  refine WGo.st (fun _ q => XS.iconst S142.here hx rfl (hb hby at_145) q) ?_
  show WGo _ _ _ _ _ _ _ _ T140 (mkF m 146 #[.val (.int p1), .val (.int p2), .val (.int p3), .val (.int p4), .val (.int v6), .val (.ref aS), .val (.ref aP), .val (.ref aD), .unset, .unset, .unset, .unset, .unset, .unset, .unset, .unset, .unset] [(.int (0 : Int32)), (.int (0 : Int32)), (.ref aT), (.ref aT)])
  refine w_iastore S142 A_aT g_aT rfl (hb hby at_146) rfl (by decide) (by decide : (0 : Int32).toInt < ((1 : Nat) : Int)) (L' := [(0 : Int32)]) rfl ?_
  intro T147 h148 S149 K150 A151
  have f152 := AI.keep f144 K150 (ninS n_aS_aT nin0)
  have f153 := AI.keep f145 K150 (ninS n_aP_aT nin0)
  have f154 := AI.keep f146 K150 (ninS n_aD_aT nin0)
  show WGo _ _ _ _ _ _ _ _ T147 (mkF m 147 #[.val (.int p1), .val (.int p2), .val (.int p3), .val (.int p4), .val (.int v6), .val (.ref aS), .val (.ref aP), .val (.ref aD), .unset, .unset, .unset, .unset, .unset, .unset, .unset, .unset, .unset] [(.ref aT)])
  refine WGo.st (fun _ q => XS.astore S149.here hx rfl (hb hby at_147) rfl rfl (l' := #[.val (.int p1), .val (.int p2), .val (.int p3), .val (.int p4), .val (.int v6), .val (.ref aS), .val (.ref aP), .val (.ref aD), .val (.ref aT), .unset, .unset, .unset, .unset, .unset, .unset, .unset, .unset]) rfl q) ?_
  show WGo _ _ _ _ _ _ _ _ T147 (mkF m 149 #[.val (.int p1), .val (.int p2), .val (.int p3), .val (.int p4), .val (.int v6), .val (.ref aS), .val (.ref aP), .val (.ref aD), .val (.ref aT), .unset, .unset, .unset, .unset, .unset, .unset, .unset, .unset] [])
  refine WGo.st (fun _ q => XS.iconst S149.here hx rfl (hb hby at_149) q) ?_
  show WGo _ _ _ _ _ _ _ _ T147 (mkF m 150 #[.val (.int p1), .val (.int p2), .val (.int p3), .val (.int p4), .val (.int v6), .val (.ref aS), .val (.ref aP), .val (.ref aD), .val (.ref aT), .unset, .unset, .unset, .unset, .unset, .unset, .unset, .unset] [(.int (4 : Int32))])
  refine w_newarray S149 (hw _ (List.mem_of_getElem? (i := 1) rfl)) rfl rfl (hb hby at_150) rfl (by decide) (cap := 4) (by decide) (by decide) (by decide) (by decide) (L := [(0 : Int32), (0 : Int32), (0 : Int32), (0 : Int32)]) rfl ?_
  intro T155 h156 aA S157 K158 e_aA g_aA A_aA
  have n_aS_aA : aS ≠ aA := by rw [e_aA]; exact Nat.ne_of_lt f152.lt
  have n_aP_aA : aP ≠ aA := by rw [e_aA]; exact Nat.ne_of_lt f153.lt
  have n_aD_aA : aD ≠ aA := by rw [e_aA]; exact Nat.ne_of_lt f154.lt
  have n_aT_aA : aT ≠ aA := by rw [e_aA]; exact Nat.ne_of_lt A151.lt
  have f159 := AI.keep f152 K158 nin0
  have f160 := AI.keep f153 K158 nin0
  have f161 := AI.keep f154 K158 nin0
  have f162 := AI.keep A151 K158 nin0
  show WGo _ _ _ _ _ _ _ _ T155 (mkF m 152 #[.val (.int p1), .val (.int p2), .val (.int p3), .val (.int p4), .val (.int v6), .val (.ref aS), .val (.ref aP), .val (.ref aD), .val (.ref aT), .unset, .unset, .unset, .unset, .unset, .unset, .unset, .unset] [(.ref aA)])
  refine WGo.st (fun _ q => XS.astore S157.here hx rfl (hb hby at_152) rfl rfl (l' := #[.val (.int p1), .val (.int p2), .val (.int p3), .val (.int p4), .val (.int v6), .val (.ref aS), .val (.ref aP), .val (.ref aD), .val (.ref aT), .val (.ref aA), .unset, .unset, .unset, .unset, .unset, .unset, .unset]) rfl q) ?_
  show WGo _ _ _ _ _ _ _ _ T155 (mkF m 154 #[.val (.int p1), .val (.int p2), .val (.int p3), .val (.int p4), .val (.int v6), .val (.ref aS), .val (.ref aP), .val (.ref aD), .val (.ref aT), .val (.ref aA), .unset, .unset, .unset, .unset, .unset, .unset, .unset] [])
  refine WGo.st (fun _ q => XS.iconst S157.here hx rfl (hb hby at_154) q) ?_
  show WGo _ _ _ _ _ _ _ _ T155 (mkF m 155 #[.val (.int p1), .val (.int p2), .val (.int p3), .val (.int p4), .val (.int v6), .val (.ref aS), .val (.ref aP), .val (.ref aD), .val (.ref aT), .val (.ref aA), .unset, .unset, .unset, .unset, .unset, .unset, .unset] [(.int (4 : Int32))])
  refine w_newarray S157 (hw _ (List.mem_of_getElem? (i := 1) rfl)) rfl rfl (hb hby at_155) rfl (by decide) (cap := 4) (by decide) (by decide) (by decide) (by decide) (L := [(0 : Int32), (0 : Int32), (0 : Int32), (0 : Int32)]) rfl ?_
  intro T163 h164 aE S165 K166 e_aE g_aE A_aE
  have n_aS_aE : aS ≠ aE := by rw [e_aE]; exact Nat.ne_of_lt f159.lt
  have n_aP_aE : aP ≠ aE := by rw [e_aE]; exact Nat.ne_of_lt f160.lt
  have n_aD_aE : aD ≠ aE := by rw [e_aE]; exact Nat.ne_of_lt f161.lt
  have n_aT_aE : aT ≠ aE := by rw [e_aE]; exact Nat.ne_of_lt f162.lt
  have n_aA_aE : aA ≠ aE := by rw [e_aE]; exact Nat.ne_of_lt A_aA.lt
  have f167 := AI.keep f159 K166 nin0
  have f168 := AI.keep f160 K166 nin0
  have f169 := AI.keep f161 K166 nin0
  have f170 := AI.keep f162 K166 nin0
  have f171 := AI.keep A_aA K166 nin0
  show WGo _ _ _ _ _ _ _ _ T163 (mkF m 157 #[.val (.int p1), .val (.int p2), .val (.int p3), .val (.int p4), .val (.int v6), .val (.ref aS), .val (.ref aP), .val (.ref aD), .val (.ref aT), .val (.ref aA), .unset, .unset, .unset, .unset, .unset, .unset, .unset] [(.ref aE)])
  refine WGo.st (fun _ q => XS.astore S165.here hx rfl (hb hby at_157) rfl rfl (l' := #[.val (.int p1), .val (.int p2), .val (.int p3), .val (.int p4), .val (.int v6), .val (.ref aS), .val (.ref aP), .val (.ref aD), .val (.ref aT), .val (.ref aA), .val (.ref aE), .unset, .unset, .unset, .unset, .unset, .unset]) rfl q) ?_
  show WGo _ _ _ _ _ _ _ _ T163 (mkF m 159 #[.val (.int p1), .val (.int p2), .val (.int p3), .val (.int p4), .val (.int v6), .val (.ref aS), .val (.ref aP), .val (.ref aD), .val (.ref aT), .val (.ref aA), .val (.ref aE), .unset, .unset, .unset, .unset, .unset, .unset] [])
  refine w_new S165 hown (hw _ (List.mem_of_getElem? (i := 7) rfl)) (hw _ (List.mem_of_getElem? (i := 8) rfl)) (hw _ (List.mem_of_getElem? (i := 9) rfl)) rfl (hb hby at_159) (by decide) (by decide) ?_
  intro T172 h173 aO S174 K175 e_aO g_aO E_aO D_aO
  have n_aS_aO : aS ≠ aO := by rw [e_aO]; exact Nat.ne_of_lt f167.lt
  have n_aP_aO : aP ≠ aO := by rw [e_aO]; exact Nat.ne_of_lt f168.lt
  have n_aD_aO : aD ≠ aO := by rw [e_aO]; exact Nat.ne_of_lt f169.lt
  have n_aT_aO : aT ≠ aO := by rw [e_aO]; exact Nat.ne_of_lt f170.lt
  have n_aA_aO : aA ≠ aO := by rw [e_aO]; exact Nat.ne_of_lt f171.lt
  have n_aE_aO : aE ≠ aO := by rw [e_aO]; exact Nat.ne_of_lt A_aE.lt
  have f176 := AI.keep f167 K175 nin0
  have f177 := AI.keep f168 K175 nin0
  have f178 := AI.keep f169 K175 nin0
  have f179 := AI.keep f170 K175 nin0
  have f180 := AI.keep f171 K175 nin0
  have f181 := AI.keep A_aE K175 nin0
  have F_aO_route : Fld Z h173 aO "com/example/pathweave/pathweave/routing/Pattern" "route" "I" (.int (0 : Int32)) := D_aO (Or.inr (hw _ (List.mem_of_getElem? (i := 17) rfl))) (ty := .int) (by decide)
  have F_aO_stops : Fld Z h173 aO "com/example/pathweave/pathweave/routing/Pattern" "stops" "[I" (.null) := D_aO (Or.inr (hw _ (List.mem_of_getElem? (i := 19) rfl))) (ty := (.array .int)) (by decide)
  have F_aO_pickups : Fld Z h173 aO "com/example/pathweave/pathweave/routing/Pattern" "pickups" "[Z" (.null) := D_aO (Or.inr (hw _ (List.mem_of_getElem? (i := 21) rfl))) (ty := (.array .boolean)) (by decide)
  have F_aO_dropOffs : Fld Z h173 aO "com/example/pathweave/pathweave/routing/Pattern" "dropOffs" "[Z" (.null) := D_aO (Or.inr (hw _ (List.mem_of_getElem? (i := 23) rfl))) (ty := (.array .boolean)) (by decide)
  have F_aO_trips : Fld Z h173 aO "com/example/pathweave/pathweave/routing/Pattern" "trips" "[I" (.null) := D_aO (Or.inr (hw _ (List.mem_of_getElem? (i := 25) rfl))) (ty := (.array .int)) (by decide)
  have F_aO_arrivals : Fld Z h173 aO "com/example/pathweave/pathweave/routing/Pattern" "arrivals" "[I" (.null) := D_aO (Or.inr (hw _ (List.mem_of_getElem? (i := 27) rfl))) (ty := (.array .int)) (by decide)
  have F_aO_departures : Fld Z h173 aO "com/example/pathweave/pathweave/routing/Pattern" "departures" "[I" (.null) := D_aO (Or.inr (hw _ (List.mem_of_getElem? (i := 29) rfl))) (ty := (.array .int)) (by decide)
  show WGo _ _ _ _ _ _ _ _ T172 (mkF m 162 #[.val (.int p1), .val (.int p2), .val (.int p3), .val (.int p4), .val (.int v6), .val (.ref aS), .val (.ref aP), .val (.ref aD), .val (.ref aT), .val (.ref aA), .val (.ref aE), .unset, .unset, .unset, .unset, .unset, .unset] [(.ref aO)])
  refine WGo.st (fun _ q => XS.dup S174.here hx rfl (hb hby at_162) rfl rfl q) ?_
  show WGo _ _ _ _ _ _ _ _ T172 (mkF m 163 #[.val (.int p1), .val (.int p2), .val (.int p3), .val (.int p4), .val (.int v6), .val (.ref aS), .val (.ref aP), .val (.ref aD), .val (.ref aT), .val (.ref aA), .val (.ref aE), .unset, .unset, .unset, .unset, .unset, .unset] [(.ref aO), (.ref aO)])
  refine WGo.st (fun _ q => XS.bipush S174.here hx rfl (hb hby at_163) q) ?_
  show WGo _ _ _ _ _ _ _ _ T172 (mkF m 165 #[.val (.int p1), .val (.int p2), .val (.int p3), .val (.int p4), .val (.int v6), .val (.ref aS), .val (.ref aP), .val (.ref aD), .val (.ref aT), .val (.ref aA), .val (.ref aE), .unset, .unset, .unset, .unset, .unset, .unset] [(.int (7 : Int32)), (.ref aO), (.ref aO)])
  refine WGo.st (fun _ q => XS.aload S174.here hx rfl (hb hby at_165) rfl rfl q) ?_
  show WGo _ _ _ _ _ _ _ _ T172 (mkF m 167 #[.val (.int p1), .val (.int p2), .val (.int p3), .val (.int p4), .val (.int v6), .val (.ref aS), .val (.ref aP), .val (.ref aD), .val (.ref aT), .val (.ref aA), .val (.ref aE), .unset, .unset, .unset, .unset, .unset, .unset] [(.ref aS), (.int (7 : Int32)), (.ref aO), (.ref aO)])
  refine WGo.st (fun _ q => XS.aload S174.here hx rfl (hb hby at_167) rfl rfl q) ?_
  show WGo _ _ _ _ _ _ _ _ T172 (mkF m 169 #[.val (.int p1), .val (.int p2), .val (.int p3), .val (.int p4), .val (.int v6), .val (.ref aS), .val (.ref aP), .val (.ref aD), .val (.ref aT), .val (.ref aA), .val (.ref aE), .unset, .unset, .unset, .unset, .unset, .unset] [(.ref aP), (.ref aS), (.int (7 : Int32)), (.ref aO), (.ref aO)])
  refine WGo.st (fun _ q => XS.aload S174.here hx rfl (hb hby at_169) rfl rfl q) ?_
  show WGo _ _ _ _ _ _ _ _ T172 (mkF m 171 #[.val (.int p1), .val (.int p2), .val (.int p3), .val (.int p4), .val (.int v6), .val (.ref aS), .val (.ref aP), .val (.ref aD), .val (.ref aT), .val (.ref aA), .val (.ref aE), .unset, .unset, .unset, .unset, .unset, .unset] [(.ref aD), (.ref aP), (.ref aS), (.int (7 : Int32)), (.ref aO), (.ref aO)])
  refine WGo.st (fun _ q => XS.aload S174.here hx rfl (hb hby at_171) rfl rfl q) ?_
  show WGo _ _ _ _ _ _ _ _ T172 (mkF m 173 #[.val (.int p1), .val (.int p2), .val (.int p3), .val (.int p4), .val (.int v6), .val (.ref aS), .val (.ref aP), .val (.ref aD), .val (.ref aT), .val (.ref aA), .val (.ref aE), .unset, .unset, .unset, .unset, .unset, .unset] [(.ref aT), (.ref aD), (.ref aP), (.ref aS), (.int (7 : Int32)), (.ref aO), (.ref aO)])
  refine WGo.st (fun _ q => XS.aload S174.here hx rfl (hb hby at_173) rfl rfl q) ?_
  show WGo _ _ _ _ _ _ _ _ T172 (mkF m 175 #[.val (.int p1), .val (.int p2), .val (.int p3), .val (.int p4), .val (.int v6), .val (.ref aS), .val (.ref aP), .val (.ref aD), .val (.ref aT), .val (.ref aA), .val (.ref aE), .unset, .unset, .unset, .unset, .unset, .unset] [(.ref aA), (.ref aT), (.ref aD), (.ref aP), (.ref aS), (.int (7 : Int32)), (.ref aO), (.ref aO)])
  refine WGo.st (fun _ q => XS.aload S174.here hx rfl (hb hby at_175) rfl rfl q) ?_
  show WGo _ _ _ _ _ _ _ _ T172 (mkF m 177 #[.val (.int p1), .val (.int p2), .val (.int p3), .val (.int p4), .val (.int v6), .val (.ref aS), .val (.ref aP), .val (.ref aD), .val (.ref aT), .val (.ref aA), .val (.ref aE), .unset, .unset, .unset, .unset, .unset, .unset] [(.ref aE), (.ref aA), (.ref aT), (.ref aD), (.ref aP), (.ref aS), (.int (7 : Int32)), (.ref aO), (.ref aO)])
  refine w_special S174 (y := (⟨"com/example/pathweave/pathweave/routing/Pattern", "<init>", "(I[I[Z[Z[I[I[I)V"⟩ : MethodName)) rfl hown (hw _ (List.mem_of_getElem? (i := 10) rfl)) (hw _ (List.mem_of_getElem? (i := 11) rfl)) (hw _ (List.mem_of_getElem? (i := 9) rfl)) (hw _ (List.mem_of_getElem? (i := 12) rfl)) (by decide) (rm_K l Z a0 hw n0 h173 aO (7 : Int32) aS aP aD aT aA aE S174.ge g_aO E_aO F_aO_route F_aO_stops F_aO_pickups F_aO_dropOffs F_aO_trips F_aO_arrivals F_aO_departures) (W := 1) (by decide) (by decide) (by decide) (by decide) rfl (by rw [hml]; rfl) (argsL := [(.int (7 : Int32)), (.ref aS), (.ref aP), (.ref aD), (.ref aT), (.ref aA), (.ref aE)]) (rest := [(.ref aO)]) (ps := [.int, (.array .int), (.array .boolean), (.array .boolean), (.array .int), (.array .int), (.array .int)]) (rt := none) (by decide) rfl rfl rfl (by show 2 * 0 + _ ≤ _; exact Nat.le_of_eq rfl) (hb hby at_177) ?_
  intro T182 h184 w185 S183 q186
  obtain ⟨q186a, q186K, q186f0, q186f1, q186f2, q186f3⟩ := q186
  subst q186a
  have f187 := AI.keep f176 q186K (ninS n_aS_aO nin0)
  have f188 := AI.keep f177 q186K (ninS n_aP_aO nin0)
  have f189 := AI.keep f178 q186K (ninS n_aD_aO nin0)
  have f190 := AI.keep f179 q186K (ninS n_aT_aO nin0)
  have f191 := AI.keep f180 q186K (ninS n_aA_aO nin0)
  have f192 := AI.keep f181 q186K (ninS n_aE_aO nin0)
  show WGo _ _ _ _ _ _ _ _ T182 (mkF m 180 #[.val (.int p1), .val (.int p2), .val (.int p3), .val (.int p4), .val (.int v6), .val (.ref aS), .val (.ref aP), .val (.ref aD), .val (.ref aT), .val (.ref aA), .val (.ref aE), .unset, .unset, .unset, .unset, .unset, .unset] [(.ref aO)])
  refine WGo.st (fun _ q => XS.astore S183.here hx rfl (hb hby at_180) rfl rfl (l' := #[.val (.int p1), .val (.int p2), .val (.int p3), .val (.int p4), .val (.int v6), .val (.ref aS), .val (.ref aP), .val (.ref aD), .val (.ref aT), .val (.ref aA), .val (.ref aE), .val (.ref aO), .unset, .unset, .unset, .unset, .unset]) rfl q) ?_
  show WGo _ _ _ _ _ _ _ _ T182 (mkF m 182 #[.val (.int p1), .val (.int p2), .val (.int p3), .val (.int p4), .val (.int v6), .val (.ref aS), .val (.ref aP), .val (.ref aD), .val (.ref aT), .val (.ref aA), .val (.ref aE), .val (.ref aO), .unset, .unset, .unset, .unset, .unset] [])
  refine WGo.st (fun _ q => XS.aload S183.here hx rfl (hb hby at_182) rfl rfl q) ?_
  show WGo _ _ _ _ _ _ _ _ T182 (mkF m 184 #[.val (.int p1), .val (.int p2), .val (.int p3), .val (.int p4), .val (.int v6), .val (.ref aS), .val (.ref aP), .val (.ref aD), .val (.ref aT), .val (.ref aA), .val (.ref aE), .val (.ref aO), .unset, .unset, .unset, .unset, .unset] [(.ref aO)])
  refine WGo.st (fun _ q => XS.iload S183.here hx rfl (hb hby at_184) rfl q) ?_
  show WGo _ _ _ _ _ _ _ _ T182 (mkF m 186 #[.val (.int p1), .val (.int p2), .val (.int p3), .val (.int p4), .val (.int v6), .val (.ref aS), .val (.ref aP), .val (.ref aD), .val (.ref aT), .val (.ref aA), .val (.ref aE), .val (.ref aO), .unset, .unset, .unset, .unset, .unset] [(.int v6), (.ref aO)])
  refine WGo.st (fun _ q => XS.iloadN S183.here hx rfl (hb hby at_186) rfl q) ?_
  show WGo _ _ _ _ _ _ _ _ T182 (mkF m 187 #[.val (.int p1), .val (.int p2), .val (.int p3), .val (.int p4), .val (.int v6), .val (.ref aS), .val (.ref aP), .val (.ref aD), .val (.ref aT), .val (.ref aA), .val (.ref aE), .val (.ref aO), .unset, .unset, .unset, .unset, .unset] [(.int p2), (.int v6), (.ref aO)])
  refine w_virtual S183 (y := (⟨"com/example/pathweave/pathweave/routing/Pattern", "dropOffAfter", "(II)I"⟩ : MethodName)) hown (hw _ (List.mem_of_getElem? (i := 30) rfl)) (hw _ (List.mem_of_getElem? (i := 31) rfl)) (hw _ (List.mem_of_getElem? (i := 33) rfl)) (hw _ (List.mem_of_getElem? (i := 32) rfl)) (hw _ (List.mem_of_getElem? (i := 9) rfl)) (hw _ (List.mem_of_getElem? (i := 34) rfl)) (by decide) q186f0 (rm_D l Z a0 hw n0 h184 aO v6 p2 aS aD [(p2 ^^^ (p3 &&& (3 : Int32))), (p2 ^^^ ((p3 >>> ((2 : Int32) &&& 31)) &&& (3 : Int32))), (p2 ^^^ ((p3 >>> ((4 : Int32) &&& 31)) &&& (3 : Int32))), (p2 ^^^ ((p3 >>> ((6 : Int32) &&& 31)) &&& (3 : Int32)))] [(bitF p4 (0 : Int32)), (bitF p4 (1 : Int32)), (bitF p4 (2 : Int32)), (bitF p4 (3 : Int32))] S183.ge q186f1 q186f2 f187 f189 rfl rfl bp.1 bp.2) (W := 0) (by decide) (by decide) (by decide) (by decide) rfl (by rw [hml]; rfl) (argsL := [(.int v6), (.int p2)]) (rest := []) (ps := [.int, .int]) (rt := (some .int)) (by decide) rfl rfl rfl (by show 2 * 0 + _ ≤ _; exact Nat.le_of_eq rfl) (hb hby at_187) ?_
  intro T193 h195 w196 S194 q197
  obtain ⟨r, q197a, q197b, hdro⟩ := q197
  subst q197a
  replace q197b := Eq.symm q197b
  subst q197b
  show WGo _ _ _ _ _ _ _ _ T193 (mkF m 190 #[.val (.int p1), .val (.int p2), .val (.int p3), .val (.int p4), .val (.int v6), .val (.ref aS), .val (.ref aP), .val (.ref aD), .val (.ref aT), .val (.ref aA), .val (.ref aE), .val (.ref aO), .unset, .unset, .unset, .unset, .unset] [(.int r)])
  refine WGo.st (fun _ q => XS.istore S194.here hx rfl (hb hby at_190) rfl (l' := #[.val (.int p1), .val (.int p2), .val (.int p3), .val (.int p4), .val (.int v6), .val (.ref aS), .val (.ref aP), .val (.ref aD), .val (.ref aT), .val (.ref aA), .val (.ref aE), .val (.ref aO), .val (.int r), .unset, .unset, .unset, .unset]) rfl q) ?_
  show WGo _ _ _ _ _ _ _ _ T193 (mkF m 192 #[.val (.int p1), .val (.int p2), .val (.int p3), .val (.int p4), .val (.int v6), .val (.ref aS), .val (.ref aP), .val (.ref aD), .val (.ref aT), .val (.ref aA), .val (.ref aE), .val (.ref aO), .val (.int r), .unset, .unset, .unset, .unset] [])
  refine WGo.st (fun _ q => XS.iloadN S194.here hx rfl (hb hby at_192) rfl q) ?_
  show WGo _ _ _ _ _ _ _ _ T193 (mkF m 193 #[.val (.int p1), .val (.int p2), .val (.int p3), .val (.int p4), .val (.int v6), .val (.ref aS), .val (.ref aP), .val (.ref aD), .val (.ref aT), .val (.ref aA), .val (.ref aE), .val (.ref aO), .val (.int r), .unset, .unset, .unset, .unset] [(.int p3)])
  refine WGo.st (fun _ q => XS.iconst S194.here hx rfl (hb hby at_193) q) ?_
  show WGo _ _ _ _ _ _ _ _ T193 (mkF m 194 #[.val (.int p1), .val (.int p2), .val (.int p3), .val (.int p4), .val (.int v6), .val (.ref aS), .val (.ref aP), .val (.ref aD), .val (.ref aT), .val (.ref aA), .val (.ref aE), .val (.ref aO), .val (.int r), .unset, .unset, .unset, .unset] [(.int (2 : Int32)), (.int p3)])
  refine WGo.st (fun _ q => XS.ishr S194.here hx rfl (hb hby at_194) rfl q) ?_
  show WGo _ _ _ _ _ _ _ _ T193 (mkF m 195 #[.val (.int p1), .val (.int p2), .val (.int p3), .val (.int p4), .val (.int v6), .val (.ref aS), .val (.ref aP), .val (.ref aD), .val (.ref aT), .val (.ref aA), .val (.ref aE), .val (.ref aO), .val (.int r), .unset, .unset, .unset, .unset] [(.int (p3 >>> ((2 : Int32) &&& 31)))])
  refine WGo.st (fun _ q => XS.iconst S194.here hx rfl (hb hby at_195) q) ?_
  show WGo _ _ _ _ _ _ _ _ T193 (mkF m 196 #[.val (.int p1), .val (.int p2), .val (.int p3), .val (.int p4), .val (.int v6), .val (.ref aS), .val (.ref aP), .val (.ref aD), .val (.ref aT), .val (.ref aA), .val (.ref aE), .val (.ref aO), .val (.int r), .unset, .unset, .unset, .unset] [(.int (3 : Int32)), (.int (p3 >>> ((2 : Int32) &&& 31)))])
  refine WGo.st (fun _ q => XS.iand S194.here hx rfl (hb hby at_196) rfl q) ?_
  show WGo _ _ _ _ _ _ _ _ T193 (mkF m 197 #[.val (.int p1), .val (.int p2), .val (.int p3), .val (.int p4), .val (.int v6), .val (.ref aS), .val (.ref aP), .val (.ref aD), .val (.ref aT), .val (.ref aA), .val (.ref aE), .val (.ref aO), .val (.int r), .unset, .unset, .unset, .unset] [(.int ((p3 >>> ((2 : Int32) &&& 31)) &&& (3 : Int32)))])
  have j213_200 : ∀ (T198 : State) (b213 : Int32), WSt p l e room_1 s m #[(.int p1), (.int p2), (.int p3), (.int p4)] below meth c Z n0 T198 h184 (7) (28) → b213 = mm ((p3 >>> ((2 : Int32) &&& 31)) &&& (3 : Int32)) (bitF p4 (1 : Int32)) → WGo p e below s n0 (Q0 Z n0 h0 p1 p2 p3 p4) room_1.cells room_1.slots T198 (mkF m 213 #[.val (.int p1), .val (.int p2), .val (.int p3), .val (.int p4), .val (.int v6), .val (.ref aS), .val (.ref aP), .val (.ref aD), .val (.ref aT), .val (.ref aA), .val (.ref aE), .val (.ref aO), .val (.int r), .unset, .unset, .unset, .unset] [(.int b213)]) := by
    intro T198 b213 S199 hb213
    show WGo _ _ _ _ _ _ _ _ T198 (mkF m 213 #[.val (.int p1), .val (.int p2), .val (.int p3), .val (.int p4), .val (.int v6), .val (.ref aS), .val (.ref aP), .val (.ref aD), .val (.ref aT), .val (.ref aA), .val (.ref aE), .val (.ref aO), .val (.int r), .unset, .unset, .unset, .unset] [(.int b213)])
    refine WGo.st (fun _ q => XS.istore S199.here hx rfl (hb hby at_213) rfl (l' := #[.val (.int p1), .val (.int p2), .val (.int p3), .val (.int p4), .val (.int v6), .val (.ref aS), .val (.ref aP), .val (.ref aD), .val (.ref aT), .val (.ref aA), .val (.ref aE), .val (.ref aO), .val (.int r), .val (.int b213), .unset, .unset, .unset]) rfl q) ?_
    show WGo _ _ _ _ _ _ _ _ T198 (mkF m 215 #[.val (.int p1), .val (.int p2), .val (.int p3), .val (.int p4), .val (.int v6), .val (.ref aS), .val (.ref aP), .val (.ref aD), .val (.ref aT), .val (.ref aA), .val (.ref aE), .val (.ref aO), .val (.int r), .val (.int b213), .unset, .unset, .unset] [])
    refine WGo.st (fun _ q => XS.iloadN S199.here hx rfl (hb hby at_215) rfl q) ?_
    show WGo _ _ _ _ _ _ _ _ T198 (mkF m 216 #[.val (.int p1), .val (.int p2), .val (.int p3), .val (.int p4), .val (.int v6), .val (.ref aS), .val (.ref aP), .val (.ref aD), .val (.ref aT), .val (.ref aA), .val (.ref aE), .val (.ref aO), .val (.int r), .val (.int b213), .unset, .unset, .unset] [(.int p3)])
    refine WGo.st (fun _ q => XS.iconst S199.here hx rfl (hb hby at_216) q) ?_
    show WGo _ _ _ _ _ _ _ _ T198 (mkF m 217 #[.val (.int p1), .val (.int p2), .val (.int p3), .val (.int p4), .val (.int v6), .val (.ref aS), .val (.ref aP), .val (.ref aD), .val (.ref aT), .val (.ref aA), .val (.ref aE), .val (.ref aO), .val (.int r), .val (.int b213), .unset, .unset, .unset] [(.int (4 : Int32)), (.int p3)])
    refine WGo.st (fun _ q => XS.ishr S199.here hx rfl (hb hby at_217) rfl q) ?_
    show WGo _ _ _ _ _ _ _ _ T198 (mkF m 218 #[.val (.int p1), .val (.int p2), .val (.int p3), .val (.int p4), .val (.int v6), .val (.ref aS), .val (.ref aP), .val (.ref aD), .val (.ref aT), .val (.ref aA), .val (.ref aE), .val (.ref aO), .val (.int r), .val (.int b213), .unset, .unset, .unset] [(.int (p3 >>> ((4 : Int32) &&& 31)))])
    refine WGo.st (fun _ q => XS.iconst S199.here hx rfl (hb hby at_218) q) ?_
    show WGo _ _ _ _ _ _ _ _ T198 (mkF m 219 #[.val (.int p1), .val (.int p2), .val (.int p3), .val (.int p4), .val (.int v6), .val (.ref aS), .val (.ref aP), .val (.ref aD), .val (.ref aT), .val (.ref aA), .val (.ref aE), .val (.ref aO), .val (.int r), .val (.int b213), .unset, .unset, .unset] [(.int (3 : Int32)), (.int (p3 >>> ((4 : Int32) &&& 31)))])
    refine WGo.st (fun _ q => XS.iand S199.here hx rfl (hb hby at_219) rfl q) ?_
    show WGo _ _ _ _ _ _ _ _ T198 (mkF m 220 #[.val (.int p1), .val (.int p2), .val (.int p3), .val (.int p4), .val (.int v6), .val (.ref aS), .val (.ref aP), .val (.ref aD), .val (.ref aT), .val (.ref aA), .val (.ref aE), .val (.ref aO), .val (.int r), .val (.int b213), .unset, .unset, .unset] [(.int ((p3 >>> ((4 : Int32) &&& 31)) &&& (3 : Int32)))])
    have j236_203 : ∀ (T201 : State) (b236 : Int32), WSt p l e room_1 s m #[(.int p1), (.int p2), (.int p3), (.int p4)] below meth c Z n0 T201 h184 (7) (28) → b236 = mm ((p3 >>> ((4 : Int32) &&& 31)) &&& (3 : Int32)) (bitF p4 (2 : Int32)) → WGo p e below s n0 (Q0 Z n0 h0 p1 p2 p3 p4) room_1.cells room_1.slots T201 (mkF m 236 #[.val (.int p1), .val (.int p2), .val (.int p3), .val (.int p4), .val (.int v6), .val (.ref aS), .val (.ref aP), .val (.ref aD), .val (.ref aT), .val (.ref aA), .val (.ref aE), .val (.ref aO), .val (.int r), .val (.int b213), .unset, .unset, .unset] [(.int b236)]) := by
      intro T201 b236 S202 hb236
      show WGo _ _ _ _ _ _ _ _ T201 (mkF m 236 #[.val (.int p1), .val (.int p2), .val (.int p3), .val (.int p4), .val (.int v6), .val (.ref aS), .val (.ref aP), .val (.ref aD), .val (.ref aT), .val (.ref aA), .val (.ref aE), .val (.ref aO), .val (.int r), .val (.int b213), .unset, .unset, .unset] [(.int b236)])
      refine WGo.st (fun _ q => XS.istore S202.here hx rfl (hb hby at_236) rfl (l' := #[.val (.int p1), .val (.int p2), .val (.int p3), .val (.int p4), .val (.int v6), .val (.ref aS), .val (.ref aP), .val (.ref aD), .val (.ref aT), .val (.ref aA), .val (.ref aE), .val (.ref aO), .val (.int r), .val (.int b213), .val (.int b236), .unset, .unset]) rfl q) ?_
      show WGo _ _ _ _ _ _ _ _ T201 (mkF m 238 #[.val (.int p1), .val (.int p2), .val (.int p3), .val (.int p4), .val (.int v6), .val (.ref aS), .val (.ref aP), .val (.ref aD), .val (.ref aT), .val (.ref aA), .val (.ref aE), .val (.ref aO), .val (.int r), .val (.int b213), .val (.int b236), .unset, .unset] [])
      refine WGo.st (fun _ q => XS.iloadN S202.here hx rfl (hb hby at_238) rfl q) ?_
      show WGo _ _ _ _ _ _ _ _ T201 (mkF m 239 #[.val (.int p1), .val (.int p2), .val (.int p3), .val (.int p4), .val (.int v6), .val (.ref aS), .val (.ref aP), .val (.ref aD), .val (.ref aT), .val (.ref aA), .val (.ref aE), .val (.ref aO), .val (.int r), .val (.int b213), .val (.int b236), .unset, .unset] [(.int p3)])
      refine WGo.st (fun _ q => XS.bipush S202.here hx rfl (hb hby at_239) q) ?_
      show WGo _ _ _ _ _ _ _ _ T201 (mkF m 241 #[.val (.int p1), .val (.int p2), .val (.int p3), .val (.int p4), .val (.int v6), .val (.ref aS), .val (.ref aP), .val (.ref aD), .val (.ref aT), .val (.ref aA), .val (.ref aE), .val (.ref aO), .val (.int r), .val (.int b213), .val (.int b236), .unset, .unset] [(.int (6 : Int32)), (.int p3)])
      refine WGo.st (fun _ q => XS.ishr S202.here hx rfl (hb hby at_241) rfl q) ?_
      show WGo _ _ _ _ _ _ _ _ T201 (mkF m 242 #[.val (.int p1), .val (.int p2), .val (.int p3), .val (.int p4), .val (.int v6), .val (.ref aS), .val (.ref aP), .val (.ref aD), .val (.ref aT), .val (.ref aA), .val (.ref aE), .val (.ref aO), .val (.int r), .val (.int b213), .val (.int b236), .unset, .unset] [(.int (p3 >>> ((6 : Int32) &&& 31)))])
      refine WGo.st (fun _ q => XS.iconst S202.here hx rfl (hb hby at_242) q) ?_
      show WGo _ _ _ _ _ _ _ _ T201 (mkF m 243 #[.val (.int p1), .val (.int p2), .val (.int p3), .val (.int p4), .val (.int v6), .val (.ref aS), .val (.ref aP), .val (.ref aD), .val (.ref aT), .val (.ref aA), .val (.ref aE), .val (.ref aO), .val (.int r), .val (.int b213), .val (.int b236), .unset, .unset] [(.int (3 : Int32)), (.int (p3 >>> ((6 : Int32) &&& 31)))])
      refine WGo.st (fun _ q => XS.iand S202.here hx rfl (hb hby at_243) rfl q) ?_
      show WGo _ _ _ _ _ _ _ _ T201 (mkF m 244 #[.val (.int p1), .val (.int p2), .val (.int p3), .val (.int p4), .val (.int v6), .val (.ref aS), .val (.ref aP), .val (.ref aD), .val (.ref aT), .val (.ref aA), .val (.ref aE), .val (.ref aO), .val (.int r), .val (.int b213), .val (.int b236), .unset, .unset] [(.int ((p3 >>> ((6 : Int32) &&& 31)) &&& (3 : Int32)))])
      have j260_206 : ∀ (T204 : State) (b260 : Int32), WSt p l e room_1 s m #[(.int p1), (.int p2), (.int p3), (.int p4)] below meth c Z n0 T204 h184 (7) (28) → b260 = mm ((p3 >>> ((6 : Int32) &&& 31)) &&& (3 : Int32)) (bitF p4 (3 : Int32)) → WGo p e below s n0 (Q0 Z n0 h0 p1 p2 p3 p4) room_1.cells room_1.slots T204 (mkF m 260 #[.val (.int p1), .val (.int p2), .val (.int p3), .val (.int p4), .val (.int v6), .val (.ref aS), .val (.ref aP), .val (.ref aD), .val (.ref aT), .val (.ref aA), .val (.ref aE), .val (.ref aO), .val (.int r), .val (.int b213), .val (.int b236), .unset, .unset] [(.int b260)]) := by
        intro T204 b260 S205 hb260
        show WGo _ _ _ _ _ _ _ _ T204 (mkF m 260 #[.val (.int p1), .val (.int p2), .val (.int p3), .val (.int p4), .val (.int v6), .val (.ref aS), .val (.ref aP), .val (.ref aD), .val (.ref aT), .val (.ref aA), .val (.ref aE), .val (.ref aO), .val (.int r), .val (.int b213), .val (.int b236), .unset, .unset] [(.int b260)])
        refine WGo.st (fun _ q => XS.istore S205.here hx rfl (hb hby at_260) rfl (l' := #[.val (.int p1), .val (.int p2), .val (.int p3), .val (.int p4), .val (.int v6), .val (.ref aS), .val (.ref aP), .val (.ref aD), .val (.ref aT), .val (.ref aA), .val (.ref aE), .val (.ref aO), .val (.int r), .val (.int b213), .val (.int b236), .val (.int b260), .unset]) rfl q) ?_
        show WGo _ _ _ _ _ _ _ _ T204 (mkF m 262 #[.val (.int p1), .val (.int p2), .val (.int p3), .val (.int p4), .val (.int v6), .val (.ref aS), .val (.ref aP), .val (.ref aD), .val (.ref aT), .val (.ref aA), .val (.ref aE), .val (.ref aO), .val (.int r), .val (.int b213), .val (.int b236), .val (.int b260), .unset] [])
        refine WGo.st (fun _ q => XS.iconst S205.here hx rfl (hb hby at_262) q) ?_
        show WGo _ _ _ _ _ _ _ _ T204 (mkF m 263 #[.val (.int p1), .val (.int p2), .val (.int p3), .val (.int p4), .val (.int v6), .val (.ref aS), .val (.ref aP), .val (.ref aD), .val (.ref aT), .val (.ref aA), .val (.ref aE), .val (.ref aO), .val (.int r), .val (.int b213), .val (.int b236), .val (.int b260), .unset] [(.int (-1 : Int32))])
        refine WGo.st (fun _ q => XS.istore S205.here hx rfl (hb hby at_263) rfl (l' := #[.val (.int p1), .val (.int p2), .val (.int p3), .val (.int p4), .val (.int v6), .val (.ref aS), .val (.ref aP), .val (.ref aD), .val (.ref aT), .val (.ref aA), .val (.ref aE), .val (.ref aO), .val (.int r), .val (.int b213), .val (.int b236), .val (.int b260), .val (.int (-1 : Int32))]) rfl q) ?_
        show WGo _ _ _ _ _ _ _ _ T204 (mkF m 265 #[.val (.int p1), .val (.int p2), .val (.int p3), .val (.int p4), .val (.int v6), .val (.ref aS), .val (.ref aP), .val (.ref aD), .val (.ref aT), .val (.ref aA), .val (.ref aE), .val (.ref aO), .val (.int r), .val (.int b213), .val (.int b236), .val (.int b260), .val (.int (-1 : Int32))] [])
        refine WGo.st (fun _ q => XS.iload S205.here hx rfl (hb hby at_265) rfl q) ?_
        show WGo _ _ _ _ _ _ _ _ T204 (mkF m 267 #[.val (.int p1), .val (.int p2), .val (.int p3), .val (.int p4), .val (.int v6), .val (.ref aS), .val (.ref aP), .val (.ref aD), .val (.ref aT), .val (.ref aA), .val (.ref aE), .val (.ref aO), .val (.int r), .val (.int b213), .val (.int b236), .val (.int b260), .val (.int (-1 : Int32))] [(.int v6)])
        refine WGo.st (fun _ q => XS.iconst S205.here hx rfl (hb hby at_267) q) ?_
        show WGo _ _ _ _ _ _ _ _ T204 (mkF m 268 #[.val (.int p1), .val (.int p2), .val (.int p3), .val (.int p4), .val (.int v6), .val (.ref aS), .val (.ref aP), .val (.ref aD), .val (.ref aT), .val (.ref aA), .val (.ref aE), .val (.ref aO), .val (.int r), .val (.int b213), .val (.int b236), .val (.int b260), .val (.int (-1 : Int32))] [(.int (3 : Int32)), (.int v6)])
        have j279_209 : ∀ (T207 : State) (x1 : Int32), WSt p l e room_1 s m #[(.int p1), (.int p2), (.int p3), (.int p4)] below meth c Z n0 T207 h184 (7) (28) → x1 = ex1 v6 b260 → WGo p e below s n0 (Q0 Z n0 h0 p1 p2 p3 p4) room_1.cells room_1.slots T207 (mkF m 279 #[.val (.int p1), .val (.int p2), .val (.int p3), .val (.int p4), .val (.int v6), .val (.ref aS), .val (.ref aP), .val (.ref aD), .val (.ref aT), .val (.ref aA), .val (.ref aE), .val (.ref aO), .val (.int r), .val (.int b213), .val (.int b236), .val (.int b260), .val (.int x1)] []) := by
          intro T207 x1 S208 hx1
          show WGo _ _ _ _ _ _ _ _ T207 (mkF m 279 #[.val (.int p1), .val (.int p2), .val (.int p3), .val (.int p4), .val (.int v6), .val (.ref aS), .val (.ref aP), .val (.ref aD), .val (.ref aT), .val (.ref aA), .val (.ref aE), .val (.ref aO), .val (.int r), .val (.int b213), .val (.int b236), .val (.int b260), .val (.int x1)] [])
          refine WGo.st (fun _ q => XS.iload S208.here hx rfl (hb hby at_279) rfl q) ?_
          show WGo _ _ _ _ _ _ _ _ T207 (mkF m 281 #[.val (.int p1), .val (.int p2), .val (.int p3), .val (.int p4), .val (.int v6), .val (.ref aS), .val (.ref aP), .val (.ref aD), .val (.ref aT), .val (.ref aA), .val (.ref aE), .val (.ref aO), .val (.int r), .val (.int b213), .val (.int b236), .val (.int b260), .val (.int x1)] [(.int v6)])
          refine WGo.st (fun _ q => XS.iconst S208.here hx rfl (hb hby at_281) q) ?_
          show WGo _ _ _ _ _ _ _ _ T207 (mkF m 282 #[.val (.int p1), .val (.int p2), .val (.int p3), .val (.int p4), .val (.int v6), .val (.ref aS), .val (.ref aP), .val (.ref aD), .val (.ref aT), .val (.ref aA), .val (.ref aE), .val (.ref aO), .val (.int r), .val (.int b213), .val (.int b236), .val (.int b260), .val (.int x1)] [(.int (2 : Int32)), (.int v6)])
          have j293_212 : ∀ (T210 : State) (x2 : Int32), WSt p l e room_1 s m #[(.int p1), (.int p2), (.int p3), (.int p4)] below meth c Z n0 T210 h184 (7) (28) → x2 = ex2 v6 b236 x1 → WGo p e below s n0 (Q0 Z n0 h0 p1 p2 p3 p4) room_1.cells room_1.slots T210 (mkF m 293 #[.val (.int p1), .val (.int p2), .val (.int p3), .val (.int p4), .val (.int v6), .val (.ref aS), .val (.ref aP), .val (.ref aD), .val (.ref aT), .val (.ref aA), .val (.ref aE), .val (.ref aO), .val (.int r), .val (.int b213), .val (.int b236), .val (.int b260), .val (.int x2)] []) := by
            intro T210 x2 S211 hx2
            show WGo _ _ _ _ _ _ _ _ T210 (mkF m 293 #[.val (.int p1), .val (.int p2), .val (.int p3), .val (.int p4), .val (.int v6), .val (.ref aS), .val (.ref aP), .val (.ref aD), .val (.ref aT), .val (.ref aA), .val (.ref aE), .val (.ref aO), .val (.int r), .val (.int b213), .val (.int b236), .val (.int b260), .val (.int x2)] [])
            refine WGo.st (fun _ q => XS.iload S211.here hx rfl (hb hby at_293) rfl q) ?_
            show WGo _ _ _ _ _ _ _ _ T210 (mkF m 295 #[.val (.int p1), .val (.int p2), .val (.int p3), .val (.int p4), .val (.int v6), .val (.ref aS), .val (.ref aP), .val (.ref aD), .val (.ref aT), .val (.ref aA), .val (.ref aE), .val (.ref aO), .val (.int r), .val (.int b213), .val (.int b236), .val (.int b260), .val (.int x2)] [(.int v6)])
            refine WGo.st (fun _ q => XS.iconst S211.here hx rfl (hb hby at_295) q) ?_
            show WGo _ _ _ _ _ _ _ _ T210 (mkF m 296 #[.val (.int p1), .val (.int p2), .val (.int p3), .val (.int p4), .val (.int v6), .val (.ref aS), .val (.ref aP), .val (.ref aD), .val (.ref aT), .val (.ref aA), .val (.ref aE), .val (.ref aO), .val (.int r), .val (.int b213), .val (.int b236), .val (.int b260), .val (.int x2)] [(.int (1 : Int32)), (.int v6)])
            have j307_215 : ∀ (T213 : State) (x3 : Int32), WSt p l e room_1 s m #[(.int p1), (.int p2), (.int p3), (.int p4)] below meth c Z n0 T213 h184 (7) (28) → x3 = ex3 v6 b213 x2 → WGo p e below s n0 (Q0 Z n0 h0 p1 p2 p3 p4) room_1.cells room_1.slots T213 (mkF m 307 #[.val (.int p1), .val (.int p2), .val (.int p3), .val (.int p4), .val (.int v6), .val (.ref aS), .val (.ref aP), .val (.ref aD), .val (.ref aT), .val (.ref aA), .val (.ref aE), .val (.ref aO), .val (.int r), .val (.int b213), .val (.int b236), .val (.int b260), .val (.int x3)] []) := by
              intro T213 x3 S214 hx3
              show WGo _ _ _ _ _ _ _ _ T213 (mkF m 307 #[.val (.int p1), .val (.int p2), .val (.int p3), .val (.int p4), .val (.int v6), .val (.ref aS), .val (.ref aP), .val (.ref aD), .val (.ref aT), .val (.ref aA), .val (.ref aE), .val (.ref aO), .val (.int r), .val (.int b213), .val (.int b236), .val (.int b260), .val (.int x3)] [])
              refine WGo.st (fun _ q => XS.iload S214.here hx rfl (hb hby at_307) rfl q) ?_
              show WGo _ _ _ _ _ _ _ _ T213 (mkF m 309 #[.val (.int p1), .val (.int p2), .val (.int p3), .val (.int p4), .val (.int v6), .val (.ref aS), .val (.ref aP), .val (.ref aD), .val (.ref aT), .val (.ref aA), .val (.ref aE), .val (.ref aO), .val (.int r), .val (.int b213), .val (.int b236), .val (.int b260), .val (.int x3)] [(.int r)])
              refine WGo.st (fun _ q => XS.iload S214.here hx rfl (hb hby at_309) rfl q) ?_
              show WGo _ _ _ _ _ _ _ _ T213 (mkF m 311 #[.val (.int p1), .val (.int p2), .val (.int p3), .val (.int p4), .val (.int v6), .val (.ref aS), .val (.ref aP), .val (.ref aD), .val (.ref aT), .val (.ref aA), .val (.ref aE), .val (.ref aO), .val (.int r), .val (.int b213), .val (.int b236), .val (.int b260), .val (.int x3)] [(.int x3), (.int r)])
              refine WGo.st (fun _ q => XS.icmpNo S214.here hx rfl (hb hby at_311) rfl (teq (by rw [hx3, hx2, hx1, hb213, hb236, hb260]; exact fin_drop bp.1 bp.2 hdro)).2 q) ?_
              show WGo _ _ _ _ _ _ _ _ T213 (mkF m 314 #[.val (.int p1), .val (.int p2), .val (.int p3), .val (.int p4), .val (.int v6), .val (.ref aS), .val (.ref aP), .val (.ref aD), .val (.ref aT), .val (.ref aA), .val (.ref aE), .val (.ref aO), .val (.int r), .val (.int b213), .val (.int b236), .val (.int b260), .val (.int x3)] [])
              refine WGo.st (fun _ q => XS.iconst S214.here hx rfl (hb hby at_314) q) ?_
              show WGo _ _ _ _ _ _ _ _ T213 (mkF m 315 #[.val (.int p1), .val (.int p2), .val (.int p3), .val (.int p4), .val (.int v6), .val (.ref aS), .val (.ref aP), .val (.ref aD), .val (.ref aT), .val (.ref aA), .val (.ref aE), .val (.ref aO), .val (.int r), .val (.int b213), .val (.int b236), .val (.int b260), .val (.int x3)] [(.int (1 : Int32))])
              refine WGo.st (fun _ q => XS.goto S214.here hx rfl (pc0 := 315) (pc' := 319) rfl (hb hby at_315) (by decide) (by decide) q) ?_
              show WGo _ _ _ _ _ _ _ _ T213 (mkF m 319 #[.val (.int p1), .val (.int p2), .val (.int p3), .val (.int p4), .val (.int v6), .val (.ref aS), .val (.ref aP), .val (.ref aD), .val (.ref aT), .val (.ref aA), .val (.ref aE), .val (.ref aO), .val (.int r), .val (.int b213), .val (.int b236), .val (.int b260), .val (.int x3)] [(.int (1 : Int32))])
              refine w_retZ S214 hret (hb hby at_319) (by decide) (by decide) (by decide) ?_
              exact rfl
            by_cases c296 : v6 < (1 : Int32)
            · refine WGo.st (fun _ q => XS.icmpNo S211.here hx rfl (hb hby at_296) rfl (tlt c296).2.1 q) ?_
              show WGo _ _ _ _ _ _ _ _ T210 (mkF m 299 #[.val (.int p1), .val (.int p2), .val (.int p3), .val (.int p4), .val (.int v6), .val (.ref aS), .val (.ref aP), .val (.ref aD), .val (.ref aT), .val (.ref aA), .val (.ref aE), .val (.ref aO), .val (.int r), .val (.int b213), .val (.int b236), .val (.int b260), .val (.int x2)] [])
              refine WGo.st (fun _ q => XS.iload S211.here hx rfl (hb hby at_299) rfl q) ?_
              show WGo _ _ _ _ _ _ _ _ T210 (mkF m 301 #[.val (.int p1), .val (.int p2), .val (.int p3), .val (.int p4), .val (.int v6), .val (.ref aS), .val (.ref aP), .val (.ref aD), .val (.ref aT), .val (.ref aA), .val (.ref aE), .val (.ref aO), .val (.int r), .val (.int b213), .val (.int b236), .val (.int b260), .val (.int x2)] [(.int b213)])
              by_cases c301 : b213 = (0 : Int32)
              · refine WGo.st (fun _ q => XS.ifYes S211.here hx rfl (pc0 := 301) (pc' := 307) rfl (hb hby at_301) rfl ((if0 _ _).trans (teq c301).1) (by decide) (by decide) q) ?_
                show WGo _ _ _ _ _ _ _ _ T210 (mkF m 307 #[.val (.int p1), .val (.int p2), .val (.int p3), .val (.int p4), .val (.int v6), .val (.ref aS), .val (.ref aP), .val (.ref aD), .val (.ref aT), .val (.ref aA), .val (.ref aE), .val (.ref aO), .val (.int r), .val (.int b213), .val (.int b236), .val (.int b260), .val (.int x2)] [])
                exact j307_215 T210 x2 S211 (by first | (simp [ex1, ex2, ex3, c296, c301]; done) | (simp [ex1, ex2, ex3, c296]; done))
              · refine WGo.st (fun _ q => XS.ifNo S211.here hx rfl (hb hby at_301) rfl ((if0 _ _).trans (feq c301).1) q) ?_
                show WGo _ _ _ _ _ _ _ _ T210 (mkF m 304 #[.val (.int p1), .val (.int p2), .val (.int p3), .val (.int p4), .val (.int v6), .val (.ref aS), .val (.ref aP), .val (.ref aD), .val (.ref aT), .val (.ref aA), .val (.ref aE), .val (.ref aO), .val (.int r), .val (.int b213), .val (.int b236), .val (.int b260), .val (.int x2)] [])
                refine WGo.st (fun _ q => XS.iconst S211.here hx rfl (hb hby at_304) q) ?_
                show WGo _ _ _ _ _ _ _ _ T210 (mkF m 305 #[.val (.int p1), .val (.int p2), .val (.int p3), .val (.int p4), .val (.int v6), .val (.ref aS), .val (.ref aP), .val (.ref aD), .val (.ref aT), .val (.ref aA), .val (.ref aE), .val (.ref aO), .val (.int r), .val (.int b213), .val (.int b236), .val (.int b260), .val (.int x2)] [(.int (1 : Int32))])
                refine WGo.st (fun _ q => XS.istore S211.here hx rfl (hb hby at_305) rfl (l' := #[.val (.int p1), .val (.int p2), .val (.int p3), .val (.int p4), .val (.int v6), .val (.ref aS), .val (.ref aP), .val (.ref aD), .val (.ref aT), .val (.ref aA), .val (.ref aE), .val (.ref aO), .val (.int r), .val (.int b213), .val (.int b236), .val (.int b260), .val (.int (1 : Int32))]) rfl q) ?_
                show WGo _ _ _ _ _ _ _ _ T210 (mkF m 307 #[.val (.int p1), .val (.int p2), .val (.int p3), .val (.int p4), .val (.int v6), .val (.ref aS), .val (.ref aP), .val (.ref aD), .val (.ref aT), .val (.ref aA), .val (.ref aE), .val (.ref aO), .val (.int r), .val (.int b213), .val (.int b236), .val (.int b260), .val (.int (1 : Int32))] [])
                exact j307_215 T210 (1 : Int32) S211 (by first | (simp [ex1, ex2, ex3, c296, c301]; done) | (simp [ex1, ex2, ex3, c296]; done))
            · refine WGo.st (fun _ q => XS.icmpYes S211.here hx rfl (pc0 := 296) (pc' := 307) rfl (hb hby at_296) rfl (flt c296).2.1 (by decide) (by decide) q) ?_
              show WGo _ _ _ _ _ _ _ _ T210 (mkF m 307 #[.val (.int p1), .val (.int p2), .val (.int p3), .val (.int p4), .val (.int v6), .val (.ref aS), .val (.ref aP), .val (.ref aD), .val (.ref aT), .val (.ref aA), .val (.ref aE), .val (.ref aO), .val (.int r), .val (.int b213), .val (.int b236), .val (.int b260), .val (.int x2)] [])
              exact j307_215 T210 x2 S211 (by first | (simp [ex1, ex2, ex3, c296, c301]; done) | (simp [ex1, ex2, ex3, c296]; done))
          by_cases c282 : v6 < (2 : Int32)
          · refine WGo.st (fun _ q => XS.icmpNo S208.here hx rfl (hb hby at_282) rfl (tlt c282).2.1 q) ?_
            show WGo _ _ _ _ _ _ _ _ T207 (mkF m 285 #[.val (.int p1), .val (.int p2), .val (.int p3), .val (.int p4), .val (.int v6), .val (.ref aS), .val (.ref aP), .val (.ref aD), .val (.ref aT), .val (.ref aA), .val (.ref aE), .val (.ref aO), .val (.int r), .val (.int b213), .val (.int b236), .val (.int b260), .val (.int x1)] [])
            refine WGo.st (fun _ q => XS.iload S208.here hx rfl (hb hby at_285) rfl q) ?_
            show WGo _ _ _ _ _ _ _ _ T207 (mkF m 287 #[.val (.int p1), .val (.int p2), .val (.int p3), .val (.int p4), .val (.int v6), .val (.ref aS), .val (.ref aP), .val (.ref aD), .val (.ref aT), .val (.ref aA), .val (.ref aE), .val (.ref aO), .val (.int r), .val (.int b213), .val (.int b236), .val (.int b260), .val (.int x1)] [(.int b236)])
            by_cases c287 : b236 = (0 : Int32)
            · refine WGo.st (fun _ q => XS.ifYes S208.here hx rfl (pc0 := 287) (pc' := 293) rfl (hb hby at_287) rfl ((if0 _ _).trans (teq c287).1) (by decide) (by decide) q) ?_
              show WGo _ _ _ _ _ _ _ _ T207 (mkF m 293 #[.val (.int p1), .val (.int p2), .val (.int p3), .val (.int p4), .val (.int v6), .val (.ref aS), .val (.ref aP), .val (.ref aD), .val (.ref aT), .val (.ref aA), .val (.ref aE), .val (.ref aO), .val (.int r), .val (.int b213), .val (.int b236), .val (.int b260), .val (.int x1)] [])
              exact j293_212 T207 x1 S208 (by first | (simp [ex1, ex2, ex3, c282, c287]; done) | (simp [ex1, ex2, ex3, c282]; done))
            · refine WGo.st (fun _ q => XS.ifNo S208.here hx rfl (hb hby at_287) rfl ((if0 _ _).trans (feq c287).1) q) ?_
              show WGo _ _ _ _ _ _ _ _ T207 (mkF m 290 #[.val (.int p1), .val (.int p2), .val (.int p3), .val (.int p4), .val (.int v6), .val (.ref aS), .val (.ref aP), .val (.ref aD), .val (.ref aT), .val (.ref aA), .val (.ref aE), .val (.ref aO), .val (.int r), .val (.int b213), .val (.int b236), .val (.int b260), .val (.int x1)] [])
              refine WGo.st (fun _ q => XS.iconst S208.here hx rfl (hb hby at_290) q) ?_
              show WGo _ _ _ _ _ _ _ _ T207 (mkF m 291 #[.val (.int p1), .val (.int p2), .val (.int p3), .val (.int p4), .val (.int v6), .val (.ref aS), .val (.ref aP), .val (.ref aD), .val (.ref aT), .val (.ref aA), .val (.ref aE), .val (.ref aO), .val (.int r), .val (.int b213), .val (.int b236), .val (.int b260), .val (.int x1)] [(.int (2 : Int32))])
              refine WGo.st (fun _ q => XS.istore S208.here hx rfl (hb hby at_291) rfl (l' := #[.val (.int p1), .val (.int p2), .val (.int p3), .val (.int p4), .val (.int v6), .val (.ref aS), .val (.ref aP), .val (.ref aD), .val (.ref aT), .val (.ref aA), .val (.ref aE), .val (.ref aO), .val (.int r), .val (.int b213), .val (.int b236), .val (.int b260), .val (.int (2 : Int32))]) rfl q) ?_
              show WGo _ _ _ _ _ _ _ _ T207 (mkF m 293 #[.val (.int p1), .val (.int p2), .val (.int p3), .val (.int p4), .val (.int v6), .val (.ref aS), .val (.ref aP), .val (.ref aD), .val (.ref aT), .val (.ref aA), .val (.ref aE), .val (.ref aO), .val (.int r), .val (.int b213), .val (.int b236), .val (.int b260), .val (.int (2 : Int32))] [])
              exact j293_212 T207 (2 : Int32) S208 (by first | (simp [ex1, ex2, ex3, c282, c287]; done) | (simp [ex1, ex2, ex3, c282]; done))
          · refine WGo.st (fun _ q => XS.icmpYes S208.here hx rfl (pc0 := 282) (pc' := 293) rfl (hb hby at_282) rfl (flt c282).2.1 (by decide) (by decide) q) ?_
            show WGo _ _ _ _ _ _ _ _ T207 (mkF m 293 #[.val (.int p1), .val (.int p2), .val (.int p3), .val (.int p4), .val (.int v6), .val (.ref aS), .val (.ref aP), .val (.ref aD), .val (.ref aT), .val (.ref aA), .val (.ref aE), .val (.ref aO), .val (.int r), .val (.int b213), .val (.int b236), .val (.int b260), .val (.int x1)] [])
            exact j293_212 T207 x1 S208 (by first | (simp [ex1, ex2, ex3, c282, c287]; done) | (simp [ex1, ex2, ex3, c282]; done))
        by_cases c268 : v6 < (3 : Int32)
        · refine WGo.st (fun _ q => XS.icmpNo S205.here hx rfl (hb hby at_268) rfl (tlt c268).2.1 q) ?_
          show WGo _ _ _ _ _ _ _ _ T204 (mkF m 271 #[.val (.int p1), .val (.int p2), .val (.int p3), .val (.int p4), .val (.int v6), .val (.ref aS), .val (.ref aP), .val (.ref aD), .val (.ref aT), .val (.ref aA), .val (.ref aE), .val (.ref aO), .val (.int r), .val (.int b213), .val (.int b236), .val (.int b260), .val (.int (-1 : Int32))] [])
          refine WGo.st (fun _ q => XS.iload S205.here hx rfl (hb hby at_271) rfl q) ?_
          show WGo _ _ _ _ _ _ _ _ T204 (mkF m 273 #[.val (.int p1), .val (.int p2), .val (.int p3), .val (.int p4), .val (.int v6), .val (.ref aS), .val (.ref aP), .val (.ref aD), .val (.ref aT), .val (.ref aA), .val (.ref aE), .val (.ref aO), .val (.int r), .val (.int b213), .val (.int b236), .val (.int b260), .val (.int (-1 : Int32))] [(.int b260)])
          by_cases c273 : b260 = (0 : Int32)
          · refine WGo.st (fun _ q => XS.ifYes S205.here hx rfl (pc0 := 273) (pc' := 279) rfl (hb hby at_273) rfl ((if0 _ _).trans (teq c273).1) (by decide) (by decide) q) ?_
            show WGo _ _ _ _ _ _ _ _ T204 (mkF m 279 #[.val (.int p1), .val (.int p2), .val (.int p3), .val (.int p4), .val (.int v6), .val (.ref aS), .val (.ref aP), .val (.ref aD), .val (.ref aT), .val (.ref aA), .val (.ref aE), .val (.ref aO), .val (.int r), .val (.int b213), .val (.int b236), .val (.int b260), .val (.int (-1 : Int32))] [])
            exact j279_209 T204 (-1 : Int32) S205 (by first | (simp [ex1, ex2, ex3, c268, c273]; done) | (simp [ex1, ex2, ex3, c268]; done))
          · refine WGo.st (fun _ q => XS.ifNo S205.here hx rfl (hb hby at_273) rfl ((if0 _ _).trans (feq c273).1) q) ?_
            show WGo _ _ _ _ _ _ _ _ T204 (mkF m 276 #[.val (.int p1), .val (.int p2), .val (.int p3), .val (.int p4), .val (.int v6), .val (.ref aS), .val (.ref aP), .val (.ref aD), .val (.ref aT), .val (.ref aA), .val (.ref aE), .val (.ref aO), .val (.int r), .val (.int b213), .val (.int b236), .val (.int b260), .val (.int (-1 : Int32))] [])
            refine WGo.st (fun _ q => XS.iconst S205.here hx rfl (hb hby at_276) q) ?_
            show WGo _ _ _ _ _ _ _ _ T204 (mkF m 277 #[.val (.int p1), .val (.int p2), .val (.int p3), .val (.int p4), .val (.int v6), .val (.ref aS), .val (.ref aP), .val (.ref aD), .val (.ref aT), .val (.ref aA), .val (.ref aE), .val (.ref aO), .val (.int r), .val (.int b213), .val (.int b236), .val (.int b260), .val (.int (-1 : Int32))] [(.int (3 : Int32))])
            refine WGo.st (fun _ q => XS.istore S205.here hx rfl (hb hby at_277) rfl (l' := #[.val (.int p1), .val (.int p2), .val (.int p3), .val (.int p4), .val (.int v6), .val (.ref aS), .val (.ref aP), .val (.ref aD), .val (.ref aT), .val (.ref aA), .val (.ref aE), .val (.ref aO), .val (.int r), .val (.int b213), .val (.int b236), .val (.int b260), .val (.int (3 : Int32))]) rfl q) ?_
            show WGo _ _ _ _ _ _ _ _ T204 (mkF m 279 #[.val (.int p1), .val (.int p2), .val (.int p3), .val (.int p4), .val (.int v6), .val (.ref aS), .val (.ref aP), .val (.ref aD), .val (.ref aT), .val (.ref aA), .val (.ref aE), .val (.ref aO), .val (.int r), .val (.int b213), .val (.int b236), .val (.int b260), .val (.int (3 : Int32))] [])
            exact j279_209 T204 (3 : Int32) S205 (by first | (simp [ex1, ex2, ex3, c268, c273]; done) | (simp [ex1, ex2, ex3, c268]; done))
        · refine WGo.st (fun _ q => XS.icmpYes S205.here hx rfl (pc0 := 268) (pc' := 279) rfl (hb hby at_268) rfl (flt c268).2.1 (by decide) (by decide) q) ?_
          show WGo _ _ _ _ _ _ _ _ T204 (mkF m 279 #[.val (.int p1), .val (.int p2), .val (.int p3), .val (.int p4), .val (.int v6), .val (.ref aS), .val (.ref aP), .val (.ref aD), .val (.ref aT), .val (.ref aA), .val (.ref aE), .val (.ref aO), .val (.int r), .val (.int b213), .val (.int b236), .val (.int b260), .val (.int (-1 : Int32))] [])
          exact j279_209 T204 (-1 : Int32) S205 (by first | (simp [ex1, ex2, ex3, c268, c273]; done) | (simp [ex1, ex2, ex3, c268]; done))
      by_cases c244 : ((p3 >>> ((6 : Int32) &&& 31)) &&& (3 : Int32)) = (0 : Int32)
      · refine WGo.st (fun _ q => XS.ifNo S202.here hx rfl (hb hby at_244) rfl ((if0 _ _).trans (teq c244).2) q) ?_
        show WGo _ _ _ _ _ _ _ _ T201 (mkF m 247 #[.val (.int p1), .val (.int p2), .val (.int p3), .val (.int p4), .val (.int v6), .val (.ref aS), .val (.ref aP), .val (.ref aD), .val (.ref aT), .val (.ref aA), .val (.ref aE), .val (.ref aO), .val (.int r), .val (.int b213), .val (.int b236), .unset, .unset] [])
        refine WGo.st (fun _ q => XS.iloadN S202.here hx rfl (hb hby at_247) rfl q) ?_
        show WGo _ _ _ _ _ _ _ _ T201 (mkF m 248 #[.val (.int p1), .val (.int p2), .val (.int p3), .val (.int p4), .val (.int v6), .val (.ref aS), .val (.ref aP), .val (.ref aD), .val (.ref aT), .val (.ref aA), .val (.ref aE), .val (.ref aO), .val (.int r), .val (.int b213), .val (.int b236), .unset, .unset] [(.int p4)])
        refine WGo.st (fun _ q => XS.iconst S202.here hx rfl (hb hby at_248) q) ?_
        show WGo _ _ _ _ _ _ _ _ T201 (mkF m 249 #[.val (.int p1), .val (.int p2), .val (.int p3), .val (.int p4), .val (.int v6), .val (.ref aS), .val (.ref aP), .val (.ref aD), .val (.ref aT), .val (.ref aA), .val (.ref aE), .val (.ref aO), .val (.int r), .val (.int b213), .val (.int b236), .unset, .unset] [(.int (3 : Int32)), (.int p4)])
        refine w_static S202 (y := (⟨"com/example/pathweave/pathweave/routing/PatternDropOffAfterPinLaw", "bit", "(II)Z"⟩ : MethodName)) hown (hw _ (List.mem_of_getElem? (i := 3) rfl)) (hw _ (List.mem_of_getElem? (i := 4) rfl)) (hw _ (List.mem_of_getElem? (i := 5) rfl)) (hw _ (List.mem_of_getElem? (i := 6) rfl)) (by decide) (rm_Bt l Z a0 hw n0 h184 p4 (3 : Int32) S202.ge) (W := 0) (by decide) (by decide) (by decide) (by decide) rfl (by rw [hml]; rfl) (argsL := [(.int p4), (.int (3 : Int32))]) (rest := []) (ps := [.int, .int]) (rt := (some .boolean)) (by decide) rfl rfl rfl (by show 2 * 0 + _ ≤ _; exact Nat.le_of_eq rfl) (hb hby at_249) ?_
        intro T216 h218 w219 S217 q220
        obtain ⟨q220a, q220b⟩ := q220
        subst q220a
        replace q220b := Eq.symm q220b
        subst q220b
        show WGo _ _ _ _ _ _ _ _ T216 (mkF m 252 #[.val (.int p1), .val (.int p2), .val (.int p3), .val (.int p4), .val (.int v6), .val (.ref aS), .val (.ref aP), .val (.ref aD), .val (.ref aT), .val (.ref aA), .val (.ref aE), .val (.ref aO), .val (.int r), .val (.int b213), .val (.int b236), .unset, .unset] [(.int (bitF p4 (3 : Int32)))])
        by_cases c252 : (bitF p4 (3 : Int32)) = (0 : Int32)
        · refine WGo.st (fun _ q => XS.ifYes S217.here hx rfl (pc0 := 252) (pc' := 259) rfl (hb hby at_252) rfl ((if0 _ _).trans (teq c252).1) (by decide) (by decide) q) ?_
          show WGo _ _ _ _ _ _ _ _ T216 (mkF m 259 #[.val (.int p1), .val (.int p2), .val (.int p3), .val (.int p4), .val (.int v6), .val (.ref aS), .val (.ref aP), .val (.ref aD), .val (.ref aT), .val (.ref aA), .val (.ref aE), .val (.ref aO), .val (.int r), .val (.int b213), .val (.int b236), .unset, .unset] [])
          refine WGo.st (fun _ q => XS.iconst S217.here hx rfl (hb hby at_259) q) ?_
          show WGo _ _ _ _ _ _ _ _ T216 (mkF m 260 #[.val (.int p1), .val (.int p2), .val (.int p3), .val (.int p4), .val (.int v6), .val (.ref aS), .val (.ref aP), .val (.ref aD), .val (.ref aT), .val (.ref aA), .val (.ref aE), .val (.ref aO), .val (.int r), .val (.int b213), .val (.int b236), .unset, .unset] [(.int (0 : Int32))])
          exact j260_206 T216 (0 : Int32) S217 (by first | (simp [mm, c244, c252]; done) | (simp [mm, c244]; done))
        · refine WGo.st (fun _ q => XS.ifNo S217.here hx rfl (hb hby at_252) rfl ((if0 _ _).trans (feq c252).1) q) ?_
          show WGo _ _ _ _ _ _ _ _ T216 (mkF m 255 #[.val (.int p1), .val (.int p2), .val (.int p3), .val (.int p4), .val (.int v6), .val (.ref aS), .val (.ref aP), .val (.ref aD), .val (.ref aT), .val (.ref aA), .val (.ref aE), .val (.ref aO), .val (.int r), .val (.int b213), .val (.int b236), .unset, .unset] [])
          refine WGo.st (fun _ q => XS.iconst S217.here hx rfl (hb hby at_255) q) ?_
          show WGo _ _ _ _ _ _ _ _ T216 (mkF m 256 #[.val (.int p1), .val (.int p2), .val (.int p3), .val (.int p4), .val (.int v6), .val (.ref aS), .val (.ref aP), .val (.ref aD), .val (.ref aT), .val (.ref aA), .val (.ref aE), .val (.ref aO), .val (.int r), .val (.int b213), .val (.int b236), .unset, .unset] [(.int (1 : Int32))])
          refine WGo.st (fun _ q => XS.goto S217.here hx rfl (pc0 := 256) (pc' := 260) rfl (hb hby at_256) (by decide) (by decide) q) ?_
          show WGo _ _ _ _ _ _ _ _ T216 (mkF m 260 #[.val (.int p1), .val (.int p2), .val (.int p3), .val (.int p4), .val (.int v6), .val (.ref aS), .val (.ref aP), .val (.ref aD), .val (.ref aT), .val (.ref aA), .val (.ref aE), .val (.ref aO), .val (.int r), .val (.int b213), .val (.int b236), .unset, .unset] [(.int (1 : Int32))])
          exact j260_206 T216 (1 : Int32) S217 (by first | (simp [mm, c244, c252]; done) | (simp [mm, c244]; done))
      · refine WGo.st (fun _ q => XS.ifYes S202.here hx rfl (pc0 := 244) (pc' := 259) rfl (hb hby at_244) rfl ((if0 _ _).trans (feq c244).2) (by decide) (by decide) q) ?_
        show WGo _ _ _ _ _ _ _ _ T201 (mkF m 259 #[.val (.int p1), .val (.int p2), .val (.int p3), .val (.int p4), .val (.int v6), .val (.ref aS), .val (.ref aP), .val (.ref aD), .val (.ref aT), .val (.ref aA), .val (.ref aE), .val (.ref aO), .val (.int r), .val (.int b213), .val (.int b236), .unset, .unset] [])
        refine WGo.st (fun _ q => XS.iconst S202.here hx rfl (hb hby at_259) q) ?_
        show WGo _ _ _ _ _ _ _ _ T201 (mkF m 260 #[.val (.int p1), .val (.int p2), .val (.int p3), .val (.int p4), .val (.int v6), .val (.ref aS), .val (.ref aP), .val (.ref aD), .val (.ref aT), .val (.ref aA), .val (.ref aE), .val (.ref aO), .val (.int r), .val (.int b213), .val (.int b236), .unset, .unset] [(.int (0 : Int32))])
        exact j260_206 T201 (0 : Int32) S202 (by first | (simp [mm, c244, c252]; done) | (simp [mm, c244]; done))
    by_cases c220 : ((p3 >>> ((4 : Int32) &&& 31)) &&& (3 : Int32)) = (0 : Int32)
    · refine WGo.st (fun _ q => XS.ifNo S199.here hx rfl (hb hby at_220) rfl ((if0 _ _).trans (teq c220).2) q) ?_
      show WGo _ _ _ _ _ _ _ _ T198 (mkF m 223 #[.val (.int p1), .val (.int p2), .val (.int p3), .val (.int p4), .val (.int v6), .val (.ref aS), .val (.ref aP), .val (.ref aD), .val (.ref aT), .val (.ref aA), .val (.ref aE), .val (.ref aO), .val (.int r), .val (.int b213), .unset, .unset, .unset] [])
      refine WGo.st (fun _ q => XS.iloadN S199.here hx rfl (hb hby at_223) rfl q) ?_
      show WGo _ _ _ _ _ _ _ _ T198 (mkF m 224 #[.val (.int p1), .val (.int p2), .val (.int p3), .val (.int p4), .val (.int v6), .val (.ref aS), .val (.ref aP), .val (.ref aD), .val (.ref aT), .val (.ref aA), .val (.ref aE), .val (.ref aO), .val (.int r), .val (.int b213), .unset, .unset, .unset] [(.int p4)])
      refine WGo.st (fun _ q => XS.iconst S199.here hx rfl (hb hby at_224) q) ?_
      show WGo _ _ _ _ _ _ _ _ T198 (mkF m 225 #[.val (.int p1), .val (.int p2), .val (.int p3), .val (.int p4), .val (.int v6), .val (.ref aS), .val (.ref aP), .val (.ref aD), .val (.ref aT), .val (.ref aA), .val (.ref aE), .val (.ref aO), .val (.int r), .val (.int b213), .unset, .unset, .unset] [(.int (2 : Int32)), (.int p4)])
      refine w_static S199 (y := (⟨"com/example/pathweave/pathweave/routing/PatternDropOffAfterPinLaw", "bit", "(II)Z"⟩ : MethodName)) hown (hw _ (List.mem_of_getElem? (i := 3) rfl)) (hw _ (List.mem_of_getElem? (i := 4) rfl)) (hw _ (List.mem_of_getElem? (i := 5) rfl)) (hw _ (List.mem_of_getElem? (i := 6) rfl)) (by decide) (rm_Bt l Z a0 hw n0 h184 p4 (2 : Int32) S199.ge) (W := 0) (by decide) (by decide) (by decide) (by decide) rfl (by rw [hml]; rfl) (argsL := [(.int p4), (.int (2 : Int32))]) (rest := []) (ps := [.int, .int]) (rt := (some .boolean)) (by decide) rfl rfl rfl (by show 2 * 0 + _ ≤ _; exact Nat.le_of_eq rfl) (hb hby at_225) ?_
      intro T221 h223 w224 S222 q225
      obtain ⟨q225a, q225b⟩ := q225
      subst q225a
      replace q225b := Eq.symm q225b
      subst q225b
      show WGo _ _ _ _ _ _ _ _ T221 (mkF m 228 #[.val (.int p1), .val (.int p2), .val (.int p3), .val (.int p4), .val (.int v6), .val (.ref aS), .val (.ref aP), .val (.ref aD), .val (.ref aT), .val (.ref aA), .val (.ref aE), .val (.ref aO), .val (.int r), .val (.int b213), .unset, .unset, .unset] [(.int (bitF p4 (2 : Int32)))])
      by_cases c228 : (bitF p4 (2 : Int32)) = (0 : Int32)
      · refine WGo.st (fun _ q => XS.ifYes S222.here hx rfl (pc0 := 228) (pc' := 235) rfl (hb hby at_228) rfl ((if0 _ _).trans (teq c228).1) (by decide) (by decide) q) ?_
        show WGo _ _ _ _ _ _ _ _ T221 (mkF m 235 #[.val (.int p1), .val (.int p2), .val (.int p3), .val (.int p4), .val (.int v6), .val (.ref aS), .val (.ref aP), .val (.ref aD), .val (.ref aT), .val (.ref aA), .val (.ref aE), .val (.ref aO), .val (.int r), .val (.int b213), .unset, .unset, .unset] [])
        refine WGo.st (fun _ q => XS.iconst S222.here hx rfl (hb hby at_235) q) ?_
        show WGo _ _ _ _ _ _ _ _ T221 (mkF m 236 #[.val (.int p1), .val (.int p2), .val (.int p3), .val (.int p4), .val (.int v6), .val (.ref aS), .val (.ref aP), .val (.ref aD), .val (.ref aT), .val (.ref aA), .val (.ref aE), .val (.ref aO), .val (.int r), .val (.int b213), .unset, .unset, .unset] [(.int (0 : Int32))])
        exact j236_203 T221 (0 : Int32) S222 (by first | (simp [mm, c220, c228]; done) | (simp [mm, c220]; done))
      · refine WGo.st (fun _ q => XS.ifNo S222.here hx rfl (hb hby at_228) rfl ((if0 _ _).trans (feq c228).1) q) ?_
        show WGo _ _ _ _ _ _ _ _ T221 (mkF m 231 #[.val (.int p1), .val (.int p2), .val (.int p3), .val (.int p4), .val (.int v6), .val (.ref aS), .val (.ref aP), .val (.ref aD), .val (.ref aT), .val (.ref aA), .val (.ref aE), .val (.ref aO), .val (.int r), .val (.int b213), .unset, .unset, .unset] [])
        refine WGo.st (fun _ q => XS.iconst S222.here hx rfl (hb hby at_231) q) ?_
        show WGo _ _ _ _ _ _ _ _ T221 (mkF m 232 #[.val (.int p1), .val (.int p2), .val (.int p3), .val (.int p4), .val (.int v6), .val (.ref aS), .val (.ref aP), .val (.ref aD), .val (.ref aT), .val (.ref aA), .val (.ref aE), .val (.ref aO), .val (.int r), .val (.int b213), .unset, .unset, .unset] [(.int (1 : Int32))])
        refine WGo.st (fun _ q => XS.goto S222.here hx rfl (pc0 := 232) (pc' := 236) rfl (hb hby at_232) (by decide) (by decide) q) ?_
        show WGo _ _ _ _ _ _ _ _ T221 (mkF m 236 #[.val (.int p1), .val (.int p2), .val (.int p3), .val (.int p4), .val (.int v6), .val (.ref aS), .val (.ref aP), .val (.ref aD), .val (.ref aT), .val (.ref aA), .val (.ref aE), .val (.ref aO), .val (.int r), .val (.int b213), .unset, .unset, .unset] [(.int (1 : Int32))])
        exact j236_203 T221 (1 : Int32) S222 (by first | (simp [mm, c220, c228]; done) | (simp [mm, c220]; done))
    · refine WGo.st (fun _ q => XS.ifYes S199.here hx rfl (pc0 := 220) (pc' := 235) rfl (hb hby at_220) rfl ((if0 _ _).trans (feq c220).2) (by decide) (by decide) q) ?_
      show WGo _ _ _ _ _ _ _ _ T198 (mkF m 235 #[.val (.int p1), .val (.int p2), .val (.int p3), .val (.int p4), .val (.int v6), .val (.ref aS), .val (.ref aP), .val (.ref aD), .val (.ref aT), .val (.ref aA), .val (.ref aE), .val (.ref aO), .val (.int r), .val (.int b213), .unset, .unset, .unset] [])
      refine WGo.st (fun _ q => XS.iconst S199.here hx rfl (hb hby at_235) q) ?_
      show WGo _ _ _ _ _ _ _ _ T198 (mkF m 236 #[.val (.int p1), .val (.int p2), .val (.int p3), .val (.int p4), .val (.int v6), .val (.ref aS), .val (.ref aP), .val (.ref aD), .val (.ref aT), .val (.ref aA), .val (.ref aE), .val (.ref aO), .val (.int r), .val (.int b213), .unset, .unset, .unset] [(.int (0 : Int32))])
      exact j236_203 T198 (0 : Int32) S199 (by first | (simp [mm, c220, c228]; done) | (simp [mm, c220]; done))
  by_cases c197 : ((p3 >>> ((2 : Int32) &&& 31)) &&& (3 : Int32)) = (0 : Int32)
  · refine WGo.st (fun _ q => XS.ifNo S194.here hx rfl (hb hby at_197) rfl ((if0 _ _).trans (teq c197).2) q) ?_
    show WGo _ _ _ _ _ _ _ _ T193 (mkF m 200 #[.val (.int p1), .val (.int p2), .val (.int p3), .val (.int p4), .val (.int v6), .val (.ref aS), .val (.ref aP), .val (.ref aD), .val (.ref aT), .val (.ref aA), .val (.ref aE), .val (.ref aO), .val (.int r), .unset, .unset, .unset, .unset] [])
    refine WGo.st (fun _ q => XS.iloadN S194.here hx rfl (hb hby at_200) rfl q) ?_
    show WGo _ _ _ _ _ _ _ _ T193 (mkF m 201 #[.val (.int p1), .val (.int p2), .val (.int p3), .val (.int p4), .val (.int v6), .val (.ref aS), .val (.ref aP), .val (.ref aD), .val (.ref aT), .val (.ref aA), .val (.ref aE), .val (.ref aO), .val (.int r), .unset, .unset, .unset, .unset] [(.int p4)])
    refine WGo.st (fun _ q => XS.iconst S194.here hx rfl (hb hby at_201) q) ?_
    show WGo _ _ _ _ _ _ _ _ T193 (mkF m 202 #[.val (.int p1), .val (.int p2), .val (.int p3), .val (.int p4), .val (.int v6), .val (.ref aS), .val (.ref aP), .val (.ref aD), .val (.ref aT), .val (.ref aA), .val (.ref aE), .val (.ref aO), .val (.int r), .unset, .unset, .unset, .unset] [(.int (1 : Int32)), (.int p4)])
    refine w_static S194 (y := (⟨"com/example/pathweave/pathweave/routing/PatternDropOffAfterPinLaw", "bit", "(II)Z"⟩ : MethodName)) hown (hw _ (List.mem_of_getElem? (i := 3) rfl)) (hw _ (List.mem_of_getElem? (i := 4) rfl)) (hw _ (List.mem_of_getElem? (i := 5) rfl)) (hw _ (List.mem_of_getElem? (i := 6) rfl)) (by decide) (rm_Bt l Z a0 hw n0 h184 p4 (1 : Int32) S194.ge) (W := 0) (by decide) (by decide) (by decide) (by decide) rfl (by rw [hml]; rfl) (argsL := [(.int p4), (.int (1 : Int32))]) (rest := []) (ps := [.int, .int]) (rt := (some .boolean)) (by decide) rfl rfl rfl (by show 2 * 0 + _ ≤ _; exact Nat.le_of_eq rfl) (hb hby at_202) ?_
    intro T226 h228 w229 S227 q230
    obtain ⟨q230a, q230b⟩ := q230
    subst q230a
    replace q230b := Eq.symm q230b
    subst q230b
    show WGo _ _ _ _ _ _ _ _ T226 (mkF m 205 #[.val (.int p1), .val (.int p2), .val (.int p3), .val (.int p4), .val (.int v6), .val (.ref aS), .val (.ref aP), .val (.ref aD), .val (.ref aT), .val (.ref aA), .val (.ref aE), .val (.ref aO), .val (.int r), .unset, .unset, .unset, .unset] [(.int (bitF p4 (1 : Int32)))])
    by_cases c205 : (bitF p4 (1 : Int32)) = (0 : Int32)
    · refine WGo.st (fun _ q => XS.ifYes S227.here hx rfl (pc0 := 205) (pc' := 212) rfl (hb hby at_205) rfl ((if0 _ _).trans (teq c205).1) (by decide) (by decide) q) ?_
      show WGo _ _ _ _ _ _ _ _ T226 (mkF m 212 #[.val (.int p1), .val (.int p2), .val (.int p3), .val (.int p4), .val (.int v6), .val (.ref aS), .val (.ref aP), .val (.ref aD), .val (.ref aT), .val (.ref aA), .val (.ref aE), .val (.ref aO), .val (.int r), .unset, .unset, .unset, .unset] [])
      refine WGo.st (fun _ q => XS.iconst S227.here hx rfl (hb hby at_212) q) ?_
      show WGo _ _ _ _ _ _ _ _ T226 (mkF m 213 #[.val (.int p1), .val (.int p2), .val (.int p3), .val (.int p4), .val (.int v6), .val (.ref aS), .val (.ref aP), .val (.ref aD), .val (.ref aT), .val (.ref aA), .val (.ref aE), .val (.ref aO), .val (.int r), .unset, .unset, .unset, .unset] [(.int (0 : Int32))])
      exact j213_200 T226 (0 : Int32) S227 (by first | (simp [mm, c197, c205]; done) | (simp [mm, c197]; done))
    · refine WGo.st (fun _ q => XS.ifNo S227.here hx rfl (hb hby at_205) rfl ((if0 _ _).trans (feq c205).1) q) ?_
      show WGo _ _ _ _ _ _ _ _ T226 (mkF m 208 #[.val (.int p1), .val (.int p2), .val (.int p3), .val (.int p4), .val (.int v6), .val (.ref aS), .val (.ref aP), .val (.ref aD), .val (.ref aT), .val (.ref aA), .val (.ref aE), .val (.ref aO), .val (.int r), .unset, .unset, .unset, .unset] [])
      refine WGo.st (fun _ q => XS.iconst S227.here hx rfl (hb hby at_208) q) ?_
      show WGo _ _ _ _ _ _ _ _ T226 (mkF m 209 #[.val (.int p1), .val (.int p2), .val (.int p3), .val (.int p4), .val (.int v6), .val (.ref aS), .val (.ref aP), .val (.ref aD), .val (.ref aT), .val (.ref aA), .val (.ref aE), .val (.ref aO), .val (.int r), .unset, .unset, .unset, .unset] [(.int (1 : Int32))])
      refine WGo.st (fun _ q => XS.goto S227.here hx rfl (pc0 := 209) (pc' := 213) rfl (hb hby at_209) (by decide) (by decide) q) ?_
      show WGo _ _ _ _ _ _ _ _ T226 (mkF m 213 #[.val (.int p1), .val (.int p2), .val (.int p3), .val (.int p4), .val (.int v6), .val (.ref aS), .val (.ref aP), .val (.ref aD), .val (.ref aT), .val (.ref aA), .val (.ref aE), .val (.ref aO), .val (.int r), .unset, .unset, .unset, .unset] [(.int (1 : Int32))])
      exact j213_200 T226 (1 : Int32) S227 (by first | (simp [mm, c197, c205]; done) | (simp [mm, c197]; done))
  · refine WGo.st (fun _ q => XS.ifYes S194.here hx rfl (pc0 := 197) (pc' := 212) rfl (hb hby at_197) rfl ((if0 _ _).trans (feq c197).2) (by decide) (by decide) q) ?_
    show WGo _ _ _ _ _ _ _ _ T193 (mkF m 212 #[.val (.int p1), .val (.int p2), .val (.int p3), .val (.int p4), .val (.int v6), .val (.ref aS), .val (.ref aP), .val (.ref aD), .val (.ref aT), .val (.ref aA), .val (.ref aE), .val (.ref aO), .val (.int r), .unset, .unset, .unset, .unset] [])
    refine WGo.st (fun _ q => XS.iconst S194.here hx rfl (hb hby at_212) q) ?_
    show WGo _ _ _ _ _ _ _ _ T193 (mkF m 213 #[.val (.int p1), .val (.int p2), .val (.int p3), .val (.int p4), .val (.int v6), .val (.ref aS), .val (.ref aP), .val (.ref aD), .val (.ref aT), .val (.ref aA), .val (.ref aE), .val (.ref aO), .val (.int r), .unset, .unset, .unset, .unset] [(.int (0 : Int32))])
    exact j213_200 T193 (0 : Int32) S194 (by first | (simp [mm, c197, c205]; done) | (simp [mm, c197]; done))
set_option maxRecDepth 65536 in
set_option maxHeartbeats 40000000 in
theorem comes_1 {Post : Tables → Env → Array Value → State → Outcome → State → Prop} (hpost : ∀ tb e args s v u, (limb_1_1.after args s (.returned v) u = true ∧ limb_1_2.after args s (.returned v) u = true ∧ True) → FrameEnd s (.returned v) u (Jvm.fieldLocs frame_1_writes args s ++ Jvm.arrayLocs frame_1_arrays args s ++ Jvm.staticLocs frame_1_statics s) 24 128 → Post tb e args s (.returned v) u) :
    ArmFor flags0 classFile x code maxLocals ret World_1 tables_1 room_1 Calls_1 rest_1 Pre_1 Post := by
  intro l hfl _ _ p e ha hc hk s m args below hf hA hF happ hP
  obtain ⟨hcalls, hrest, hpre⟩ := hP
  obtain ⟨-, -, -, hnamed, -, -, -, hat⟩ := (Spec.applies_iff hf).mp happ
  obtain ⟨hg, hn⟩ := and_e (Cond.before_iff.mp (show (Jvm.Cond.and given_1 narrow_1).before args s = true from hpre))
  obtain ⟨hcount, hg0⟩ := and_e hg
  obtain ⟨ha0, hg1⟩ := and_e hg0
  obtain ⟨ha1, hg2⟩ := and_e hg1
  obtain ⟨ha2, hg3⟩ := and_e hg2
  obtain ⟨w0, w1, w2, w3, rfl⟩ : ∃ (w0 : Value) (w1 : Value) (w2 : Value) (w3 : Value), args = #[w0, w1, w2, w3] := by
    have hs : args.size = 4 := by simpa [Cond.value, given_1] using hcount
    obtain ⟨L⟩ := args
    match L, hs with
    | [w0, w1, w2, w3], _ => exact ⟨w0, w1, w2, w3, rfl⟩
  have hw := fun d (hd : d ∈ tables_1) => atoms_spec (ws := Jvm.Cond.code x code maxLocals ret :: tables_1) hat d (List.mem_cons_of_mem _ hd)
  obtain ⟨i0, e0⟩ := is_v ha0
  obtain rfl : w0 = (.int i0) := Option.some.inj e0
  obtain ⟨i1, e1⟩ := is_v ha1
  obtain rfl : w1 = (.int i1) := Option.some.inj e1
  obtain ⟨i2, e2⟩ := is_v ha2
  obtain rfl : w2 = (.int i2) := Option.some.inj e2
  obtain ⟨i3, e3⟩ := is_v hg3
  obtain rfl : w3 = (.int i3) := Option.some.inj e3
  obtain ⟨n, o, h1, h2, h3, _, L, rfl, ⟨hQ, N⟩, hq⟩ := rm_0 l s _ hw s.heap.size s.heap i0 i1 i2 i3  (Nat.le_refl _)  p e ha hc hk s m _ below hf ((Spec.applies_iff_loose hf).mp happ).1 ⟨rfl, State.Warmed39.refl s, rfl⟩ trivial
  obtain rfl := hQ
  refine ⟨n, _, h1, h2, h3, hpost _ _ _ _ _ _ ⟨Cond.after_iff.mpr rfl, Cond.after_iff.mpr (eq_i res_at (Term.int_eval (1)) rfl), trivial⟩ ⟨hq.1, hq.2.1, (hq.2.2.sift fun y hy => Or.inr (N y hy)).mono (by decide) (by decide)⟩⟩
theorem main_1_1 : Claimed_1_1 := comes_1 fun _ _ _ _ _ _ h hF => ⟨h.1, hF⟩
theorem main_1_2 : Claimed_1_2 := comes_1 fun _ _ _ _ _ _ h hF => ⟨h.2.1, hF⟩
end Jvm.Pilot.@@N@@
namespace Jvm.Pilot.@@N@@
open Jvm Jvm.ClassFile Sem Op Lib Jvm.Free Jvm.Stand Jvm.Pilot.@@N@@.Jvm.D
/-! MADE BY PROGRAM (witnessworld.py) out of the Statement's table words and the real class files: 11 classes; the members and pool entries that the words name. The judged class is class 1, her method 2. -/
namespace start1
open Jvm.ClassFile
def u (s : String) : CpInfo := .utf8 (stringToUtf16 s)
/-- a pool by its gaps: so many unusable entries, then the entry; so many at the end -/
def gap : Nat → List CpInfo → List CpInfo
  | 0, r => r
  | n + 1, r => .unusable :: gap n r
def poolList (es : List (Nat × CpInfo)) (last : Nat) : List CpInfo := es.foldr (fun e r => gap e.1 (e.2 :: r)) (gap last [])
def pool (es : List (Nat × CpInfo)) (last : Nat) : Array CpInfo := ⟨poolList es last⟩
def fileOf (pool : Array CpInfo) (this : Nat) (attrs : Array Attribute := #[]) (ms : Array MethodInfo := #[]) (fl : Nat := 33) (sup : Nat := 0) (ifs : Array Nat := #[]) (fds : Array FieldInfo := #[]) : ClassFile where
  minorVersion := 0
  majorVersion := 65
  constantPool := pool
  accessFlags := fl
  thisClass := this
  superClass := sup
  interfaces := ifs
  fields := fds
  methods := ms
  attributes := attrs
def plain (name : String) (sup : Option ClassId) : Class where
  name := name
  kind := .ordinary
  loader := none
  accessFlags := 33
  super := sup
  interfaces := #[]
  cf := none
  fields := #[]
  methods := #[]
  instanceTypes := #[]
  staticTypes := #[]
  resolved := #[]
  callSites := []
  init := .initialized
  statics := none
  mirror := none

def pool0 : Array CpInfo := pool [(5, u "<init>"), (0, u "()V"), (1, .class_ 10), (1, u "java/lang/Object")] 113

def k0c0 : Code := { maxStack := 0, maxLocals := 1, code := object_method_1_code, exceptionTable := #[], attributes := #[] }
def k0m0 : Method := { name := "<init>", desc := "()V", sig := { parameters := [], returnType := none }, accessFlags := 1, code := some k0c0 }
/-- java/lang/Object -/
def k0 : Class := { plain "java/lang/Object" none with
  accessFlags := 33
  interfaces := #[]
  cf := some (fileOf pool0 8 #[] #[{ accessFlags := 1, nameIndex := 5, descriptorIndex := 6, attributes := #[] }] 33 0 #[] #[])
  fields := #[]
  methods := #[k0m0]
  instanceTypes := #[]
  staticTypes := #[]
  resolved := Array.replicate 124 none
  statics := none }

def pool1 : Array CpInfo := pool [(2, .class_ 4), (1, u "java/lang/Object"), (0, u "<init>"), (0, u "()V"), (0, .integer 2147483647), (0, .methodref 9 10), (0, .class_ 11), (0, .nameAndType 12 13), (0, u "com/example/pathweave/pathweave/routing/PatternDropOffAfterPinLaw"), (0, u "bit"), (0, u "(II)Z"), (0, .class_ 15), (0, u "com/example/pathweave/pathweave/routing/Pattern"), (0, .methodref 14 17), (0, .nameAndType 5 18), (0, u "(I[I[Z[Z[I[I[I)V"), (0, .methodref 14 20), (0, .nameAndType 21 22), (0, u "dropOffAfter"), (0, u "(II)I"), (3, u "law"), (0, u "(IIII)Z")] 6

def k1m0 : Method := { name := "<init>", desc := "()V", sig := { parameters := [], returnType := none }, accessFlags := 1, code := none }
def k1c1 : Code := { maxStack := 2, maxLocals := 2, code := method_2_code, exceptionTable := #[], attributes := #[] }
def k1m1 : Method := { name := "bit", desc := "(II)Z", sig := { parameters := [.int, .int], returnType := some .boolean }, accessFlags := 10, code := some k1c1 }
def k1c2 : Code := { maxStack := 9, maxLocals := 17, code := code, exceptionTable := #[], attributes := #[] }
def k1m2 : Method := { name := "law", desc := "(IIII)Z", sig := { parameters := [.int, .int, .int, .int], returnType := some .boolean }, accessFlags := 9, code := some k1c2 }
/-- com/example/pathweave/pathweave/routing/PatternDropOffAfterPinLaw -/
def k1 : Class := { plain "com/example/pathweave/pathweave/routing/PatternDropOffAfterPinLaw" (some 0) with
  accessFlags := 49
  interfaces := #[]
  cf := some (fileOf pool1 9 #[] #[{ accessFlags := 1, nameIndex := 5, descriptorIndex := 6, attributes := #[] }, { accessFlags := 10, nameIndex := 12, descriptorIndex := 13, attributes := #[] }, { accessFlags := 9, nameIndex := 26, descriptorIndex := 27, attributes := #[] }] 49 2 #[] #[])
  fields := #[]
  methods := #[k1m0, k1m1, k1m2]
  instanceTypes := #[]
  staticTypes := #[]
  resolved := Array.replicate 34 none
  statics := none }

def pool2 : Array CpInfo := pool [(1, .methodref 2 3), (0, .class_ 4), (0, .nameAndType 5 6), (0, u "java/lang/Object"), (0, u "<init>"), (0, u "()V"), (0, .fieldref 8 9), (0, .class_ 10), (0, .nameAndType 11 12), (0, u "com/example/pathweave/pathweave/routing/Pattern"), (0, u "route"), (0, u "I"), (0, .fieldref 8 14), (0, .nameAndType 15 16), (0, u "stops"), (0, u "[I"), (0, .fieldref 8 18), (0, .nameAndType 19 20), (0, u "pickups"), (0, u "[Z"), (0, .fieldref 8 22), (0, .nameAndType 23 20), (0, u "dropOffs"), (0, .fieldref 8 25), (0, .nameAndType 26 16), (0, u "trips"), (0, .fieldref 8 28), (0, .nameAndType 29 16), (0, u "arrivals"), (0, .fieldref 8 31), (0, .nameAndType 32 16), (0, u "departures"), (3, u "(II)I"), (3, u "(I[I[Z[Z[I[I[I)V"), (16, u "dropOffAfter")] 2

def k2c0 : Code := { maxStack := 2, maxLocals := 8, code := prog_88_method_1_code, exceptionTable := #[], attributes := #[] }
def k2m0 : Method := { name := "<init>", desc := "(I[I[Z[Z[I[I[I)V", sig := { parameters := [.int, (.array .int), (.array .boolean), (.array .boolean), (.array .int), (.array .int), (.array .int)], returnType := none }, accessFlags := 0, code := some k2c0 }
def k2c1 : Code := { maxStack := 2, maxLocals := 4, code := prog_88_method_14_code, exceptionTable := #[], attributes := #[] }
def k2m1 : Method := { name := "dropOffAfter", desc := "(II)I", sig := { parameters := [.int, .int], returnType := some .int }, accessFlags := 0, code := some k2c1 }
/-- com/example/pathweave/pathweave/routing/Pattern -/
def k2 : Class := { plain "com/example/pathweave/pathweave/routing/Pattern" (some 0) with
  accessFlags := 48
  interfaces := #[]
  cf := some (fileOf pool2 8 #[] #[{ accessFlags := 0, nameIndex := 5, descriptorIndex := 40, attributes := #[] }, { accessFlags := 0, nameIndex := 57, descriptorIndex := 36, attributes := #[] }] 48 2 #[] #[{ accessFlags := 18, nameIndex := 11, descriptorIndex := 12, attributes := #[] }, { accessFlags := 18, nameIndex := 15, descriptorIndex := 16, attributes := #[] }, { accessFlags := 18, nameIndex := 26, descriptorIndex := 16, attributes := #[] }, { accessFlags := 18, nameIndex := 29, descriptorIndex := 16, attributes := #[] }, { accessFlags := 18, nameIndex := 32, descriptorIndex := 16, attributes := #[] }, { accessFlags := 18, nameIndex := 19, descriptorIndex := 20, attributes := #[] }, { accessFlags := 18, nameIndex := 23, descriptorIndex := 20, attributes := #[] }])
  fields := #[{ name := "route", type := .int, accessFlags := 18, slot := 0, constantValue := 0 }, { name := "stops", type := (.array .int), accessFlags := 18, slot := 1, constantValue := 0 }, { name := "trips", type := (.array .int), accessFlags := 18, slot := 2, constantValue := 0 }, { name := "arrivals", type := (.array .int), accessFlags := 18, slot := 3, constantValue := 0 }, { name := "departures", type := (.array .int), accessFlags := 18, slot := 4, constantValue := 0 }, { name := "pickups", type := (.array .boolean), accessFlags := 18, slot := 5, constantValue := 0 }, { name := "dropOffs", type := (.array .boolean), accessFlags := 18, slot := 6, constantValue := 0 }]
  methods := #[k2m0, k2m1]
  instanceTypes := #[.int, (.array .int), (.array .int), (.array .int), (.array .int), (.array .boolean), (.array .boolean)]
  staticTypes := #[]
  resolved := Array.replicate 60 none
  statics := none }

def pool3 : Array CpInfo := pool [(1, u "java/lang/Cloneable"), (0, .class_ 1), (0, u "java/lang/Object"), (0, .class_ 3)] 3

/-- java/lang/Cloneable -/
def k3 : Class := { plain "java/lang/Cloneable" (some 0) with
  accessFlags := 1537
  interfaces := #[]
  cf := some (fileOf pool3 2 #[] #[] 1537 4 #[] #[])
  fields := #[]
  methods := #[]
  instanceTypes := #[]
  staticTypes := #[]
  resolved := Array.replicate 8 none
  statics := none }

def pool4 : Array CpInfo := pool [(1, u "java/io/Serializable"), (0, .class_ 1), (0, u "java/lang/Object"), (0, .class_ 3)] 3

/-- java/io/Serializable -/
def k4 : Class := { plain "java/io/Serializable" (some 0) with
  accessFlags := 1537
  interfaces := #[]
  cf := some (fileOf pool4 2 #[] #[] 1537 4 #[] #[])
  fields := #[]
  methods := #[]
  instanceTypes := #[]
  staticTypes := #[]
  resolved := Array.replicate 8 none
  statics := none }

/-- the primitive boolean -/
def k5 : Class := { plain "boolean" none with kind := .primitive 'Z', accessFlags := 0x411 }
/-- [Z -/
def k6 : Class := { plain "[Z" (some 0) with kind := .array 5 .boolean, interfaces := #[3, 4], accessFlags := 1041 }

/-- the primitive byte -/
def k7 : Class := { plain "byte" none with kind := .primitive 'B', accessFlags := 0x411 }
/-- [B -/
def k8 : Class := { plain "[B" (some 0) with kind := .array 7 .byte, interfaces := #[3, 4], accessFlags := 1041 }

/-- the primitive int -/
def k9 : Class := { plain "int" none with kind := .primitive 'I', accessFlags := 0x411 }
/-- [I -/
def k10 : Class := { plain "[I" (some 0) with kind := .array 9 .int, interfaces := #[3, 4], accessFlags := 1041 }

def heap : Heap := #[]
def classes : Array Class := #[k0, k1, k2, k3, k4, k5, k6, k7, k8, k9, k10]
def interned : List (Array UInt16 × Addr) := []
def slotsUsed : Nat := 0
def theMethod : MethodId := ⟨1, 2⟩
def args0 : Array Value := #[.int 5, .int 300, .int 7, .int 1]
def aboutOver (below : List Frame) : State where
  vm := { classes := classes, interned := interned.toArray }
  heap := heap
  slotsUsed := slotsUsed
  threads := #[{ frames := .invoking theMethod args0 :: below }]
def below0 : List Frame := [.native { method := ⟨0, 0⟩, args := #[] }]
def about1 : State := aboutOver below0
def p0 : Program := .bare "" "" ""
def e0 : Env := launch0.env 0 0 0
theorem w_frames : about1.frames = Frame.invoking theMethod args0 :: below0 := rfl
set_option maxRecDepth 65536 in
theorem w_args : argsFit about1.vm theMethod args0 = true := by decide +kernel
set_option maxRecDepth 65536 in
theorem w_heap : heapFits about1 = true := by decide +kernel
set_option maxRecDepth 65536 in
theorem w_runnable : about1.curStatus? = some .runnable := by decide +kernel
set_option maxRecDepth 65536 in
theorem w_alone : about1.alone = true := by decide +kernel
set_option maxRecDepth 65536 in
theorem w_named : about1.methodNamed? x = some theMethod := by decide +kernel
set_option maxRecDepth 65536 in
theorem w_hears : about1.hears theMethod below0 = true := by decide +kernel
set_option maxRecDepth 65536 in
theorem w_ripe : about1.ripe theMethod args0 below0 = true := by decide +kernel
theorem w_running : about1.status = .running := rfl
set_option maxRecDepth 65536 in
theorem w_room : about1.hasRoom e0.platform room_1 = true :=
  launch0.hasRoom_least _ room_1 (by decide +kernel) (by decide +kernel) (by decide +kernel) (by decide +kernel) (by decide +kernel) (by decide +kernel)
theorem allAtoms_all (ts : List Jvm.Cond) (a : Array Jvm.Value) (st : Jvm.State) : (allAtoms ts).before a st = ts.all (fun c => c.before a st) := by
  induction ts with
  | nil => rfl
  | cons c t ih =>
    show (Jvm.Cond.and c (allAtoms t)).before a st = _
    rw [Jvm.Cond.before_and, ih, List.all_cons]
def words1 : List Jvm.Cond := Jvm.Cond.code x code maxLocals ret :: tables_1
/-- a 'code' word, met by the world's own term for the bytes: nothing is compared byte by byte -/
theorem code_word {y : MethodName} {bytes : ByteArray} {mx : Nat} {rt : Option FieldType} {a : Array Value} {s : State} {m : MethodId} {meth : Method} {c : Code} (h1 : s.methodNamed? y = some m) (h2 : s.vm.method? m = some meth) (h3 : meth.code = some c) (h4 : c.code = bytes)
    (h5 : (c.maxLocals == mx && c.exceptionTable.isEmpty && decide (c.maxStack ≤ mostOperands) && decide (meth.sig.returnType = rt) && !meth.locks && decide (parseMethodDescriptor y.desc = some meth.sig)) = true) : (Jvm.Cond.code y bytes mx rt).before a s = true := by
  simp only [Bool.and_eq_true, beq_iff_eq, Bool.not_eq_true', decide_eq_true_eq] at h5
  obtain ⟨⟨⟨⟨⟨g1, g2⟩, g3⟩, g4⟩, g5⟩, g6⟩ := h5
  simp [Cond.before, Cond.holds, Cond.value, h1, h2, h3, h4, g1, g2, g3, g4, g5, g6]
def isCode : Jvm.Cond → Bool
  | .code _ _ _ _ => true
  | _ => false
theorem all_split {L : List Jvm.Cond} {P : Jvm.Cond → Bool} (h1 : L.all (fun c => isCode c || P c) = true) (h2 : ∀ c ∈ L.filter isCode, P c = true) : L.all P = true := by
  refine List.all_eq_true.mpr fun c hc => ?_
  have h := List.all_eq_true.mp h1 c hc
  rcases Bool.eq_false_or_eq_true (isCode c) with hi | hi
  · exact h2 c (List.mem_filter.mpr ⟨hc, hi⟩)
  · simpa [hi] using h
set_option maxRecDepth 65536 in
theorem w_c0 : (Jvm.Cond.code x code maxLocals ret).before args0 about1 = true := code_word (m := ⟨1, 2⟩) (meth := k1m2) (c := k1c2) (by decide +kernel) rfl rfl rfl (by decide +kernel)
set_option maxRecDepth 65536 in
theorem w_c1 : (Jvm.Cond.code ({ cls := "com/example/pathweave/pathweave/routing/PatternDropOffAfterPinLaw", name := "bit", desc := "(II)Z" } : Jvm.MethodName) method_2_code (2 : Nat) (Option.some Jvm.ClassFile.FieldType.boolean)).before args0 about1 = true := code_word (m := ⟨1, 1⟩) (meth := k1m1) (c := k1c1) (by decide +kernel) rfl rfl rfl (by decide +kernel)
set_option maxRecDepth 65536 in
theorem w_c2 : (Jvm.Cond.code ({ cls := "com/example/pathweave/pathweave/routing/Pattern", name := "<init>", desc := "(I[I[Z[Z[I[I[I)V" } : Jvm.MethodName) prog_88_method_1_code (8 : Nat) (Option.none : Option Jvm.ClassFile.FieldType)).before args0 about1 = true := code_word (m := ⟨2, 0⟩) (meth := k2m0) (c := k2c0) (by decide +kernel) rfl rfl rfl (by decide +kernel)
set_option maxRecDepth 65536 in
theorem w_c3 : (Jvm.Cond.code ({ cls := "java/lang/Object", name := "<init>", desc := "()V" } : Jvm.MethodName) object_method_1_code (1 : Nat) (Option.none : Option Jvm.ClassFile.FieldType)).before args0 about1 = true := code_word (m := ⟨0, 0⟩) (meth := k0m0) (c := k0c0) (by decide +kernel) rfl rfl rfl (by decide +kernel)
set_option maxRecDepth 65536 in
theorem w_c4 : (Jvm.Cond.code ({ cls := "com/example/pathweave/pathweave/routing/Pattern", name := "dropOffAfter", desc := "(II)I" } : Jvm.MethodName) prog_88_method_14_code (4 : Nat) (Option.some Jvm.ClassFile.FieldType.int)).before args0 about1 = true := code_word (m := ⟨2, 1⟩) (meth := k2m1) (c := k2c1) (by decide +kernel) rfl rfl rfl (by decide +kernel)
def codes1 : List Jvm.Cond := [Jvm.Cond.code x code maxLocals ret, Jvm.Cond.code ({ cls := "com/example/pathweave/pathweave/routing/PatternDropOffAfterPinLaw", name := "bit", desc := "(II)Z" } : Jvm.MethodName) method_2_code (2 : Nat) (Option.some Jvm.ClassFile.FieldType.boolean), Jvm.Cond.code ({ cls := "com/example/pathweave/pathweave/routing/Pattern", name := "<init>", desc := "(I[I[Z[Z[I[I[I)V" } : Jvm.MethodName) prog_88_method_1_code (8 : Nat) (Option.none : Option Jvm.ClassFile.FieldType), Jvm.Cond.code ({ cls := "java/lang/Object", name := "<init>", desc := "()V" } : Jvm.MethodName) object_method_1_code (1 : Nat) (Option.none : Option Jvm.ClassFile.FieldType), Jvm.Cond.code ({ cls := "com/example/pathweave/pathweave/routing/Pattern", name := "dropOffAfter", desc := "(II)I" } : Jvm.MethodName) prog_88_method_14_code (4 : Nat) (Option.some Jvm.ClassFile.FieldType.int)]
set_option maxRecDepth 65536 in
theorem codes_eq : words1.filter isCode = codes1 := rfl
theorem w_codes : ∀ c ∈ words1.filter isCode, c.before args0 about1 = true := by
  rw [codes_eq]
  intro c hc
  simp only [codes1, List.mem_cons, List.not_mem_nil, or_false] at hc
  rcases hc with rfl | rfl | rfl | rfl | rfl
  · exact w_c0
  · exact w_c1
  · exact w_c2
  · exact w_c3
  · exact w_c4
set_option maxRecDepth 65536 in
theorem w_t1 : (words1.take 24).all (fun c => isCode c || c.before args0 about1) = true := by decide +kernel
set_option maxRecDepth 65536 in
theorem w_t2 : (words1.drop 24).all (fun c => isCode c || c.before args0 about1) = true := by decide +kernel
theorem w_tables : (allAtoms (Jvm.Cond.code x code maxLocals ret :: tables_1)).before args0 about1 = true := by
  rw [allAtoms_all]
  show words1.all (fun c => c.before args0 about1) = true
  refine all_split ?_ w_codes
  rw [← List.take_append_drop 24 words1, List.all_append, w_t1, w_t2]
  rfl
set_option maxRecDepth 65536 in
theorem w_case : (Jvm.Cond.and given_1 narrow_1).before args0 about1 = true := by decide +kernel
theorem w_applies : (headSpec (Jvm.Cond.code x code maxLocals ret :: tables_1) room_1).applies x e0.platform about1 = true :=
  (Spec.applies_iff w_frames).mpr ⟨w_running, w_runnable, w_alone, w_named, w_hears, w_ripe, w_room, w_tables⟩
theorem atStart : AtStart classFile x code maxLocals ret World_1 tables_1 room_1 Calls_1 rest_1 Pre_1 launch0 p0 e0 about1 theMethod args0 below0 :=
  ⟨lists_1, trivial, launch0.admits_env _ _ _, launch0.least_env, fairChoices_fair.cas, fairChoices_fair.clock, w_frames, w_args, w_heap, w_applies, trivial, trivial, w_case⟩
end start1
theorem witness_1 : WitnessClaimed_1 := ⟨start1.p0, start1.e0, start1.about1, start1.theMethod, start1.args0, start1.below0, start1.atStart⟩
end Jvm.Pilot.@@N@@
