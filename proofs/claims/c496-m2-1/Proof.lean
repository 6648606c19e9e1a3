import JvmDerived
import JvmDerived.Pilot.@@N@@Statement
import JvmDerived.Pilot.@@N@@Code
set_option linter.unusedVariables false
set_option linter.unusedSimpArgs false
namespace Jvm.Pilot.@@N@@
open Jvm Jvm.ClassFile Sem Op Lib Jvm.Free Jvm.Stand Jvm.LawKit Jvm.RoadKit Bundle Jvm.Pilot.@@N@@.Jvm.D
section Core
variable {p : Program} {l : Launch} {e : Env} {R : Room} {s : State} {m : MethodId} {args : Array Value} {below : List Frame} {meth : Method} {c : Code} {Z : State} {n0 : Nat} {T : State} {h : Heap} {k n : Nat} {Q : Option Value → Heap → Prop} {K N : Nat} {a0 : Array Value}
/-- where a walk stands: the state T, its heap h, k cells and n slots made so far; every place that was written is new -/
def WSt (p : Program) (l : Launch) (e : Env) (R : Room) (s : State) (m : MethodId) (args : Array Value) (below : List Frame) (meth : Method) (c : Code) (Z : State) (n0 : Nat) (T : State) (h : Heap) (k n : Nat) : Prop :=
  ∃ locs, Stand p l e R s m args below meth c T locs k n ∧ T.heap = h ∧ Fr n0 locs ∧ n0 ≤ s.heap.size ∧ p.tables.exec = Jvm.exec ∧ Z.Warmed39 s.vm ∧ meth.locks = false
/-- from here the invocation returns, and what it leaves answers to Q -/
def WGo (p : Program) (e : Env) (below : List Frame) (s : State) (n0 : Nat) (Q : Option Value → Heap → Prop) (K N : Nat) (T : State) (g : JFrame) : Prop :=
  ∃ s₂ o, Steps p.tables e below (T.setTop g) s₂ ∧ s₂.status = .running ∧ Ended s₂ below o ∧ ∃ v L, o = .returned v ∧ (Q v s₂.heap ∧ Fr n0 L) ∧ FrameEnd s o s₂ L K N
/-- a body's contract at one heap and one list of arguments -/
def WCon (l : Launch) (Z : State) (n0 : Nat) (h0 : Heap) (y : MethodName) (bytes : ByteArray) (maxL : Nat) (ret : Option FieldType) (ws : List Jvm.Cond) (rm : Room) (as : Array Value) (Q : Option Value → Heap → Prop) : Prop :=
  MetFree l y (head1 (Jvm.Cond.code y bytes maxL ret :: ws) rm) (fun a U => a = as ∧ Z.Warmed39 U.vm ∧ U.heap = h0) (fun _ _ _ _ _ => True) (fun _ U o U' => ∃ v L, o = .returned v ∧ (Q v U'.heap ∧ Fr n0 L) ∧ FrameEnd U o U' L rm.cells rm.slots)

theorem WSt.here (S : WSt p l e R s m args below meth c Z n0 T h k n) : At T m c below := by obtain ⟨_, X, _⟩ := S; exact X.here
theorem WSt.eT (S : WSt p l e R s m args below meth c Z n0 T h k n) : T.heap = h := by obtain ⟨_, _, q, _⟩ := S; exact q
theorem WSt.ge (S : WSt p l e R s m args below meth c Z n0 T h k n) : n0 ≤ h.size := by
  obtain ⟨_, X, q, _, r, _⟩ := S
  have h1 : s.heap.size ≤ T.heap.size := X.same.2.1
  rw [← q]; omega
theorem WGo.st {T' : State} {g g' : JFrame} (q : ∀ t, Steps p.tables e below (T'.setTop g') t → Steps p.tables e below (T.setTop g) t) (r : WGo p e below s n0 Q K N T' g') : WGo p e below s n0 Q K N T g := by
  obtain ⟨s2, o, h1, r⟩ := r
  exact ⟨s2, o, q _ h1, r⟩
theorem WGo.cast {g g' : JFrame} (q : g = g') (r : WGo p e below s n0 Q K N T g') : WGo p e below s n0 Q K N T g := q ▸ r
theorem WCon.of {y : MethodName} {bytes : ByteArray} {maxL : Nat} {ret : Option FieldType} {ws : List Jvm.Cond} {rm : Room} {as : Array Value} {h0 : Heap} (hp : plainFor y = true) (hn0 : n0 ≤ h0.size)
    (body : ∀ (p : Program) (e : Env) (s : State) (m : MethodId) (below : List Frame) (meth : Method) (c : Code) (T : State), p.tables.exec = Jvm.exec → Z.Warmed39 s.vm → c.code = bytes → c.maxLocals = maxL → s.vm.findClass y.cls = some m.cls → meth.name = y.name → meth.sig.returnType = ret → WSt p l e rm s m as below meth c Z n0 T h0 0 0 → WGo p e below s n0 Q rm.cells rm.slots T (entryFrame m as maxL)) :
    WCon l Z n0 h0 y bytes maxL ret ws rm as Q := by
  refine MetFree.of_bodySF hp hisR ?_
  intro p e s m args below meth c s₁ Bd hml0 hP hK
  obtain ⟨rfl, hZ, hh⟩ := hP
  have X0 := Stand.of_body Bd
  exact body p e s m below meth c s₁ Bd.exec hZ Bd.bytes hml0 (findClass_of_methodNamed Bd.named) (name_of_methodNamed Bd.named Bd.method).1 Bd.returns ⟨[], X0, by rw [← hh, Bd.state]; rfl, Fr.nil _, by rw [hh]; exact hn0, Bd.exec, hZ, Bd.notSynchronized⟩
/-- the returns -/
theorem w_ret (S : WSt p l e R s m args below meth c Z n0 T h k n) {t : FieldType} {w : Value} {i : Instr} {pc : Nat} {Ls : Array Slot} {rest : List Value} (hret : meth.sig.returnType = some t) (hnw : narrow t w = w)
    (hi : (i = .ireturn ∧ (t = .int ∨ t = .boolean ∨ t = .byte ∨ t = .char ∨ t = .short) ∧ ∃ z, w = .int z) ∨ (i = .lreturn ∧ t = .long ∧ ∃ z, w = .long z) ∨ (i = .dreturn ∧ t = .double ∧ ∃ z, w = .double z) ∨ (i = .freturn ∧ t = .float ∧ ∃ z, w = .float z) ∨ (i = .areturn ∧ t.isReference = true ∧ w.isRef = true))
    (hd : decode c.code pc = .ok (i, 1)) (hk : k ≤ K) (hn : n ≤ N) (hQ : Q (some w) h) : WGo p e below s n0 Q K N T (mkF m pc Ls (w :: rest)) := by
  obtain ⟨locs, X, e1, N1, -, hx, hZ, hlk⟩ := S
  obtain ⟨fs, hr, hrun, hended, hW, hsame⟩ := X.leave (v := some w) (fun q => by rw [hret] at q; cases q) hlk
  refine ⟨_, _, retOut X hx hret hnw hi hd hr, hrun, hended, _, locs, rfl, ⟨?_, N1⟩, ⟨_, rfl⟩, hW, hsame.mono hk hn⟩
  show Q (some w) T.heap
  rw [e1]; exact hQ
theorem w_retI (S : WSt p l e R s m args below meth c Z n0 T h k n) {z : Int32} {pc : Nat} {Ls : Array Slot} {rest : List Value} (hret : meth.sig.returnType = some .int) (hd : decode c.code pc = .ok (.ireturn, 1)) (hk : k ≤ K) (hn : n ≤ N) (hQ : Q (some (.int z)) h) : WGo p e below s n0 Q K N T (mkF m pc Ls (.int z :: rest)) :=
  w_ret S hret rfl (Or.inl ⟨rfl, Or.inl rfl, _, rfl⟩) hd hk hn hQ
theorem w_retZ (S : WSt p l e R s m args below meth c Z n0 T h k n) {z : Int32} {pc : Nat} {Ls : Array Slot} {rest : List Value} (hret : meth.sig.returnType = some .boolean) (hd : decode c.code pc = .ok (.ireturn, 1)) (hz : z = 0 ∨ z = 1) (hk : k ≤ K) (hn : n ≤ N) (hQ : Q (some (.int z)) h) : WGo p e below s n0 Q K N T (mkF m pc Ls (.int z :: rest)) :=
  w_ret S hret (by rcases hz with rfl | rfl <;> rfl) (Or.inl ⟨rfl, Or.inr (Or.inl rfl), _, rfl⟩) hd hk hn hQ
theorem w_retJ (S : WSt p l e R s m args below meth c Z n0 T h k n) {z : Int64} {pc : Nat} {Ls : Array Slot} {rest : List Value} (hret : meth.sig.returnType = some .long) (hd : decode c.code pc = .ok (.lreturn, 1)) (hk : k ≤ K) (hn : n ≤ N) (hQ : Q (some (.long z)) h) : WGo p e below s n0 Q K N T (mkF m pc Ls (.long z :: rest)) :=
  w_ret S hret rfl (Or.inr (Or.inl ⟨rfl, rfl, _, rfl⟩)) hd hk hn hQ
theorem w_retA (S : WSt p l e R s m args below meth c Z n0 T h k n) {t : FieldType} {z : Addr} {pc : Nat} {Ls : Array Slot} {rest : List Value} (hret : meth.sig.returnType = some t) (ht : t.isReference = true) (hnw : narrow t (.ref z) = .ref z) (hd : decode c.code pc = .ok (.areturn, 1)) (hk : k ≤ K) (hn : n ≤ N) (hQ : Q (some (.ref z)) h) : WGo p e below s n0 Q K N T (mkF m pc Ls (.ref z :: rest)) :=
  w_ret S hret hnw (Or.inr (Or.inr (Or.inr (Or.inr ⟨rfl, ht, rfl⟩)))) hd hk hn hQ
theorem w_retV (S : WSt p l e R s m args below meth c Z n0 T h k n) {pc : Nat} {Ls : Array Slot} (hret : meth.sig.returnType = none) (hd : decode c.code pc = .ok (.return_, 1)) (hk : k ≤ K) (hn : n ≤ N) (hQ : Q none h) : WGo p e below s n0 Q K N T (mkF m pc Ls []) := by
  obtain ⟨locs, X, e1, N1, -, hx, hZ, hlk⟩ := S
  obtain ⟨fs, hr, hrun, hended, hW, hsame⟩ := X.leave (v := none) (fun _ => rfl) hlk
  refine ⟨_, _, X.returnOut hx hret hd hr, hrun, hended, _, locs, rfl, ⟨?_, N1⟩, ⟨_, rfl⟩, hW, hsame.mono hk hn⟩
  show Q none T.heap
  rw [e1]; exact hQ
/-- constants, remainder -/
theorem w_ldc (S : WSt p l e R s m args below meth c Z n0 T h k n) {own : String} {index : Nat} {v : Int32} (hown : s.vm.findClass own = some m.cls) (w : (Jvm.Cond.constant own index v).before a0 Z = true) {g : JFrame} (hg : g.method = m) (hd : decode c.code g.pc = .ok (.ldc index, 2))
    (r : WGo p e below s n0 Q K N T { g with pc := g.pc + 2, stack := .int v :: g.stack }) : WGo p e below s n0 Q K N T g := by
  obtain ⟨locs, X, e1, N1, -, hx, hZ, hlk⟩ := S
  exact WGo.st (X.ldcInt hx hown (mvT hZ w) hg hd) r
theorem w_ldc2 (S : WSt p l e R s m args below meth c Z n0 T h k n) {own : String} {index : Nat} {v : Int64} (hown : s.vm.findClass own = some m.cls) (w : (Jvm.Cond.constantLong own index v).before a0 Z = true) {g : JFrame} (hg : g.method = m) (hd : decode c.code g.pc = .ok (.ldc2_w index, 3))
    (r : WGo p e below s n0 Q K N T { g with pc := g.pc + 3, stack := .long v :: g.stack }) : WGo p e below s n0 Q K N T g := by
  obtain ⟨locs, X, e1, N1, -, hx, hZ, hlk⟩ := S
  exact WGo.st (X.ldc2Long hx hown (mvT hZ w) hg hd) r
theorem w_irem (S : WSt p l e R s m args below meth c Z n0 T h k n) {g : JFrame} (hg : g.method = m) {x y : Int32} {rest : List Value} (hd : decode c.code g.pc = .ok (.irem, 1)) (hs : g.stack = .int y :: .int x :: rest) (hy : y ≠ 0)
    (r : WGo p e below s n0 Q K N T { g with pc := g.pc + 1, stack := .int (x % y) :: rest }) : WGo p e below s n0 Q K N T g := by
  obtain ⟨locs, X, e1, N1, -, hx, hZ, hlk⟩ := S
  exact WGo.st (fun _ q => iremM X hx hg hd hs hy q) r
/-- arrays of ints, bytes, booleans, chars: the values in order -/
def AI (Z : State) (h : Heap) (a : Addr) (ty : FieldType) (L : List Int32) : Prop := ∃ cl : Cell, Arr Z h a cl ty ∧ cl.slots = (L.map Value.int).toArray
def gi (L : List Int32) (j : Int32) : Int32 := L.getD j.toNatClampNeg 0
def si (L : List Int32) (j : Int32) (v : Int32) : List Int32 := L.set j.toNatClampNeg v
variable {a b : Addr} {ty : FieldType} {L : List Int32} {h' : Heap} {ws : List Addr}
theorem AI.lt (A : AI Z h a ty L) : a < h.size := by obtain ⟨cl, A, -⟩ := A; exact A.lt
theorem AI.keep (A : AI Z h a ty L) (K : Keep h h' ws) (q : a ∉ ws) : AI Z h' a ty L := by obtain ⟨cl, A, r⟩ := A; exact ⟨cl, ⟨K.2.1 a cl A.1 q, A.2⟩, r⟩
theorem ai_size {cl : Cell} (r : cl.slots = (L.map Value.int).toArray) : cl.slots.size = L.length := by rw [r]; simp
theorem ai_in {cl : Cell} {j : Int32} (r : cl.slots = (L.map Value.int).toArray) (h0 : 0 ≤ j.toInt) (h1 : j.toInt < L.length) : ¬ (j < 0 ∨ cl.slots.size ≤ j.toNatClampNeg) := by
  rw [ai_size r]
  have : (0 : Int32).toInt = 0 := rfl
  simp only [Int32.lt_iff_toInt_lt, Int32.toNatClampNeg]; omega
theorem ai_at {cl : Cell} {j : Int32} (r : cl.slots = (L.map Value.int).toArray) (h0 : 0 ≤ j.toInt) (h1 : j.toInt < L.length) : cl.slots[j.toNatClampNeg]? = some (.int (gi L j)) := by
  have q : j.toNatClampNeg < L.length := by simp only [Int32.toNatClampNeg]; omega
  rw [r]
  simp [gi, q]
theorem keep_ext {h h' : Heap} (E : Ext h h') (ws : List Addr) : Keep h h' ws := (Keep.refl h ws).ext E
theorem ai_new {cl : ClassId} {ty : FieldType} {j : Int32} (hty : defaultValue ty = .int 0) : (newA cl ty j).slots = ((List.replicate j.toNatClampNeg (0 : Int32)).map Value.int).toArray := by
  simp [newA, hty]
theorem w_newarray (S : WSt p l e R s m args below meth c Z n0 T h k n) {aty : ArrayType} (w : (Jvm.Cond.arrayClass (newarray.typeOf aty)).before a0 Z = true) (hty : defaultValue (newarray.typeOf aty) = .int 0) {g : JFrame} (hg : g.method = m) (hd : decode c.code g.pc = .ok (.newarray aty, 2)) {j : Int32} {rest : List Value} (hs : g.stack = .int j :: rest)
    (hj : ¬ j < 0) {cap : Nat} (hcap : j.toNatClampNeg ≤ cap) (hb : cap * 8 ≤ 536870912) (hc : k + 1 ≤ R.cells) (hl : n + cap ≤ R.slots) {L : List Int32} (hL : List.replicate j.toNatClampNeg 0 = L)
    (r : ∀ T' h' a', WSt p l e R s m args below meth c Z n0 T' h' (k + 1) (n + cap) → Keep h h' [] → a' = h.size → n0 ≤ a' → AI Z h' a' (newarray.typeOf aty) L → WGo p e below s n0 Q K N T' { g with pc := g.pc + 2, stack := .ref a' :: rest }) : WGo p e below s n0 Q K N T g := by
  have hge := S.ge
  obtain ⟨locs, X, e1, N1, n1, hx, hZ, hlk⟩ := S
  obtain ⟨T', h', cA, X', e', E', A', st⟩ := newP X hx hZ w e1 hg hd hs hj hcap hb hc hl
  exact WGo.st st (r T' h' _ ⟨locs, X', e', N1, n1, hx, hZ, hlk⟩ (keep_ext E' _) rfl hge ⟨_, A', by rw [ai_new hty, hL]⟩)
theorem w_iaload (S : WSt p l e R s m args below meth c Z n0 T h k n) (A : AI Z h a .int L) {g : JFrame} (hg : g.method = m) (hd : decode c.code g.pc = .ok (.iaload, 1)) {j : Int32} {rest : List Value} (hs : g.stack = .int j :: .ref a :: rest) (h0 : 0 ≤ j.toInt) (h1 : j.toInt < L.length) {v : Int32} (hv : gi L j = v)
    (r : WGo p e below s n0 Q K N T { g with pc := g.pc + 1, stack := .int v :: rest }) : WGo p e below s n0 Q K N T g := by
  subst hv
  obtain ⟨locs, X, e1, N1, n1, hx, hZ, hlk⟩ := S
  obtain ⟨cl, A, q⟩ := A
  exact WGo.st (fun t u => X.iaload hx (j := j) (v := .int (gi L j)) (by rw [e1]; exact A.1) (State.isArrayOf_alike hZ.alike A.2.1) A.2.2 (ai_in q h0 h1) (ai_at q h0 h1) hg hs hd t u) r
theorem w_caload (S : WSt p l e R s m args below meth c Z n0 T h k n) (A : AI Z h a .char L) {g : JFrame} (hg : g.method = m) (hd : decode c.code g.pc = .ok (.caload, 1)) {j : Int32} {rest : List Value} (hs : g.stack = .int j :: .ref a :: rest) (h0 : 0 ≤ j.toInt) (h1 : j.toInt < L.length) {v : Int32} (hv : gi L j = v)
    (r : WGo p e below s n0 Q K N T { g with pc := g.pc + 1, stack := .int v :: rest }) : WGo p e below s n0 Q K N T g := by
  subst hv
  obtain ⟨locs, X, e1, N1, n1, hx, hZ, hlk⟩ := S
  obtain ⟨cl, A, q⟩ := A
  exact WGo.st (fun t u => X.caload hx (j := j) (v := .int (gi L j)) (by rw [e1]; exact A.1) (State.isArrayOf_alike hZ.alike A.2.1) A.2.2 (ai_in q h0 h1) (ai_at q h0 h1) hg hs hd t u) r
theorem w_baload (S : WSt p l e R s m args below meth c Z n0 T h k n) (A : AI Z h a .byte L) {g : JFrame} (hg : g.method = m) (hd : decode c.code g.pc = .ok (.baload, 1)) {j : Int32} {rest : List Value} (hs : g.stack = .int j :: .ref a :: rest) (h0 : 0 ≤ j.toInt) (h1 : j.toInt < L.length) {v : Int32} (hv : gi L j = v)
    (r : WGo p e below s n0 Q K N T { g with pc := g.pc + 1, stack := .int v :: rest }) : WGo p e below s n0 Q K N T g := by
  subst hv
  obtain ⟨locs, X, e1, N1, n1, hx, hZ, hlk⟩ := S
  obtain ⟨cl, A, q⟩ := A
  exact WGo.st (fun t u => X.baloadBytes hx (j := j) (v := .int (gi L j)) (by rw [e1]; exact A.1) (State.isArrayOf_alike hZ.alike A.2.1) A.2.2 (ai_in q h0 h1) (ai_at q h0 h1) hg hs hd t u) r
theorem w_zaload (S : WSt p l e R s m args below meth c Z n0 T h k n) (A : AI Z h a .boolean L) {g : JFrame} (hg : g.method = m) (hd : decode c.code g.pc = .ok (.baload, 1)) {j : Int32} {rest : List Value} (hs : g.stack = .int j :: .ref a :: rest) (h0 : 0 ≤ j.toInt) (h1 : j.toInt < L.length) {v : Int32} (hv : gi L j = v)
    (r : WGo p e below s n0 Q K N T { g with pc := g.pc + 1, stack := .int v :: rest }) : WGo p e below s n0 Q K N T g := by
  subst hv
  obtain ⟨locs, X, e1, N1, n1, hx, hZ, hlk⟩ := S
  obtain ⟨cl, A, q⟩ := A
  exact WGo.st (fun t u => X.baloadBooleans hx (j := j) (v := .int (gi L j)) (by rw [e1]; exact A.1) (State.isArrayOf_alike hZ.alike A.2.1) A.2.2 (ai_in q h0 h1) (ai_at q h0 h1) hg hs hd t u) r
theorem w_arraylength (S : WSt p l e R s m args below meth c Z n0 T h k n) (A : AI Z h a ty L) {g : JFrame} (hg : g.method = m) (hd : decode c.code g.pc = .ok (.arraylength, 1)) {rest : List Value} (hs : g.stack = .ref a :: rest) {z : Int32} (hz : L.length.toInt32 = z)
    (r : WGo p e below s n0 Q K N T { g with pc := g.pc + 1, stack := .int z :: rest }) : WGo p e below s n0 Q K N T g := by
  obtain ⟨locs, X, e1, N1, n1, hx, hZ, hlk⟩ := S
  obtain ⟨cl, A, q⟩ := A
  subst hz
  exact WGo.st (fun t u => X.arraylength hx (by rw [e1]; exact A.1) (State.isArrayOf_alike hZ.alike A.2.1) hg hs hd t (by rw [ai_size q]; exact u)) r
theorem ai_set {cl : Cell} {j x : Int32} (r : cl.slots = (L.map Value.int).toArray) : (cl.setSlot j.toNatClampNeg (.int x)).slots = ((si L j x).map Value.int).toArray := by
  simp [Cell.setSlot, r, si]
theorem w_iastore (S : WSt p l e R s m args below meth c Z n0 T h k n) (A : AI Z h a .int L) (ga : n0 ≤ a) {g : JFrame} (hg : g.method = m) (hd : decode c.code g.pc = .ok (.iastore, 1)) {j x : Int32} {rest : List Value} (hs : g.stack = .int x :: .int j :: .ref a :: rest) (h0 : 0 ≤ j.toInt) (h1 : j.toInt < L.length) {L' : List Int32} (hL : si L j x = L')
    (r : ∀ T' h', WSt p l e R s m args below meth c Z n0 T' h' k n → Keep h h' [a] → AI Z h' a .int L' → WGo p e below s n0 Q K N T' { g with pc := g.pc + 1, stack := rest }) : WGo p e below s n0 Q K N T g := by
  obtain ⟨locs, X, e1, N1, n1, hx, hZ, hlk⟩ := S
  obtain ⟨cl, A, q⟩ := A
  obtain ⟨T', h', X', e', W', st⟩ := stI X hx hZ e1 A (ai_in q h0 h1) hg hs hd
  exact WGo.st st (r T' h' ⟨_, X', e', Fr.snoc X' N1 ga, n1, hx, hZ, hlk⟩ (Keep.of_wr W') ⟨_, A.same W', by rw [ai_set q, hL]⟩)
theorem w_bastore (S : WSt p l e R s m args below meth c Z n0 T h k n) (A : AI Z h a .byte L) (ga : n0 ≤ a) {g : JFrame} (hg : g.method = m) (hd : decode c.code g.pc = .ok (.bastore, 1)) {j x : Int32} {rest : List Value} (hs : g.stack = .int x :: .int j :: .ref a :: rest) (h0 : 0 ≤ j.toInt) (h1 : j.toInt < L.length) {L' : List Int32} (hL : si L j x.toInt8.toInt32 = L')
    (r : ∀ T' h', WSt p l e R s m args below meth c Z n0 T' h' k n → Keep h h' [a] → AI Z h' a .byte L' → WGo p e below s n0 Q K N T' { g with pc := g.pc + 1, stack := rest }) : WGo p e below s n0 Q K N T g := by
  obtain ⟨locs, X, e1, N1, n1, hx, hZ, hlk⟩ := S
  obtain ⟨cl, A, q⟩ := A
  obtain ⟨T', h', X', e', W', st⟩ := stB X hx hZ e1 A (ai_in q h0 h1) hg hs hd
  exact WGo.st st (r T' h' ⟨_, X', e', Fr.snoc X' N1 ga, n1, hx, hZ, hlk⟩ (Keep.of_wr W') ⟨_, A.same W', by rw [ai_set q]; exact hL ▸ rfl⟩)
theorem w_zastore (S : WSt p l e R s m args below meth c Z n0 T h k n) (A : AI Z h a .boolean L) (ga : n0 ≤ a) {g : JFrame} (hg : g.method = m) (hd : decode c.code g.pc = .ok (.bastore, 1)) {j x : Int32} {rest : List Value} (hs : g.stack = .int x :: .int j :: .ref a :: rest) (h0 : 0 ≤ j.toInt) (h1 : j.toInt < L.length) (hb : x = 0 ∨ x = 1) {L' : List Int32} (hL : si L j x = L')
    (r : ∀ T' h', WSt p l e R s m args below meth c Z n0 T' h' k n → Keep h h' [a] → AI Z h' a .boolean L' → WGo p e below s n0 Q K N T' { g with pc := g.pc + 1, stack := rest }) : WGo p e below s n0 Q K N T g := by
  obtain ⟨locs, X, e1, N1, n1, hx, hZ, hlk⟩ := S
  obtain ⟨cl, A, q⟩ := A
  obtain ⟨T', h', X', e', W', st⟩ := stZ X hx hZ e1 A (ai_in q h0 h1) hg hs hd
  have hx1 : nar .boolean x = x := by rcases hb with rfl | rfl <;> rfl
  rw [hx1] at W'
  exact WGo.st st (r T' h' ⟨_, X', e', Fr.snoc X' N1 ga, n1, hx, hZ, hlk⟩ (Keep.of_wr W') ⟨_, A.same W', by rw [ai_set q, hL]⟩)
/-- calls by contract -/
theorem w_static (S : WSt p l e R s m args below meth c Z n0 T h k n) {own : String} {index : Nat} {y : MethodName} {bytes : ByteArray} {maxL : Nat} {ret : Option FieldType} (hown : s.vm.findClass own = some m.cls) (w1 : (Jvm.Cond.methodLink own index y).before a0 Z = true) (w2 : (Jvm.Cond.static y).before a0 Z = true) (w3 : (Jvm.Cond.initialized y.cls).before a0 Z = true) (w4 : (Jvm.Cond.code y bytes maxL ret).before a0 Z = true) (hy : y.cls ≠ "java/lang/invoke/MethodHandle" ∧ y.cls ≠ "java/lang/invoke/VarHandle")
    {rm : Room} {as : Array Value} {Qc : Option Value → Heap → Prop} (C : WCon l Z n0 h y bytes maxL ret [] rm as Qc) {W : Nat} (hf : rm.frames + 1 ≤ R.frames) (hl : W + (maxL + 11) + rm.locals ≤ R.locals) (hc : k + rm.cells ≤ R.cells) (hs : n + rm.slots ≤ R.slots)
    {g : JFrame} (hg : g.method = m) (hsize : g.locals.size = c.maxLocals) {argsL rest : List Value} {ps : List FieldType} {rt : Option FieldType} (hpd : parseMethodDescriptor y.desc = some ⟨ps, rt⟩) (hlen : argsL.length = ps.length) (hstack : g.stack = argsL.reverse ++ rest) (has : argsL.toArray = as) (hW : 2 * g.monitorRoom + (rest.map fun v => v.category).sum ≤ W) (hd : decode c.code g.pc = .ok (.invokestatic index, 3))
    (r : ∀ T' h' v, WSt p l e R s m args below meth c Z n0 T' h' (k + rm.cells) (n + rm.slots) → Qc v h' → WGo p e below s n0 Q K N T' { g with pc := g.pc + 3, stack := v.toList ++ rest }) : WGo p e below s n0 Q K N T g := by
  obtain ⟨locs, X, e1, N1, n1, hx, hZ, hlk⟩ := S
  have B := backOf (W := W) (s := s) (args := args) (R := R) (p := p) (e := e) (below := below) (len := 3) (a0 := a0) (Q := fun v h L => Qc v h ∧ Fr n0 L) C hZ w4 w3 hf hl
  obtain ⟨v, vm1, ⟨T1, L1, k1, m1⟩, -, X1, ⟨Lc, hQ, l1, y1, z1⟩, st⟩ := Jvm.LawKit.callS X hx (y := y) hown (mvT hZ w1) (mvT hZ w2) (mvT hZ w3) (mvT hZ w4) hy B hg hsize (lenOf hpd hlen) hstack hW hd (fun _ _ => ⟨has, e1, hc, hs⟩)
  dsimp only [Pt.U, Pt.locs, Pt.cells, Pt.slots] at X1 l1 y1 z1 st hQ
  subst l1 y1 z1
  exact WGo.st st (r _ _ v ⟨_, X1, rfl, Fr.app N1 hQ.2, n1, hx, hZ, hlk⟩ hQ.1)
theorem w_special (S : WSt p l e R s m args below meth c Z n0 T h k n) {own : String} {index : Nat} {y : MethodName} {bytes : ByteArray} {maxL : Nat} (hyn : y.name = "<init>") (hown : s.vm.findClass own = some m.cls) (w1 : (Jvm.Cond.methodLink own index y).before a0 Z = true) (w2 : (Jvm.Cond.instanceMethod y).before a0 Z = true) (w3 : (Jvm.Cond.initialized y.cls).before a0 Z = true) (w4 : (Jvm.Cond.code y bytes maxL none).before a0 Z = true) (hy : y.cls ≠ "java/lang/invoke/MethodHandle" ∧ y.cls ≠ "java/lang/invoke/VarHandle")
    {rm : Room} {as : Array Value} {Qc : Option Value → Heap → Prop} (C : WCon l Z n0 h y bytes maxL none [] rm as Qc) {W : Nat} (hf : rm.frames + 1 ≤ R.frames) (hl : W + (maxL + 11) + rm.locals ≤ R.locals) (hc : k + rm.cells ≤ R.cells) (hs : n + rm.slots ≤ R.slots)
    {g : JFrame} (hg : g.method = m) (hsize : g.locals.size = c.maxLocals) {argsL rest : List Value} {ps : List FieldType} {rt : Option FieldType} (hpd : parseMethodDescriptor y.desc = some ⟨ps, rt⟩) (hlen : argsL.length = ps.length) (hstack : g.stack = argsL.reverse ++ .ref a :: rest) (has : (Value.ref a :: argsL).toArray = as) (hW : 2 * g.monitorRoom + (rest.map fun v => v.category).sum ≤ W) (hd : decode c.code g.pc = .ok (.invokespecial index, 3))
    (r : ∀ T' h' v, WSt p l e R s m args below meth c Z n0 T' h' (k + rm.cells) (n + rm.slots) → Qc v h' → WGo p e below s n0 Q K N T' { g with pc := g.pc + 3, stack := v.toList ++ rest }) : WGo p e below s n0 Q K N T g := by
  obtain ⟨locs, X, e1, N1, n1, hx, hZ, hlk⟩ := S
  have B := backOf (W := W) (s := s) (args := args) (R := R) (p := p) (e := e) (below := below) (len := 3) (a0 := a0) (Q := fun v h L => Qc v h ∧ Fr n0 L) C hZ w4 w3 hf hl
  obtain ⟨v, vm1, ⟨T1, L1, k1, m1⟩, -, X1, ⟨Lc, hQ, l1, y1, z1⟩, st⟩ := X.specialBack hx (y := y) hyn hown (mvT hZ w1) (mvT hZ w2) (mvT hZ w4) hy B hg hsize (Steps.refl _) (lenOf hpd hlen) hstack hW hd (fun _ _ => ⟨has, e1, hc, hs⟩)
  dsimp only [Pt.U, Pt.locs, Pt.cells, Pt.slots] at X1 l1 y1 z1 st hQ
  subst l1 y1 z1
  exact WGo.st (fun _ q => st.trans q) (r _ _ v ⟨_, X1, rfl, Fr.app N1 hQ.2, n1, hx, hZ, hlk⟩ hQ.1)
theorem w_virtual (S : WSt p l e R s m args below meth c Z n0 T h k n) {own C : String} {index : Nat} {y : MethodName} {bytes : ByteArray} {maxL : Nat} {ret : Option FieldType} (hown : s.vm.findClass own = some m.cls) (w1 : (Jvm.Cond.methodLink own index y).before a0 Z = true) (w2 : (Jvm.Cond.declares y).before a0 Z = true) (w5 : (Jvm.Cond.selects C y y).before a0 Z = true) (w6 : (Jvm.Cond.instanceMethod y).before a0 Z = true) (w3 : (Jvm.Cond.initialized y.cls).before a0 Z = true) (w4 : (Jvm.Cond.code y bytes maxL ret).before a0 Z = true) (hy : y.cls ≠ "java/lang/invoke/MethodHandle" ∧ y.cls ≠ "java/lang/invoke/VarHandle") (E : Exa Z h a C)
    {rm : Room} {as : Array Value} {Qc : Option Value → Heap → Prop} (Cn : WCon l Z n0 h y bytes maxL ret [] rm as Qc) {W : Nat} (hf : rm.frames + 1 ≤ R.frames) (hl : W + (maxL + 11) + rm.locals ≤ R.locals) (hc : k + rm.cells ≤ R.cells) (hs : n + rm.slots ≤ R.slots)
    {g : JFrame} (hg : g.method = m) (hsize : g.locals.size = c.maxLocals) {argsL rest : List Value} {ps : List FieldType} {rt : Option FieldType} (hpd : parseMethodDescriptor y.desc = some ⟨ps, rt⟩) (hlen : argsL.length = ps.length) (hstack : g.stack = argsL.reverse ++ .ref a :: rest) (has : (Value.ref a :: argsL).toArray = as) (hW : 2 * g.monitorRoom + (rest.map fun v => v.category).sum ≤ W) (hd : decode c.code g.pc = .ok (.invokevirtual index, 3))
    (r : ∀ T' h' v, WSt p l e R s m args below meth c Z n0 T' h' (k + rm.cells) (n + rm.slots) → Qc v h' → WGo p e below s n0 Q K N T' { g with pc := g.pc + 3, stack := v.toList ++ rest }) : WGo p e below s n0 Q K N T g := by
  obtain ⟨locs, X, e1, N1, n1, hx, hZ, hlk⟩ := S
  have B := backOf (W := W) (s := s) (args := args) (R := R) (p := p) (e := e) (below := below) (len := 3) (a0 := a0) (Q := fun v h L => Qc v h ∧ Fr n0 L) Cn hZ w4 w3 hf hl
  obtain ⟨cq, kq, qa, qb, qc⟩ := isOf hZ e1 E
  obtain ⟨v, vm1, ⟨T1, L1, k1, m1⟩, -, X1, ⟨Lc, hQ, l1, y1, z1⟩, st⟩ := X.virtualBack hx (y := y) (z := y) hown (mvT hZ w1) (mvT hZ w2) (notFace_of_selects (args := #[]) (mvT hZ w5)) (mvT hZ w5) (mvT hZ w6) hy B qa qc hg hsize (Steps.refl _) (lenOf hpd hlen) hstack hW hd (fun _ _ => ⟨has, e1, hc, hs⟩)
  dsimp only [Pt.U, Pt.locs, Pt.cells, Pt.slots] at X1 l1 y1 z1 st hQ
  subst l1 y1 z1
  exact WGo.st (fun _ q => st.trans q) (r _ _ v ⟨_, X1, rfl, Fr.app N1 hQ.2, n1, hx, hZ, hlk⟩ hQ.1)
theorem w_private (S : WSt p l e R s m args below meth c Z n0 T h k n) {own C : String} {index : Nat} {y z : MethodName} {bytes : ByteArray} {maxL : Nat} {ret : Option FieldType} (hown : s.vm.findClass own = some m.cls) (w1 : (Jvm.Cond.methodLink own index y).before a0 Z = true) (w6 : (Jvm.Cond.instanceMethod y).before a0 Z = true) (w7 : (Jvm.Cond.privateMethod y).before a0 Z = true) (w3 : (Jvm.Cond.initialized y.cls).before a0 Z = true) (w4 : (Jvm.Cond.code y bytes maxL ret).before a0 Z = true) (w5 : (Jvm.Cond.selects z.cls z z).before a0 Z = true) (hzy : z.cls = y.cls) (hy : y.cls ≠ "java/lang/invoke/MethodHandle" ∧ y.cls ≠ "java/lang/invoke/VarHandle") (E : Exa Z h a C)
    {rm : Room} {as : Array Value} {Qc : Option Value → Heap → Prop} (Cn : WCon l Z n0 h y bytes maxL ret [] rm as Qc) {W : Nat} (hf : rm.frames + 1 ≤ R.frames) (hl : W + (maxL + 11) + rm.locals ≤ R.locals) (hc : k + rm.cells ≤ R.cells) (hs : n + rm.slots ≤ R.slots)
    {g : JFrame} (hg : g.method = m) (hsize : g.locals.size = c.maxLocals) {argsL rest : List Value} {ps : List FieldType} {rt : Option FieldType} (hpd : parseMethodDescriptor y.desc = some ⟨ps, rt⟩) (hlen : argsL.length = ps.length) (hstack : g.stack = argsL.reverse ++ .ref a :: rest) (has : (Value.ref a :: argsL).toArray = as) (hW : 2 * g.monitorRoom + (rest.map fun v => v.category).sum ≤ W) (hd : decode c.code g.pc = .ok (.invokevirtual index, 3))
    (r : ∀ T' h' v, WSt p l e R s m args below meth c Z n0 T' h' (k + rm.cells) (n + rm.slots) → Qc v h' → WGo p e below s n0 Q K N T' { g with pc := g.pc + 3, stack := v.toList ++ rest }) : WGo p e below s n0 Q K N T g := by
  obtain ⟨locs, X, e1, N1, n1, hx, hZ, hlk⟩ := S
  have B := backOf (W := W) (s := s) (args := args) (R := R) (p := p) (e := e) (below := below) (len := 3) (a0 := a0) (Q := fun v h L => Qc v h ∧ Fr n0 L) Cn hZ w4 w3 hf hl
  have hpriv := Cond.privateMethod_at (mvP hZ w7 (args := #[]))
  have hsel : (Jvm.Cond.selects y.cls y y).before args s = true := by
    have q5 : (Jvm.Cond.selects z.cls z z).before args s = true := mvT hZ w5
    obtain ⟨c2, r2, m2, -, -, q3, -, kP, hkP, hkPi⟩ := Cond.selects_spec q5
    have hfc := findClass_of_methodNamed q3
    rw [hzy] at hfc
    exact selects_self_of_private hfc hkP hkPi hpriv (mvT hZ w6) hy
  obtain ⟨cq, q1, q2⟩ := E.cell
  obtain ⟨v, vm1, ⟨T1, L1, k1, m1⟩, -, X1, ⟨Lc, hQ, l1, y1, z1⟩, st⟩ := X.privateBack hx (y := y) hown (mvT hZ w1) (mvT hZ w6) hsel hpriv (mvT hZ w4) hy B hg hsize (Steps.refl _) (a := a) (by rw [e1]; exact q1) q2 (lenOf hpd hlen) hstack hW hd (fun _ _ => ⟨has, e1, hc, hs⟩)
  dsimp only [Pt.U, Pt.locs, Pt.cells, Pt.slots] at X1 l1 y1 z1 st hQ
  subst l1 y1 z1
  exact WGo.st (fun _ q => st.trans q) (r _ _ v ⟨_, X1, rfl, Fr.app N1 hQ.2, n1, hx, hZ, hlk⟩ hQ.1)
/-- objects -/
theorem w_objinit (S : WSt p l e R s m args below meth c Z n0 T h k n) {own : String} {idx : Nat} (hown : s.vm.findClass own = some m.cls) (w1 : (Jvm.Cond.methodLink own idx Lib.objectInit).before a0 Z = true) (w2 : (Jvm.Cond.instanceMethod Lib.objectInit).before a0 Z = true) (w3 : (Jvm.Cond.code Lib.objectInit ⟨#[0xb1]⟩ 1 none).before a0 Z = true)
    {g : JFrame} (hg : g.method = m) (hsize : g.locals.size = c.maxLocals) {rest : List Value} (hs : g.stack = .ref a :: rest) (hd : decode c.code g.pc = .ok (.invokespecial idx, 3)) (hf : 1 ≤ R.frames) {W : Nat} (hW : 2 * g.monitorRoom + (rest.map fun v => v.category).sum ≤ W) (hl : W + 12 ≤ R.locals)
    (r : ∀ T', WSt p l e R s m args below meth c Z n0 T' h k n → WGo p e below s n0 Q K N T' { g with pc := g.pc + 3, stack := rest }) : WGo p e below s n0 Q K N T g := by
  obtain ⟨locs, X, e1, N1, n1, hx, hZ, hlk⟩ := S
  obtain ⟨T', X', e', st⟩ := initO X hx hZ hown w1 w2 w3 e1 hg hsize hs hd hf hW hl
  exact WGo.st st (r T' ⟨locs, X', e', N1, n1, hx, hZ, hlk⟩)
theorem w_new (S : WSt p l e R s m args below meth c Z n0 T h k n) {own C : String} {index nn : Nat} (hown : s.vm.findClass own = some m.cls) (w : (Jvm.Cond.classLink own index C).before a0 Z = true) (wi : (Jvm.Cond.instantiable C nn).before a0 Z = true) (wz : (Jvm.Cond.initialized C).before a0 Z = true)
    {g : JFrame} (hg : g.method = m) (hd : decode c.code g.pc = .ok (.new index, 3)) (hc : k + 1 ≤ R.cells) (hl : n + nn ≤ R.slots)
    (r : ∀ T' h' a', WSt p l e R s m args below meth c Z n0 T' h' (k + 1) (n + nn) → Keep h h' [] → a' = h.size → n0 ≤ a' → Exa Z h' a' C → (∀ {O nm d : String} {ty : FieldType}, Laid Z a0 C O nm d → parseFieldDescriptor d = some ty → Fld Z h' a' O nm d (defaultValue ty)) → WGo p e below s n0 Q K N T' { g with pc := g.pc + 3, stack := .ref a' :: g.stack }) : WGo p e below s n0 Q K N T g := by
  have hge := S.ge
  obtain ⟨locs, X, e1, N1, n1, hx, hZ, hlk⟩ := S
  obtain ⟨T', h', X', e', E', A', D', -, st⟩ := newO X hx hZ hown w wi wz e1 hg hd hc hl
  exact WGo.st st (r T' h' _ ⟨locs, X', e', N1, n1, hx, hZ, hlk⟩ (keep_ext E' _) rfl hge A' D')
theorem w_getfield (S : WSt p l e R s m args below meth c Z n0 T h k n) {own R0 O f d : String} {index : Nat} (hown : s.vm.findClass own = some m.cls) (w : (Jvm.Cond.fieldLink own index R0 f d).before a0 Z = true) (via : Via Z R0 O f d) {v : Value} (F : Fld Z h a O f d v) {g : JFrame} (hg : g.method = m) {rest : List Value} (hs : g.stack = .ref a :: rest) (hd : decode c.code g.pc = .ok (.getfield index, 3))
    (r : ∀ T', WSt p l e R s m args below meth c Z n0 T' h k n → WGo p e below s n0 Q K N T' { g with pc := g.pc + 3, stack := v :: rest }) : WGo p e below s n0 Q K N T g := by
  obtain ⟨locs, X, e1, N1, n1, hx, hZ, hlk⟩ := S
  obtain ⟨T', X', e', st⟩ := getF X hx hZ hown (host := "") (Or.inl w) via e1 F hg hs hd
  exact WGo.st st (r T' ⟨locs, X', e', N1, n1, hx, hZ, hlk⟩)
theorem w_putfield (S : WSt p l e R s m args below meth c Z n0 T h k n) {own R0 O f d C : String} {index kk : Nat} {ty : FieldType} (hown : s.vm.findClass own = some m.cls) (w : (Jvm.Cond.fieldLink own index R0 f d).before a0 Z = true) (via : Via Z R0 O f d) {v old : Value} (F : Fld Z h a O f d old) (E : Exa Z h a C)
    (L : (Jvm.Cond.lays C O f d).before a0 Z = true ∨ ((Jvm.Cond.laysFinal C O f d).before a0 Z = true ∧ own = O ∧ meth.name = "<init>")) (wi : (Jvm.Cond.instantiable C kk).before a0 Z = true) (ga : n0 ≤ a)
    (hty : parseFieldDescriptor d = some ty) (hn : narrow ty v = v) (hf : fits ty v = true) {g : JFrame} (hg : g.method = m) {rest : List Value} (hs : g.stack = v :: .ref a :: rest) (hd : decode c.code g.pc = .ok (.putfield index, 3))
    (r : ∀ T' h', WSt p l e R s m args below meth c Z n0 T' h' k n → Wr h h' a (Jvm.RoadKit.slotOf Z O f d) v → Keep h h' [a] → WGo p e below s n0 Q K N T' { g with pc := g.pc + 3, stack := rest }) : WGo p e below s n0 Q K N T g := by
  obtain ⟨locs, X, e1, N1, n1, hx, hZ, hlk⟩ := S
  obtain ⟨T', h', X', e', W', st⟩ := putF X hx hZ hown (host := "") (Or.inl w) via e1 F E L wi hty hn hf hg hs hd
  exact WGo.st st (r T' h' ⟨_, X', e', Fr.snoc X' N1 ga, n1, hx, hZ, hlk⟩ W' (Keep.of_wr W'))
theorem w_getstatic (S : WSt p l e R s m args below meth c Z n0 T h k n) {own R0 O f d : String} {index : Nat} (hown : s.vm.findClass own = some m.cls) (w : (Jvm.Cond.fieldLink own index R0 f d).before a0 Z = true) (via : Via Z R0 O f d) {v : Value} (F : Sta Z h O f d v) {g : JFrame} (hg : g.method = m) (hd : decode c.code g.pc = .ok (.getstatic index, 3))
    (r : ∀ T', WSt p l e R s m args below meth c Z n0 T' h k n → WGo p e below s n0 Q K N T' { g with pc := g.pc + 3, stack := v :: g.stack }) : WGo p e below s n0 Q K N T g := by
  obtain ⟨locs, X, e1, N1, n1, hx, hZ, hlk⟩ := S
  obtain ⟨T', X', e', st⟩ := getS X hx hZ hown (host := "") w via e1 F hg hd
  exact WGo.st st (r T' ⟨locs, X', e', N1, n1, hx, hZ, hlk⟩)
/-- comparisons of longs -/
theorem cl_lt {x y : Int64} (q : x < y) : lcmpW x y = -1 := Int32.toInt_inj.mp ((c_lcmp x y).1 (Int64.lt_iff_toInt_lt.mp q))
theorem cl_eq {x y : Int64} (q : x = y) : lcmpW x y = 0 := Int32.toInt_inj.mp ((c_lcmp x y).2.1 (by rw [q]))
theorem cl_gt {x y : Int64} (q : y < x) : lcmpW x y = 1 := Int32.toInt_inj.mp ((c_lcmp x y).2.2 (Int64.lt_iff_toInt_lt.mp q))
theorem cl_tri (x y : Int64) : x < y ∨ x = y ∨ y < x := by
  simp only [Int64.lt_iff_toInt_lt]
  rcases Int.lt_trichotomy x.toInt y.toInt with q | q | q
  · exact Or.inl q
  · exact Or.inr (Or.inl (Int64.toInt_inj.mp q))
  · exact Or.inr (Or.inr q)
theorem tltJ {x y : Int64} (q : x < y) : ifCond.holds .lt (lcmpW x y) = true ∧ ifCond.holds .ge (lcmpW x y) = false := by rw [cl_lt q]; decide
theorem fltJ {x y : Int64} (q : ¬ x < y) : ifCond.holds .lt (lcmpW x y) = false ∧ ifCond.holds .ge (lcmpW x y) = true := by
  rcases cl_tri x y with r | r | r
  · exact absurd r q
  · rw [cl_eq r]; decide
  · rw [cl_gt r]; decide
theorem tgtJ {x y : Int64} (q : y < x) : ifCond.holds .gt (lcmpW x y) = true ∧ ifCond.holds .le (lcmpW x y) = false := by rw [cl_gt q]; decide
theorem fgtJ {x y : Int64} (q : ¬ y < x) : ifCond.holds .gt (lcmpW x y) = false ∧ ifCond.holds .le (lcmpW x y) = true := by
  rcases cl_tri x y with r | r | r
  · rw [cl_lt r]; decide
  · rw [cl_eq r]; decide
  · exact absurd r q
theorem teqJ {x y : Int64} (q : x = y) : ifCond.holds .eq (lcmpW x y) = true ∧ ifCond.holds .ne (lcmpW x y) = false := by rw [cl_eq q]; decide
theorem feqJ {x y : Int64} (q : ¬ x = y) : ifCond.holds .eq (lcmpW x y) = false ∧ ifCond.holds .ne (lcmpW x y) = true := by
  rcases cl_tri x y with r | r | r
  · rw [cl_lt r]; decide
  · exact absurd r q
  · rw [cl_gt r]; decide
theorem w_dupX2 {tb : Tables} [Ours tb] {target : State} {g : JFrame} (h : At T m c below) (hx : tb.exec = Jvm.exec) (hg : g.method = m) {x y z : Value} {rest : List Value} (hd : decode c.code g.pc = .ok (.dup_x2, 1)) (hs : g.stack = x :: y :: z :: rest) (hc : x.category = 1) (hc1 : y.category = 1) (hc2 : z.category = 1)
    (hr : Steps tb e below (T.setTop { g with pc := g.pc + 1, stack := x :: y :: z :: x :: rest }) target) : Steps tb e below (T.setTop g) target := by
  subst hg
  jvm_step h [h.top, hx, hd, hs, hc, hc1, hc2]
  exact hr
end Core
def sameF (a b c d : Int32) : Int32 := if a = c then (if b = d then 1 else 0) else 0
theorem d_jdk_30_method_1_code_0 : decode jdk_30_method_1_code 0 = .ok (.aload_n 0, 1) := by decide +kernel
theorem d_jdk_30_method_1_code_1 : decode jdk_30_method_1_code 1 = .ok (.invokespecial 1, 3) := by decide +kernel
theorem d_jdk_30_method_1_code_4 : decode jdk_30_method_1_code 4 = .ok (.return_, 1) := by decide +kernel
def QR (Z : State) (n0 : Nat) (h0 : Heap) (a1 : Addr) (v : Option Value) (h : Heap) : Prop := v = none ∧ h = h0
theorem ef_R (m : MethodId) (a1 : Addr) : entryFrame m #[(.ref a1)] 1 = mkF m 0 #[.val (.ref a1)] [] := by first | (simp [entryFrame, mkF, argsToLocals, Value.category, maxLocals]; done) | rfl
set_option maxRecDepth 65536 in
set_option maxHeartbeats 40000000 in
theorem rm_R (l : Launch) (Z : State) (a0 : Array Value) (hw : ∀ d ∈ tables_1, d.before a0 Z = true) (n0 : Nat) (h0 : Heap) (a1 : Addr) (Z0 : n0 ≤ h0.size)  :
    WCon l Z n0 h0 (⟨"java/lang/Record", "<init>", "()V"⟩ : MethodName) jdk_30_method_1_code 1 none [] ({ frames := 1, cells := 0, slots := 0, locals := 12 } : Room) #[(.ref a1)] (QR Z n0 h0 a1) := by
  refine WCon.of (by first | exact plainFor_of_name (by decide +kernel) | decide +kernel) Z0 ?_
  intro p e s m below meth c T hx hZ hby hml hown hnm hret S
  refine WGo.cast (ef_R m a1) ?_
  show WGo _ _ _ _ _ _ _ _ T (mkF m 0 #[.val (.ref a1)] [])
  refine WGo.st (fun _ q => XS.aloadN S.here hx rfl (hb hby d_jdk_30_method_1_code_0) rfl rfl q) ?_
  show WGo _ _ _ _ _ _ _ _ T (mkF m 1 #[.val (.ref a1)] [(.ref a1)])
  refine w_objinit S hown (hw _ (List.mem_of_getElem? (i := 11) rfl)) (hw _ (List.mem_of_getElem? (i := 12) rfl)) (hw _ (List.mem_of_getElem? (i := 13) rfl)) rfl (by rw [hml]; rfl) rfl (hb hby d_jdk_30_method_1_code_1) (by decide) (W := 0) (by show 2 * 0 + _ ≤ _; exact Nat.le_of_eq rfl) (by decide) ?_
  intro T1 S2
  show WGo _ _ _ _ _ _ _ _ T1 (mkF m 4 #[.val (.ref a1)] [])
  refine w_retV S2 hret (hb hby d_jdk_30_method_1_code_4) (by decide) (by decide) ?_
  exact ⟨rfl, rfl⟩
theorem d_prog_87_method_1_code_0 : decode prog_87_method_1_code 0 = .ok (.aload_n 0, 1) := by decide +kernel
theorem d_prog_87_method_1_code_1 : decode prog_87_method_1_code 1 = .ok (.invokespecial 1, 3) := by decide +kernel
theorem d_prog_87_method_1_code_4 : decode prog_87_method_1_code 4 = .ok (.aload_n 0, 1) := by decide +kernel
theorem d_prog_87_method_1_code_5 : decode prog_87_method_1_code 5 = .ok (.iload_n 1, 1) := by decide +kernel
theorem d_prog_87_method_1_code_6 : decode prog_87_method_1_code 6 = .ok (.putfield 7, 3) := by decide +kernel
theorem d_prog_87_method_1_code_9 : decode prog_87_method_1_code 9 = .ok (.aload_n 0, 1) := by decide +kernel
theorem d_prog_87_method_1_code_10 : decode prog_87_method_1_code 10 = .ok (.iload_n 2, 1) := by decide +kernel
theorem d_prog_87_method_1_code_11 : decode prog_87_method_1_code 11 = .ok (.putfield 13, 3) := by decide +kernel
theorem d_prog_87_method_1_code_14 : decode prog_87_method_1_code 14 = .ok (.aload_n 0, 1) := by decide +kernel
theorem d_prog_87_method_1_code_15 : decode prog_87_method_1_code 15 = .ok (.iload_n 3, 1) := by decide +kernel
theorem d_prog_87_method_1_code_16 : decode prog_87_method_1_code 16 = .ok (.putfield 16, 3) := by decide +kernel
theorem d_prog_87_method_1_code_19 : decode prog_87_method_1_code 19 = .ok (.aload_n 0, 1) := by decide +kernel
theorem d_prog_87_method_1_code_20 : decode prog_87_method_1_code 20 = .ok (.iload 4, 2) := by decide +kernel
theorem d_prog_87_method_1_code_22 : decode prog_87_method_1_code 22 = .ok (.putfield 19, 3) := by decide +kernel
theorem d_prog_87_method_1_code_25 : decode prog_87_method_1_code 25 = .ok (.return_, 1) := by decide +kernel
def QP (Z : State) (n0 : Nat) (h0 : Heap) (a1 : Addr) (p2 : Int32) (p3 : Int32) (p4 : Int32) (p5 : Int32) (v : Option Value) (h : Heap) : Prop := v = none ∧ Keep h0 h [a1] ∧ Exa Z h a1 "com/example/pathweave/pathweave/routing/Passage" ∧ Fld Z h a1 "com/example/pathweave/pathweave/routing/Passage" "pattern" "I" (.int p2) ∧ Fld Z h a1 "com/example/pathweave/pathweave/routing/Passage" "trip" "I" (.int p3) ∧ Fld Z h a1 "com/example/pathweave/pathweave/routing/Passage" "from" "I" (.int p4) ∧ Fld Z h a1 "com/example/pathweave/pathweave/routing/Passage" "to" "I" (.int p5)
theorem ef_P (m : MethodId) (a1 : Addr) (p2 : Int32) (p3 : Int32) (p4 : Int32) (p5 : Int32) : entryFrame m #[(.ref a1), (.int p2), (.int p3), (.int p4), (.int p5)] 5 = mkF m 0 #[.val (.ref a1), .val (.int p2), .val (.int p3), .val (.int p4), .val (.int p5)] [] := by first | (simp [entryFrame, mkF, argsToLocals, Value.category, maxLocals]; done) | rfl
set_option maxRecDepth 65536 in
set_option maxHeartbeats 40000000 in
theorem rm_P (l : Launch) (Z : State) (a0 : Array Value) (hw : ∀ d ∈ tables_1, d.before a0 Z = true) (n0 : Nat) (h0 : Heap) (a1 : Addr) (p2 : Int32) (p3 : Int32) (p4 : Int32) (p5 : Int32) (Z0 : n0 ≤ h0.size) (E1 : Exa Z h0 a1 "com/example/pathweave/pathweave/routing/Passage") (g1 : n0 ≤ a1) (F_pattern : Fld Z h0 a1 "com/example/pathweave/pathweave/routing/Passage" "pattern" "I" (.int (0 : Int32))) (F_trip : Fld Z h0 a1 "com/example/pathweave/pathweave/routing/Passage" "trip" "I" (.int (0 : Int32))) (F_from : Fld Z h0 a1 "com/example/pathweave/pathweave/routing/Passage" "from" "I" (.int (0 : Int32))) (F_to : Fld Z h0 a1 "com/example/pathweave/pathweave/routing/Passage" "to" "I" (.int (0 : Int32))) :
    WCon l Z n0 h0 (⟨"com/example/pathweave/pathweave/routing/Passage", "<init>", "(IIII)V"⟩ : MethodName) prog_87_method_1_code 5 none [] ({ frames := 2, cells := 0, slots := 0, locals := 24 } : Room) #[(.ref a1), (.int p2), (.int p3), (.int p4), (.int p5)] (QP Z n0 h0 a1 p2 p3 p4 p5) := by
  refine WCon.of (by first | exact plainFor_of_name (by decide +kernel) | decide +kernel) Z0 ?_
  intro p e s m below meth c T hx hZ hby hml hown hnm hret S
  refine WGo.cast (ef_P m a1 p2 p3 p4 p5) ?_
  show WGo _ _ _ _ _ _ _ _ T (mkF m 0 #[.val (.ref a1), .val (.int p2), .val (.int p3), .val (.int p4), .val (.int p5)] [])
  refine WGo.st (fun _ q => XS.aloadN S.here hx rfl (hb hby d_prog_87_method_1_code_0) rfl rfl q) ?_
  show WGo _ _ _ _ _ _ _ _ T (mkF m 1 #[.val (.ref a1), .val (.int p2), .val (.int p3), .val (.int p4), .val (.int p5)] [(.ref a1)])
  refine w_special S (y := (⟨"java/lang/Record", "<init>", "()V"⟩ : MethodName)) rfl hown (hw _ (List.mem_of_getElem? (i := 6) rfl)) (hw _ (List.mem_of_getElem? (i := 7) rfl)) (hw _ (List.mem_of_getElem? (i := 9) rfl)) (hw _ (List.mem_of_getElem? (i := 10) rfl)) (by decide) (rm_R l Z a0 hw n0 h0 a1 S.ge) (W := 0) (by decide) (by decide) (by decide) (by decide) rfl (by rw [hml]; rfl) (argsL := []) (rest := []) (ps := []) (rt := none) (by decide) rfl rfl rfl (by show 2 * 0 + _ ≤ _; exact Nat.le_of_eq rfl) (hb hby d_prog_87_method_1_code_1) ?_
  intro T1 h3 w4 S2 q5
  obtain ⟨q5a, q5b⟩ := q5
  subst q5a
  replace q5b := Eq.symm q5b
  subst q5b
  show WGo _ _ _ _ _ _ _ _ T1 (mkF m 4 #[.val (.ref a1), .val (.int p2), .val (.int p3), .val (.int p4), .val (.int p5)] [])
  refine WGo.st (fun _ q => XS.aloadN S2.here hx rfl (hb hby d_prog_87_method_1_code_4) rfl rfl q) ?_
  show WGo _ _ _ _ _ _ _ _ T1 (mkF m 5 #[.val (.ref a1), .val (.int p2), .val (.int p3), .val (.int p4), .val (.int p5)] [(.ref a1)])
  refine WGo.st (fun _ q => XS.iloadN S2.here hx rfl (hb hby d_prog_87_method_1_code_5) rfl q) ?_
  show WGo _ _ _ _ _ _ _ _ T1 (mkF m 6 #[.val (.ref a1), .val (.int p2), .val (.int p3), .val (.int p4), .val (.int p5)] [(.int p2), (.ref a1)])
  refine w_putfield S2 hown (hw _ (List.mem_of_getElem? (i := 14) rfl)) Via.refl F_pattern E1 (Or.inr ⟨(hw _ (List.mem_of_getElem? (i := 15) rfl)), rfl, hnm⟩) (hw _ (List.mem_of_getElem? (i := 1) rfl)) g1 (ty := .int) (by decide) rfl rfl rfl rfl (hb hby d_prog_87_method_1_code_6) ?_
  intro T6 h7 S8 W10 K9
  have P11 := Keep.trans (Keep.refl h0 [a1]) K9 (allS (Or.inl (List.mem_of_getElem? (i := 0) rfl)) all0)
  have f12 := Exa.keep E1 K9
  have f13 : Fld Z h7 a1 "com/example/pathweave/pathweave/routing/Passage" "pattern" "I" (.int p2) := Fld.same W10 F_pattern
  have f14 := Fld.other W10 F_trip (Or.inr (slot_ne (a0 := a0) (C := "com/example/pathweave/pathweave/routing/Passage") (Or.inr (hw _ (List.mem_of_getElem? (i := 17) rfl))) (Or.inr (hw _ (List.mem_of_getElem? (i := 15) rfl))) (by decide) (t := .int) (by decide) (t' := .int) (by decide)))
  have f15 := Fld.other W10 F_from (Or.inr (slot_ne (a0 := a0) (C := "com/example/pathweave/pathweave/routing/Passage") (Or.inr (hw _ (List.mem_of_getElem? (i := 19) rfl))) (Or.inr (hw _ (List.mem_of_getElem? (i := 15) rfl))) (by decide) (t := .int) (by decide) (t' := .int) (by decide)))
  have f16 := Fld.other W10 F_to (Or.inr (slot_ne (a0 := a0) (C := "com/example/pathweave/pathweave/routing/Passage") (Or.inr (hw _ (List.mem_of_getElem? (i := 21) rfl))) (Or.inr (hw _ (List.mem_of_getElem? (i := 15) rfl))) (by decide) (t := .int) (by decide) (t' := .int) (by decide)))
  show WGo _ _ _ _ _ _ _ _ T6 (mkF m 9 #[.val (.ref a1), .val (.int p2), .val (.int p3), .val (.int p4), .val (.int p5)] [])
  refine WGo.st (fun _ q => XS.aloadN S8.here hx rfl (hb hby d_prog_87_method_1_code_9) rfl rfl q) ?_
  show WGo _ _ _ _ _ _ _ _ T6 (mkF m 10 #[.val (.ref a1), .val (.int p2), .val (.int p3), .val (.int p4), .val (.int p5)] [(.ref a1)])
  refine WGo.st (fun _ q => XS.iloadN S8.here hx rfl (hb hby d_prog_87_method_1_code_10) rfl q) ?_
  show WGo _ _ _ _ _ _ _ _ T6 (mkF m 11 #[.val (.ref a1), .val (.int p2), .val (.int p3), .val (.int p4), .val (.int p5)] [(.int p3), (.ref a1)])
  refine w_putfield S8 hown (hw _ (List.mem_of_getElem? (i := 16) rfl)) Via.refl f14 f12 (Or.inr ⟨(hw _ (List.mem_of_getElem? (i := 17) rfl)), rfl, hnm⟩) (hw _ (List.mem_of_getElem? (i := 1) rfl)) g1 (ty := .int) (by decide) rfl rfl rfl rfl (hb hby d_prog_87_method_1_code_11) ?_
  intro T17 h18 S19 W21 K20
  have P22 := Keep.trans P11 K20 (allS (Or.inl (List.mem_of_getElem? (i := 0) rfl)) all0)
  have f23 := Exa.keep f12 K20
  have f24 := Fld.other W21 f13 (Or.inr (slot_ne (a0 := a0) (C := "com/example/pathweave/pathweave/routing/Passage") (Or.inr (hw _ (List.mem_of_getElem? (i := 15) rfl))) (Or.inr (hw _ (List.mem_of_getElem? (i := 17) rfl))) (by decide) (t := .int) (by decide) (t' := .int) (by decide)))
  have f25 : Fld Z h18 a1 "com/example/pathweave/pathweave/routing/Passage" "trip" "I" (.int p3) := Fld.same W21 f14
  have f26 := Fld.other W21 f15 (Or.inr (slot_ne (a0 := a0) (C := "com/example/pathweave/pathweave/routing/Passage") (Or.inr (hw _ (List.mem_of_getElem? (i := 19) rfl))) (Or.inr (hw _ (List.mem_of_getElem? (i := 17) rfl))) (by decide) (t := .int) (by decide) (t' := .int) (by decide)))
  have f27 := Fld.other W21 f16 (Or.inr (slot_ne (a0 := a0) (C := "com/example/pathweave/pathweave/routing/Passage") (Or.inr (hw _ (List.mem_of_getElem? (i := 21) rfl))) (Or.inr (hw _ (List.mem_of_getElem? (i := 17) rfl))) (by decide) (t := .int) (by decide) (t' := .int) (by decide)))
  show WGo _ _ _ _ _ _ _ _ T17 (mkF m 14 #[.val (.ref a1), .val (.int p2), .val (.int p3), .val (.int p4), .val (.int p5)] [])
  refine WGo.st (fun _ q => XS.aloadN S19.here hx rfl (hb hby d_prog_87_method_1_code_14) rfl rfl q) ?_
  show WGo _ _ _ _ _ _ _ _ T17 (mkF m 15 #[.val (.ref a1), .val (.int p2), .val (.int p3), .val (.int p4), .val (.int p5)] [(.ref a1)])
  refine WGo.st (fun _ q => XS.iloadN S19.here hx rfl (hb hby d_prog_87_method_1_code_15) rfl q) ?_
  show WGo _ _ _ _ _ _ _ _ T17 (mkF m 16 #[.val (.ref a1), .val (.int p2), .val (.int p3), .val (.int p4), .val (.int p5)] [(.int p4), (.ref a1)])
  refine w_putfield S19 hown (hw _ (List.mem_of_getElem? (i := 18) rfl)) Via.refl f26 f23 (Or.inr ⟨(hw _ (List.mem_of_getElem? (i := 19) rfl)), rfl, hnm⟩) (hw _ (List.mem_of_getElem? (i := 1) rfl)) g1 (ty := .int) (by decide) rfl rfl rfl rfl (hb hby d_prog_87_method_1_code_16) ?_
  intro T28 h29 S30 W32 K31
  have P33 := Keep.trans P22 K31 (allS (Or.inl (List.mem_of_getElem? (i := 0) rfl)) all0)
  have f34 := Exa.keep f23 K31
  have f35 := Fld.other W32 f24 (Or.inr (slot_ne (a0 := a0) (C := "com/example/pathweave/pathweave/routing/Passage") (Or.inr (hw _ (List.mem_of_getElem? (i := 15) rfl))) (Or.inr (hw _ (List.mem_of_getElem? (i := 19) rfl))) (by decide) (t := .int) (by decide) (t' := .int) (by decide)))
  have f36 := Fld.other W32 f25 (Or.inr (slot_ne (a0 := a0) (C := "com/example/pathweave/pathweave/routing/Passage") (Or.inr (hw _ (List.mem_of_getElem? (i := 17) rfl))) (Or.inr (hw _ (List.mem_of_getElem? (i := 19) rfl))) (by decide) (t := .int) (by decide) (t' := .int) (by decide)))
  have f37 : Fld Z h29 a1 "com/example/pathweave/pathweave/routing/Passage" "from" "I" (.int p4) := Fld.same W32 f26
  have f38 := Fld.other W32 f27 (Or.inr (slot_ne (a0 := a0) (C := "com/example/pathweave/pathweave/routing/Passage") (Or.inr (hw _ (List.mem_of_getElem? (i := 21) rfl))) (Or.inr (hw _ (List.mem_of_getElem? (i := 19) rfl))) (by decide) (t := .int) (by decide) (t' := .int) (by decide)))
  show WGo _ _ _ _ _ _ _ _ T28 (mkF m 19 #[.val (.ref a1), .val (.int p2), .val (.int p3), .val (.int p4), .val (.int p5)] [])
  refine WGo.st (fun _ q => XS.aloadN S30.here hx rfl (hb hby d_prog_87_method_1_code_19) rfl rfl q) ?_
  show WGo _ _ _ _ _ _ _ _ T28 (mkF m 20 #[.val (.ref a1), .val (.int p2), .val (.int p3), .val (.int p4), .val (.int p5)] [(.ref a1)])
  refine WGo.st (fun _ q => XS.iload S30.here hx rfl (hb hby d_prog_87_method_1_code_20) rfl q) ?_
  show WGo _ _ _ _ _ _ _ _ T28 (mkF m 22 #[.val (.ref a1), .val (.int p2), .val (.int p3), .val (.int p4), .val (.int p5)] [(.int p5), (.ref a1)])
  refine w_putfield S30 hown (hw _ (List.mem_of_getElem? (i := 20) rfl)) Via.refl f38 f34 (Or.inr ⟨(hw _ (List.mem_of_getElem? (i := 21) rfl)), rfl, hnm⟩) (hw _ (List.mem_of_getElem? (i := 1) rfl)) g1 (ty := .int) (by decide) rfl rfl rfl rfl (hb hby d_prog_87_method_1_code_22) ?_
  intro T39 h40 S41 W43 K42
  have P44 := Keep.trans P33 K42 (allS (Or.inl (List.mem_of_getElem? (i := 0) rfl)) all0)
  have f45 := Exa.keep f34 K42
  have f46 := Fld.other W43 f35 (Or.inr (slot_ne (a0 := a0) (C := "com/example/pathweave/pathweave/routing/Passage") (Or.inr (hw _ (List.mem_of_getElem? (i := 15) rfl))) (Or.inr (hw _ (List.mem_of_getElem? (i := 21) rfl))) (by decide) (t := .int) (by decide) (t' := .int) (by decide)))
  have f47 := Fld.other W43 f36 (Or.inr (slot_ne (a0 := a0) (C := "com/example/pathweave/pathweave/routing/Passage") (Or.inr (hw _ (List.mem_of_getElem? (i := 17) rfl))) (Or.inr (hw _ (List.mem_of_getElem? (i := 21) rfl))) (by decide) (t := .int) (by decide) (t' := .int) (by decide)))
  have f48 := Fld.other W43 f37 (Or.inr (slot_ne (a0 := a0) (C := "com/example/pathweave/pathweave/routing/Passage") (Or.inr (hw _ (List.mem_of_getElem? (i := 19) rfl))) (Or.inr (hw _ (List.mem_of_getElem? (i := 21) rfl))) (by decide) (t := .int) (by decide) (t' := .int) (by decide)))
  have f49 : Fld Z h40 a1 "com/example/pathweave/pathweave/routing/Passage" "to" "I" (.int p5) := Fld.same W43 f38
  show WGo _ _ _ _ _ _ _ _ T39 (mkF m 25 #[.val (.ref a1), .val (.int p2), .val (.int p3), .val (.int p4), .val (.int p5)] [])
  refine w_retV S41 hret (hb hby d_prog_87_method_1_code_25) (by decide) (by decide) ?_
  exact ⟨rfl, P44, f45, f46, f47, f48, f49⟩
theorem d_prog_87_method_3_code_0 : decode prog_87_method_3_code 0 = .ok (.aload_n 0, 1) := by decide +kernel
theorem d_prog_87_method_3_code_1 : decode prog_87_method_3_code 1 = .ok (.getfield 7, 3) := by decide +kernel
theorem d_prog_87_method_3_code_4 : decode prog_87_method_3_code 4 = .ok (.aload_n 1, 1) := by decide +kernel
theorem d_prog_87_method_3_code_5 : decode prog_87_method_3_code 5 = .ok (.getfield 7, 3) := by decide +kernel
theorem d_prog_87_method_3_code_8 : decode prog_87_method_3_code 8 = .ok (.if_icmp .ne 18, 3) := by decide +kernel
theorem d_prog_87_method_3_code_11 : decode prog_87_method_3_code 11 = .ok (.aload_n 0, 1) := by decide +kernel
theorem d_prog_87_method_3_code_12 : decode prog_87_method_3_code 12 = .ok (.getfield 13, 3) := by decide +kernel
theorem d_prog_87_method_3_code_15 : decode prog_87_method_3_code 15 = .ok (.aload_n 1, 1) := by decide +kernel
theorem d_prog_87_method_3_code_16 : decode prog_87_method_3_code 16 = .ok (.getfield 13, 3) := by decide +kernel
theorem d_prog_87_method_3_code_19 : decode prog_87_method_3_code 19 = .ok (.if_icmp .ne 7, 3) := by decide +kernel
theorem d_prog_87_method_3_code_22 : decode prog_87_method_3_code 22 = .ok (.iconst 1, 1) := by decide +kernel
theorem d_prog_87_method_3_code_23 : decode prog_87_method_3_code 23 = .ok (.goto 4, 3) := by decide +kernel
theorem d_prog_87_method_3_code_26 : decode prog_87_method_3_code 26 = .ok (.iconst 0, 1) := by decide +kernel
theorem d_prog_87_method_3_code_27 : decode prog_87_method_3_code 27 = .ok (.ireturn, 1) := by decide +kernel
def QS (Z : State) (n0 : Nat) (h0 : Heap) (a1 : Addr) (a2 : Addr) (u1 : Int32) (u2 : Int32) (u3 : Int32) (u4 : Int32) (v : Option Value) (h : Heap) : Prop := v = some (.int (sameF u1 u2 u3 u4)) ∧ h = h0
theorem ef_S (m : MethodId) (a1 : Addr) (a2 : Addr) : entryFrame m #[(.ref a1), (.ref a2)] 2 = mkF m 0 #[.val (.ref a1), .val (.ref a2)] [] := by first | (simp [entryFrame, mkF, argsToLocals, Value.category, maxLocals]; done) | rfl
set_option maxRecDepth 65536 in
set_option maxHeartbeats 40000000 in
theorem rm_S (l : Launch) (Z : State) (a0 : Array Value) (hw : ∀ d ∈ tables_1, d.before a0 Z = true) (n0 : Nat) (h0 : Heap) (a1 : Addr) (a2 : Addr) (u1 : Int32) (u2 : Int32) (u3 : Int32) (u4 : Int32) (Z0 : n0 ≤ h0.size) (F1 : Fld Z h0 a1 "com/example/pathweave/pathweave/routing/Passage" "pattern" "I" (.int u1)) (F2 : Fld Z h0 a1 "com/example/pathweave/pathweave/routing/Passage" "trip" "I" (.int u2)) (F3 : Fld Z h0 a2 "com/example/pathweave/pathweave/routing/Passage" "pattern" "I" (.int u3)) (F4 : Fld Z h0 a2 "com/example/pathweave/pathweave/routing/Passage" "trip" "I" (.int u4)) :
    WCon l Z n0 h0 (⟨"com/example/pathweave/pathweave/routing/Passage", "sameRun", "(Lcom/example/pathweave/pathweave/routing/Passage;)Z"⟩ : MethodName) prog_87_method_3_code 2 (some .boolean) [] ({ frames := 0, cells := 0, slots := 0, locals := 0 } : Room) #[(.ref a1), (.ref a2)] (QS Z n0 h0 a1 a2 u1 u2 u3 u4) := by
  refine WCon.of (by first | exact plainFor_of_name (by decide +kernel) | decide +kernel) Z0 ?_
  intro p e s m below meth c T hx hZ hby hml hown hnm hret S
  refine WGo.cast (ef_S m a1 a2) ?_
  show WGo _ _ _ _ _ _ _ _ T (mkF m 0 #[.val (.ref a1), .val (.ref a2)] [])
  refine WGo.st (fun _ q => XS.aloadN S.here hx rfl (hb hby d_prog_87_method_3_code_0) rfl rfl q) ?_
  show WGo _ _ _ _ _ _ _ _ T (mkF m 1 #[.val (.ref a1), .val (.ref a2)] [(.ref a1)])
  refine w_getfield S hown (hw _ (List.mem_of_getElem? (i := 14) rfl)) Via.refl F1 rfl rfl (hb hby d_prog_87_method_3_code_1) ?_
  intro T1 S2
  show WGo _ _ _ _ _ _ _ _ T1 (mkF m 4 #[.val (.ref a1), .val (.ref a2)] [(.int u1)])
  refine WGo.st (fun _ q => XS.aloadN S2.here hx rfl (hb hby d_prog_87_method_3_code_4) rfl rfl q) ?_
  show WGo _ _ _ _ _ _ _ _ T1 (mkF m 5 #[.val (.ref a1), .val (.ref a2)] [(.ref a2), (.int u1)])
  refine w_getfield S2 hown (hw _ (List.mem_of_getElem? (i := 14) rfl)) Via.refl F3 rfl rfl (hb hby d_prog_87_method_3_code_5) ?_
  intro T3 S4
  show WGo _ _ _ _ _ _ _ _ T3 (mkF m 8 #[.val (.ref a1), .val (.ref a2)] [(.int u3), (.int u1)])
  by_cases c8 : u1 = u3
  · refine WGo.st (fun _ q => XS.icmpNo S4.here hx rfl (hb hby d_prog_87_method_3_code_8) rfl (teq c8).2 q) ?_
    show WGo _ _ _ _ _ _ _ _ T3 (mkF m 11 #[.val (.ref a1), .val (.ref a2)] [])
    refine WGo.st (fun _ q => XS.aloadN S4.here hx rfl (hb hby d_prog_87_method_3_code_11) rfl rfl q) ?_
    show WGo _ _ _ _ _ _ _ _ T3 (mkF m 12 #[.val (.ref a1), .val (.ref a2)] [(.ref a1)])
    refine w_getfield S4 hown (hw _ (List.mem_of_getElem? (i := 16) rfl)) Via.refl F2 rfl rfl (hb hby d_prog_87_method_3_code_12) ?_
    intro T5 S6
    show WGo _ _ _ _ _ _ _ _ T5 (mkF m 15 #[.val (.ref a1), .val (.ref a2)] [(.int u2)])
    refine WGo.st (fun _ q => XS.aloadN S6.here hx rfl (hb hby d_prog_87_method_3_code_15) rfl rfl q) ?_
    show WGo _ _ _ _ _ _ _ _ T5 (mkF m 16 #[.val (.ref a1), .val (.ref a2)] [(.ref a2), (.int u2)])
    refine w_getfield S6 hown (hw _ (List.mem_of_getElem? (i := 16) rfl)) Via.refl F4 rfl rfl (hb hby d_prog_87_method_3_code_16) ?_
    intro T7 S8
    show WGo _ _ _ _ _ _ _ _ T7 (mkF m 19 #[.val (.ref a1), .val (.ref a2)] [(.int u4), (.int u2)])
    by_cases c19 : u2 = u4
    · refine WGo.st (fun _ q => XS.icmpNo S8.here hx rfl (hb hby d_prog_87_method_3_code_19) rfl (teq c19).2 q) ?_
      show WGo _ _ _ _ _ _ _ _ T7 (mkF m 22 #[.val (.ref a1), .val (.ref a2)] [])
      refine WGo.st (fun _ q => XS.iconst S8.here hx rfl (hb hby d_prog_87_method_3_code_22) q) ?_
      show WGo _ _ _ _ _ _ _ _ T7 (mkF m 23 #[.val (.ref a1), .val (.ref a2)] [(.int (1 : Int32))])
      refine WGo.st (fun _ q => XS.goto S8.here hx rfl (pc0 := 23) (pc' := 27) rfl (hb hby d_prog_87_method_3_code_23) (by decide) (by decide) q) ?_
      show WGo _ _ _ _ _ _ _ _ T7 (mkF m 27 #[.val (.ref a1), .val (.ref a2)] [(.int (1 : Int32))])
      refine w_retZ S8 hret (hb hby d_prog_87_method_3_code_27) (by decide) (by decide) (by decide) ?_
      exact ⟨by simp [sameF, *], rfl⟩
    · refine WGo.st (fun _ q => XS.icmpYes S8.here hx rfl (pc0 := 19) (pc' := 26) rfl (hb hby d_prog_87_method_3_code_19) rfl (feq c19).2 (by decide) (by decide) q) ?_
      show WGo _ _ _ _ _ _ _ _ T7 (mkF m 26 #[.val (.ref a1), .val (.ref a2)] [])
      refine WGo.st (fun _ q => XS.iconst S8.here hx rfl (hb hby d_prog_87_method_3_code_26) q) ?_
      show WGo _ _ _ _ _ _ _ _ T7 (mkF m 27 #[.val (.ref a1), .val (.ref a2)] [(.int (0 : Int32))])
      refine w_retZ S8 hret (hb hby d_prog_87_method_3_code_27) (by decide) (by decide) (by decide) ?_
      exact ⟨by simp [sameF, *], rfl⟩
  · refine WGo.st (fun _ q => XS.icmpYes S4.here hx rfl (pc0 := 8) (pc' := 26) rfl (hb hby d_prog_87_method_3_code_8) rfl (feq c8).2 (by decide) (by decide) q) ?_
    show WGo _ _ _ _ _ _ _ _ T3 (mkF m 26 #[.val (.ref a1), .val (.ref a2)] [])
    refine WGo.st (fun _ q => XS.iconst S4.here hx rfl (hb hby d_prog_87_method_3_code_26) q) ?_
    show WGo _ _ _ _ _ _ _ _ T3 (mkF m 27 #[.val (.ref a1), .val (.ref a2)] [(.int (0 : Int32))])
    refine w_retZ S4 hret (hb hby d_prog_87_method_3_code_27) (by decide) (by decide) (by decide) ?_
    exact ⟨by simp [sameF, *], rfl⟩
theorem d_prog_87_method_2_code_0 : decode prog_87_method_2_code 0 = .ok (.new 8, 3) := by decide +kernel
theorem d_prog_87_method_2_code_3 : decode prog_87_method_2_code 3 = .ok (.dup, 1) := by decide +kernel
theorem d_prog_87_method_2_code_4 : decode prog_87_method_2_code 4 = .ok (.aload_n 0, 1) := by decide +kernel
theorem d_prog_87_method_2_code_5 : decode prog_87_method_2_code 5 = .ok (.getfield 7, 3) := by decide +kernel
theorem d_prog_87_method_2_code_8 : decode prog_87_method_2_code 8 = .ok (.aload_n 0, 1) := by decide +kernel
theorem d_prog_87_method_2_code_9 : decode prog_87_method_2_code 9 = .ok (.getfield 13, 3) := by decide +kernel
theorem d_prog_87_method_2_code_12 : decode prog_87_method_2_code 12 = .ok (.aload_n 0, 1) := by decide +kernel
theorem d_prog_87_method_2_code_13 : decode prog_87_method_2_code 13 = .ok (.getfield 16, 3) := by decide +kernel
theorem d_prog_87_method_2_code_16 : decode prog_87_method_2_code 16 = .ok (.iload_n 1, 1) := by decide +kernel
theorem d_prog_87_method_2_code_17 : decode prog_87_method_2_code 17 = .ok (.invokespecial 22, 3) := by decide +kernel
theorem d_prog_87_method_2_code_20 : decode prog_87_method_2_code 20 = .ok (.areturn, 1) := by decide +kernel
def QL (Z : State) (n0 : Nat) (h0 : Heap) (a1 : Addr) (p2 : Int32) (u1 : Int32) (u2 : Int32) (u3 : Int32) (v : Option Value) (h : Heap) : Prop := ∃ b, v = some (.ref b) ∧ Keep h0 h [] ∧ h0.size ≤ b ∧ n0 ≤ b ∧ Exa Z h b "com/example/pathweave/pathweave/routing/Passage" ∧ Fld Z h b "com/example/pathweave/pathweave/routing/Passage" "pattern" "I" (.int u1) ∧ Fld Z h b "com/example/pathweave/pathweave/routing/Passage" "trip" "I" (.int u2)
theorem ef_L (m : MethodId) (a1 : Addr) (p2 : Int32) : entryFrame m #[(.ref a1), (.int p2)] 2 = mkF m 0 #[.val (.ref a1), .val (.int p2)] [] := by first | (simp [entryFrame, mkF, argsToLocals, Value.category, maxLocals]; done) | rfl
set_option maxRecDepth 65536 in
set_option maxHeartbeats 40000000 in
theorem rm_L (l : Launch) (Z : State) (a0 : Array Value) (hw : ∀ d ∈ tables_1, d.before a0 Z = true) (n0 : Nat) (h0 : Heap) (a1 : Addr) (p2 : Int32) (u1 : Int32) (u2 : Int32) (u3 : Int32) (Z0 : n0 ≤ h0.size) (E1 : Exa Z h0 a1 "com/example/pathweave/pathweave/routing/Passage") (F1 : Fld Z h0 a1 "com/example/pathweave/pathweave/routing/Passage" "pattern" "I" (.int u1)) (F2 : Fld Z h0 a1 "com/example/pathweave/pathweave/routing/Passage" "trip" "I" (.int u2)) (F3 : Fld Z h0 a1 "com/example/pathweave/pathweave/routing/Passage" "from" "I" (.int u3)) :
    WCon l Z n0 h0 (⟨"com/example/pathweave/pathweave/routing/Passage", "leftAt", "(I)Lcom/example/pathweave/pathweave/routing/Passage;"⟩ : MethodName) prog_87_method_2_code 2 (some (.object "com/example/pathweave/pathweave/routing/Passage")) [] ({ frames := 3, cells := 1, slots := 4, locals := 48 } : Room) #[(.ref a1), (.int p2)] (QL Z n0 h0 a1 p2 u1 u2 u3) := by
  refine WCon.of (by first | exact plainFor_of_name (by decide +kernel) | decide +kernel) Z0 ?_
  intro p e s m below meth c T hx hZ hby hml hown hnm hret S
  refine WGo.cast (ef_L m a1 p2) ?_
  show WGo _ _ _ _ _ _ _ _ T (mkF m 0 #[.val (.ref a1), .val (.int p2)] [])
  refine w_new S hown (hw _ (List.mem_of_getElem? (i := 32) rfl)) (hw _ (List.mem_of_getElem? (i := 1) rfl)) (hw _ (List.mem_of_getElem? (i := 2) rfl)) rfl (hb hby d_prog_87_method_2_code_0) (by decide) (by decide) ?_
  intro T1 h2 b1 S3 K4 e_b1 g_b1 E_b1 D_b1
  have n_a1_b1 : a1 ≠ b1 := by rw [e_b1]; exact Nat.ne_of_lt E1.lt
  have N_b1 : h0.size ≤ b1 := by rw [e_b1]; exact (Keep.refl h0 []).1
  have P5 := Keep.trans (Keep.refl h0 []) K4 all0
  have f6 := Exa.keep E1 K4
  have f7 := Fld.keep F1 K4 nin0
  have f8 := Fld.keep F2 K4 nin0
  have f9 := Fld.keep F3 K4 nin0
  have F_b1_pattern : Fld Z h2 b1 "com/example/pathweave/pathweave/routing/Passage" "pattern" "I" (.int (0 : Int32)) := D_b1 (Or.inr (hw _ (List.mem_of_getElem? (i := 15) rfl))) (ty := .int) (by decide)
  have F_b1_trip : Fld Z h2 b1 "com/example/pathweave/pathweave/routing/Passage" "trip" "I" (.int (0 : Int32)) := D_b1 (Or.inr (hw _ (List.mem_of_getElem? (i := 17) rfl))) (ty := .int) (by decide)
  have F_b1_from : Fld Z h2 b1 "com/example/pathweave/pathweave/routing/Passage" "from" "I" (.int (0 : Int32)) := D_b1 (Or.inr (hw _ (List.mem_of_getElem? (i := 19) rfl))) (ty := .int) (by decide)
  have F_b1_to : Fld Z h2 b1 "com/example/pathweave/pathweave/routing/Passage" "to" "I" (.int (0 : Int32)) := D_b1 (Or.inr (hw _ (List.mem_of_getElem? (i := 21) rfl))) (ty := .int) (by decide)
  show WGo _ _ _ _ _ _ _ _ T1 (mkF m 3 #[.val (.ref a1), .val (.int p2)] [(.ref b1)])
  refine WGo.st (fun _ q => XS.dup S3.here hx rfl (hb hby d_prog_87_method_2_code_3) rfl rfl q) ?_
  show WGo _ _ _ _ _ _ _ _ T1 (mkF m 4 #[.val (.ref a1), .val (.int p2)] [(.ref b1), (.ref b1)])
  refine WGo.st (fun _ q => XS.aloadN S3.here hx rfl (hb hby d_prog_87_method_2_code_4) rfl rfl q) ?_
  show WGo _ _ _ _ _ _ _ _ T1 (mkF m 5 #[.val (.ref a1), .val (.int p2)] [(.ref a1), (.ref b1), (.ref b1)])
  refine w_getfield S3 hown (hw _ (List.mem_of_getElem? (i := 14) rfl)) Via.refl f7 rfl rfl (hb hby d_prog_87_method_2_code_5) ?_
  intro T10 S11
  show WGo _ _ _ _ _ _ _ _ T10 (mkF m 8 #[.val (.ref a1), .val (.int p2)] [(.int u1), (.ref b1), (.ref b1)])
  refine WGo.st (fun _ q => XS.aloadN S11.here hx rfl (hb hby d_prog_87_method_2_code_8) rfl rfl q) ?_
  show WGo _ _ _ _ _ _ _ _ T10 (mkF m 9 #[.val (.ref a1), .val (.int p2)] [(.ref a1), (.int u1), (.ref b1), (.ref b1)])
  refine w_getfield S11 hown (hw _ (List.mem_of_getElem? (i := 16) rfl)) Via.refl f8 rfl rfl (hb hby d_prog_87_method_2_code_9) ?_
  intro T12 S13
  show WGo _ _ _ _ _ _ _ _ T12 (mkF m 12 #[.val (.ref a1), .val (.int p2)] [(.int u2), (.int u1), (.ref b1), (.ref b1)])
  refine WGo.st (fun _ q => XS.aloadN S13.here hx rfl (hb hby d_prog_87_method_2_code_12) rfl rfl q) ?_
  show WGo _ _ _ _ _ _ _ _ T12 (mkF m 13 #[.val (.ref a1), .val (.int p2)] [(.ref a1), (.int u2), (.int u1), (.ref b1), (.ref b1)])
  refine w_getfield S13 hown (hw _ (List.mem_of_getElem? (i := 18) rfl)) Via.refl f9 rfl rfl (hb hby d_prog_87_method_2_code_13) ?_
  intro T14 S15
  show WGo _ _ _ _ _ _ _ _ T14 (mkF m 16 #[.val (.ref a1), .val (.int p2)] [(.int u3), (.int u2), (.int u1), (.ref b1), (.ref b1)])
  refine WGo.st (fun _ q => XS.iloadN S15.here hx rfl (hb hby d_prog_87_method_2_code_16) rfl q) ?_
  show WGo _ _ _ _ _ _ _ _ T14 (mkF m 17 #[.val (.ref a1), .val (.int p2)] [(.int p2), (.int u3), (.int u2), (.int u1), (.ref b1), (.ref b1)])
  refine w_special S15 (y := (⟨"com/example/pathweave/pathweave/routing/Passage", "<init>", "(IIII)V"⟩ : MethodName)) rfl hown (hw _ (List.mem_of_getElem? (i := 33) rfl)) (hw _ (List.mem_of_getElem? (i := 4) rfl)) (hw _ (List.mem_of_getElem? (i := 2) rfl)) (hw _ (List.mem_of_getElem? (i := 5) rfl)) (by decide) (rm_P l Z a0 hw n0 h2 b1 u1 u2 u3 p2 S15.ge E_b1 g_b1 F_b1_pattern F_b1_trip F_b1_from F_b1_to) (W := 1) (by decide) (by decide) (by decide) (by decide) rfl (by rw [hml]; rfl) (argsL := [(.int u1), (.int u2), (.int u3), (.int p2)]) (rest := [(.ref b1)]) (ps := [.int, .int, .int, .int]) (rt := none) (by decide) rfl rfl rfl (by show 2 * 0 + _ ≤ _; exact Nat.le_of_eq rfl) (hb hby d_prog_87_method_2_code_17) ?_
  intro T16 h18 w19 S17 q20
  obtain ⟨q20a, q20K, q20f0, q20f1, q20f2, q20f3, q20f4⟩ := q20
  subst q20a
  have P21 := Keep.trans P5 q20K (allS (Or.inr N_b1) all0)
  have f22 := Exa.keep f6 q20K
  have f23 := Fld.keep f7 q20K (ninS n_a1_b1 nin0)
  have f24 := Fld.keep f8 q20K (ninS n_a1_b1 nin0)
  have f25 := Fld.keep f9 q20K (ninS n_a1_b1 nin0)
  show WGo _ _ _ _ _ _ _ _ T16 (mkF m 20 #[.val (.ref a1), .val (.int p2)] [(.ref b1)])
  refine w_retA S17 hret rfl rfl (hb hby d_prog_87_method_2_code_20) (by decide) (by decide) ?_
  exact ⟨b1, rfl, P21, N_b1, g_b1, q20f0, q20f1, q20f2⟩
def Q0 (Z : State) (n0 : Nat) (h0 : Heap) (p1 : Int32) (p2 : Int32) (p3 : Int32) (p4 : Int32) (p5 : Int32) (p6 : Int32) (v : Option Value) (h : Heap) : Prop := v = some (.int 1)
theorem ef_0 (m : MethodId) (p1 : Int32) (p2 : Int32) (p3 : Int32) (p4 : Int32) (p5 : Int32) (p6 : Int32) : entryFrame m #[(.int p1), (.int p2), (.int p3), (.int p4), (.int p5), (.int p6)] maxLocals = mkF m 0 #[.val (.int p1), .val (.int p2), .val (.int p3), .val (.int p4), .val (.int p5), .val (.int p6), .unset, .unset, .unset, .unset, .unset, .unset, .unset, .unset] [] := by first | (simp [entryFrame, mkF, argsToLocals, Value.category, maxLocals]; done) | rfl
set_option maxRecDepth 65536 in
set_option maxHeartbeats 40000000 in
theorem rm_0 (l : Launch) (Z : State) (a0 : Array Value) (hw : ∀ d ∈ tables_1, d.before a0 Z = true) (n0 : Nat) (h0 : Heap) (p1 : Int32) (p2 : Int32) (p3 : Int32) (p4 : Int32) (p5 : Int32) (p6 : Int32) (Z0 : n0 ≤ h0.size)  :
    WCon l Z n0 h0 x code maxLocals ret tables_1 room_1 #[(.int p1), (.int p2), (.int p3), (.int p4), (.int p5), (.int p6)] (Q0 Z n0 h0 p1 p2 p3 p4 p5 p6) := by
  refine WCon.of (by first | exact plainFor_of_name (by decide +kernel) | decide +kernel) Z0 ?_
  intro p e s m below meth c T hx hZ hby hml hown hnm hret S
  refine WGo.cast (ef_0 m p1 p2 p3 p4 p5 p6) ?_
  show WGo _ _ _ _ _ _ _ _ T (mkF m 0 #[.val (.int p1), .val (.int p2), .val (.int p3), .val (.int p4), .val (.int p5), .val (.int p6), .unset, .unset, .unset, .unset, .unset, .unset, .unset, .unset] [])
  have tail : ∀ b6 b7 qp qt : Int32, WGo p e below s n0 (Q0 Z n0 h0 p1 p2 p3 p4 p5 p6) room_1.cells room_1.slots T (mkF m 54 #[.val (.int p1), .val (.int p2), .val (.int p3), .val (.int p4), .val (.int p5), .val (.int p6), .val (.int b6), .val (.int b7), .val (.int qp), .val (.int qt), .unset, .unset, .unset, .unset] []) := by
    intro b6 b7 qp qt
    show WGo _ _ _ _ _ _ _ _ T (mkF m 54 #[.val (.int p1), .val (.int p2), .val (.int p3), .val (.int p4), .val (.int p5), .val (.int p6), .val (.int b6), .val (.int b7), .val (.int qp), .val (.int qt), .unset, .unset, .unset, .unset] [])
    refine w_new S hown (hw _ (List.mem_of_getElem? (i := 0) rfl)) (hw _ (List.mem_of_getElem? (i := 1) rfl)) (hw _ (List.mem_of_getElem? (i := 2) rfl)) rfl (hb hby at_54) (by decide) (by decide) ?_
    intro T1 h2 aP S3 K4 e_aP g_aP E_aP D_aP
    have F_aP_pattern : Fld Z h2 aP "com/example/pathweave/pathweave/routing/Passage" "pattern" "I" (.int (0 : Int32)) := D_aP (Or.inr (hw _ (List.mem_of_getElem? (i := 15) rfl))) (ty := .int) (by decide)
    have F_aP_trip : Fld Z h2 aP "com/example/pathweave/pathweave/routing/Passage" "trip" "I" (.int (0 : Int32)) := D_aP (Or.inr (hw _ (List.mem_of_getElem? (i := 17) rfl))) (ty := .int) (by decide)
    have F_aP_from : Fld Z h2 aP "com/example/pathweave/pathweave/routing/Passage" "from" "I" (.int (0 : Int32)) := D_aP (Or.inr (hw _ (List.mem_of_getElem? (i := 19) rfl))) (ty := .int) (by decide)
    have F_aP_to : Fld Z h2 aP "com/example/pathweave/pathweave/routing/Passage" "to" "I" (.int (0 : Int32)) := D_aP (Or.inr (hw _ (List.mem_of_getElem? (i := 21) rfl))) (ty := .int) (by decide)
    show WGo _ _ _ _ _ _ _ _ T1 (mkF m 57 #[.val (.int p1), .val (.int p2), .val (.int p3), .val (.int p4), .val (.int p5), .val (.int p6), .val (.int b6), .val (.int b7), .val (.int qp), .val (.int qt), .unset, .unset, .unset, .unset] [(.ref aP)])
    refine WGo.st (fun _ q => XS.dup S3.here hx rfl (hb hby at_57) rfl rfl q) ?_
    show WGo _ _ _ _ _ _ _ _ T1 (mkF m 58 #[.val (.int p1), .val (.int p2), .val (.int p3), .val (.int p4), .val (.int p5), .val (.int p6), .val (.int b6), .val (.int b7), .val (.int qp), .val (.int qt), .unset, .unset, .unset, .unset] [(.ref aP), (.ref aP)])
    refine WGo.st (fun _ q => XS.iloadN S3.here hx rfl (hb hby at_58) rfl q) ?_
    show WGo _ _ _ _ _ _ _ _ T1 (mkF m 59 #[.val (.int p1), .val (.int p2), .val (.int p3), .val (.int p4), .val (.int p5), .val (.int p6), .val (.int b6), .val (.int b7), .val (.int qp), .val (.int qt), .unset, .unset, .unset, .unset] [(.int p1), (.ref aP), (.ref aP)])
    refine WGo.st (fun _ q => XS.iloadN S3.here hx rfl (hb hby at_59) rfl q) ?_
    show WGo _ _ _ _ _ _ _ _ T1 (mkF m 60 #[.val (.int p1), .val (.int p2), .val (.int p3), .val (.int p4), .val (.int p5), .val (.int p6), .val (.int b6), .val (.int b7), .val (.int qp), .val (.int qt), .unset, .unset, .unset, .unset] [(.int p2), (.int p1), (.ref aP), (.ref aP)])
    refine WGo.st (fun _ q => XS.iloadN S3.here hx rfl (hb hby at_60) rfl q) ?_
    show WGo _ _ _ _ _ _ _ _ T1 (mkF m 61 #[.val (.int p1), .val (.int p2), .val (.int p3), .val (.int p4), .val (.int p5), .val (.int p6), .val (.int b6), .val (.int b7), .val (.int qp), .val (.int qt), .unset, .unset, .unset, .unset] [(.int p3), (.int p2), (.int p1), (.ref aP), (.ref aP)])
    refine WGo.st (fun _ q => XS.iloadN S3.here hx rfl (hb hby at_61) rfl q) ?_
    show WGo _ _ _ _ _ _ _ _ T1 (mkF m 62 #[.val (.int p1), .val (.int p2), .val (.int p3), .val (.int p4), .val (.int p5), .val (.int p6), .val (.int b6), .val (.int b7), .val (.int qp), .val (.int qt), .unset, .unset, .unset, .unset] [(.int p4), (.int p3), (.int p2), (.int p1), (.ref aP), (.ref aP)])
    refine w_special S3 (y := (⟨"com/example/pathweave/pathweave/routing/Passage", "<init>", "(IIII)V"⟩ : MethodName)) rfl hown (hw _ (List.mem_of_getElem? (i := 3) rfl)) (hw _ (List.mem_of_getElem? (i := 4) rfl)) (hw _ (List.mem_of_getElem? (i := 2) rfl)) (hw _ (List.mem_of_getElem? (i := 5) rfl)) (by decide) (rm_P l Z a0 hw n0 h2 aP p1 p2 p3 p4 S3.ge E_aP g_aP F_aP_pattern F_aP_trip F_aP_from F_aP_to) (W := 1) (by decide) (by decide) (by decide) (by decide) rfl (by rw [hml]; rfl) (argsL := [(.int p1), (.int p2), (.int p3), (.int p4)]) (rest := [(.ref aP)]) (ps := [.int, .int, .int, .int]) (rt := none) (by decide) rfl rfl rfl (by show 2 * 0 + _ ≤ _; exact Nat.le_of_eq rfl) (hb hby at_62) ?_
    intro T5 h7 w8 S6 q9
    obtain ⟨q9a, q9K, q9f0, q9f1, q9f2, q9f3, q9f4⟩ := q9
    subst q9a
    show WGo _ _ _ _ _ _ _ _ T5 (mkF m 65 #[.val (.int p1), .val (.int p2), .val (.int p3), .val (.int p4), .val (.int p5), .val (.int p6), .val (.int b6), .val (.int b7), .val (.int qp), .val (.int qt), .unset, .unset, .unset, .unset] [(.ref aP)])
    refine WGo.st (fun _ q => XS.astore S6.here hx rfl (hb hby at_65) rfl rfl (l' := #[.val (.int p1), .val (.int p2), .val (.int p3), .val (.int p4), .val (.int p5), .val (.int p6), .val (.int b6), .val (.int b7), .val (.int qp), .val (.int qt), .val (.ref aP), .unset, .unset, .unset]) rfl q) ?_
    show WGo _ _ _ _ _ _ _ _ T5 (mkF m 67 #[.val (.int p1), .val (.int p2), .val (.int p3), .val (.int p4), .val (.int p5), .val (.int p6), .val (.int b6), .val (.int b7), .val (.int qp), .val (.int qt), .val (.ref aP), .unset, .unset, .unset] [])
    refine w_new S6 hown (hw _ (List.mem_of_getElem? (i := 0) rfl)) (hw _ (List.mem_of_getElem? (i := 1) rfl)) (hw _ (List.mem_of_getElem? (i := 2) rfl)) rfl (hb hby at_67) (by decide) (by decide) ?_
    intro T10 h11 aQ S12 K13 e_aQ g_aQ E_aQ D_aQ
    have n_aP_aQ : aP ≠ aQ := by rw [e_aQ]; exact Nat.ne_of_lt q9f0.lt
    have f14 := Exa.keep q9f0 K13
    have f15 := Fld.keep q9f1 K13 nin0
    have f16 := Fld.keep q9f2 K13 nin0
    have f17 := Fld.keep q9f3 K13 nin0
    have f18 := Fld.keep q9f4 K13 nin0
    have F_aQ_pattern : Fld Z h11 aQ "com/example/pathweave/pathweave/routing/Passage" "pattern" "I" (.int (0 : Int32)) := D_aQ (Or.inr (hw _ (List.mem_of_getElem? (i := 15) rfl))) (ty := .int) (by decide)
    have F_aQ_trip : Fld Z h11 aQ "com/example/pathweave/pathweave/routing/Passage" "trip" "I" (.int (0 : Int32)) := D_aQ (Or.inr (hw _ (List.mem_of_getElem? (i := 17) rfl))) (ty := .int) (by decide)
    have F_aQ_from : Fld Z h11 aQ "com/example/pathweave/pathweave/routing/Passage" "from" "I" (.int (0 : Int32)) := D_aQ (Or.inr (hw _ (List.mem_of_getElem? (i := 19) rfl))) (ty := .int) (by decide)
    have F_aQ_to : Fld Z h11 aQ "com/example/pathweave/pathweave/routing/Passage" "to" "I" (.int (0 : Int32)) := D_aQ (Or.inr (hw _ (List.mem_of_getElem? (i := 21) rfl))) (ty := .int) (by decide)
    show WGo _ _ _ _ _ _ _ _ T10 (mkF m 70 #[.val (.int p1), .val (.int p2), .val (.int p3), .val (.int p4), .val (.int p5), .val (.int p6), .val (.int b6), .val (.int b7), .val (.int qp), .val (.int qt), .val (.ref aP), .unset, .unset, .unset] [(.ref aQ)])
    refine WGo.st (fun _ q => XS.dup S12.here hx rfl (hb hby at_70) rfl rfl q) ?_
    show WGo _ _ _ _ _ _ _ _ T10 (mkF m 71 #[.val (.int p1), .val (.int p2), .val (.int p3), .val (.int p4), .val (.int p5), .val (.int p6), .val (.int b6), .val (.int b7), .val (.int qp), .val (.int qt), .val (.ref aP), .unset, .unset, .unset] [(.ref aQ), (.ref aQ)])
    refine WGo.st (fun _ q => XS.iload S12.here hx rfl (hb hby at_71) rfl q) ?_
    show WGo _ _ _ _ _ _ _ _ T10 (mkF m 73 #[.val (.int p1), .val (.int p2), .val (.int p3), .val (.int p4), .val (.int p5), .val (.int p6), .val (.int b6), .val (.int b7), .val (.int qp), .val (.int qt), .val (.ref aP), .unset, .unset, .unset] [(.int qp), (.ref aQ), (.ref aQ)])
    refine WGo.st (fun _ q => XS.iload S12.here hx rfl (hb hby at_73) rfl q) ?_
    show WGo _ _ _ _ _ _ _ _ T10 (mkF m 75 #[.val (.int p1), .val (.int p2), .val (.int p3), .val (.int p4), .val (.int p5), .val (.int p6), .val (.int b6), .val (.int b7), .val (.int qp), .val (.int qt), .val (.ref aP), .unset, .unset, .unset] [(.int qt), (.int qp), (.ref aQ), (.ref aQ)])
    refine WGo.st (fun _ q => XS.iload S12.here hx rfl (hb hby at_75) rfl q) ?_
    show WGo _ _ _ _ _ _ _ _ T10 (mkF m 77 #[.val (.int p1), .val (.int p2), .val (.int p3), .val (.int p4), .val (.int p5), .val (.int p6), .val (.int b6), .val (.int b7), .val (.int qp), .val (.int qt), .val (.ref aP), .unset, .unset, .unset] [(.int p6), (.int qt), (.int qp), (.ref aQ), (.ref aQ)])
    refine WGo.st (fun _ q => XS.iload S12.here hx rfl (hb hby at_77) rfl q) ?_
    show WGo _ _ _ _ _ _ _ _ T10 (mkF m 79 #[.val (.int p1), .val (.int p2), .val (.int p3), .val (.int p4), .val (.int p5), .val (.int p6), .val (.int b6), .val (.int b7), .val (.int qp), .val (.int qt), .val (.ref aP), .unset, .unset, .unset] [(.int p5), (.int p6), (.int qt), (.int qp), (.ref aQ), (.ref aQ)])
    refine w_special S12 (y := (⟨"com/example/pathweave/pathweave/routing/Passage", "<init>", "(IIII)V"⟩ : MethodName)) rfl hown (hw _ (List.mem_of_getElem? (i := 3) rfl)) (hw _ (List.mem_of_getElem? (i := 4) rfl)) (hw _ (List.mem_of_getElem? (i := 2) rfl)) (hw _ (List.mem_of_getElem? (i := 5) rfl)) (by decide) (rm_P l Z a0 hw n0 h11 aQ qp qt p6 p5 S12.ge E_aQ g_aQ F_aQ_pattern F_aQ_trip F_aQ_from F_aQ_to) (W := 1) (by decide) (by decide) (by decide) (by decide) rfl (by rw [hml]; rfl) (argsL := [(.int qp), (.int qt), (.int p6), (.int p5)]) (rest := [(.ref aQ)]) (ps := [.int, .int, .int, .int]) (rt := none) (by decide) rfl rfl rfl (by show 2 * 0 + _ ≤ _; exact Nat.le_of_eq rfl) (hb hby at_79) ?_
    intro T19 h21 w22 S20 q23
    obtain ⟨q23a, q23K, q23f0, q23f1, q23f2, q23f3, q23f4⟩ := q23
    subst q23a
    have f24 := Exa.keep f14 q23K
    have f25 := Fld.keep f15 q23K (ninS n_aP_aQ nin0)
    have f26 := Fld.keep f16 q23K (ninS n_aP_aQ nin0)
    have f27 := Fld.keep f17 q23K (ninS n_aP_aQ nin0)
    have f28 := Fld.keep f18 q23K (ninS n_aP_aQ nin0)
    show WGo _ _ _ _ _ _ _ _ T19 (mkF m 82 #[.val (.int p1), .val (.int p2), .val (.int p3), .val (.int p4), .val (.int p5), .val (.int p6), .val (.int b6), .val (.int b7), .val (.int qp), .val (.int qt), .val (.ref aP), .unset, .unset, .unset] [(.ref aQ)])
    refine WGo.st (fun _ q => XS.astore S20.here hx rfl (hb hby at_82) rfl rfl (l' := #[.val (.int p1), .val (.int p2), .val (.int p3), .val (.int p4), .val (.int p5), .val (.int p6), .val (.int b6), .val (.int b7), .val (.int qp), .val (.int qt), .val (.ref aP), .val (.ref aQ), .unset, .unset]) rfl q) ?_
    show WGo _ _ _ _ _ _ _ _ T19 (mkF m 84 #[.val (.int p1), .val (.int p2), .val (.int p3), .val (.int p4), .val (.int p5), .val (.int p6), .val (.int b6), .val (.int b7), .val (.int qp), .val (.int qt), .val (.ref aP), .val (.ref aQ), .unset, .unset] [])
    refine WGo.st (fun _ q => XS.iload S20.here hx rfl (hb hby at_84) rfl q) ?_
    show WGo _ _ _ _ _ _ _ _ T19 (mkF m 86 #[.val (.int p1), .val (.int p2), .val (.int p3), .val (.int p4), .val (.int p5), .val (.int p6), .val (.int b6), .val (.int b7), .val (.int qp), .val (.int qt), .val (.ref aP), .val (.ref aQ), .unset, .unset] [(.int qp)])
    refine WGo.st (fun _ q => XS.iloadN S20.here hx rfl (hb hby at_86) rfl q) ?_
    show WGo _ _ _ _ _ _ _ _ T19 (mkF m 87 #[.val (.int p1), .val (.int p2), .val (.int p3), .val (.int p4), .val (.int p5), .val (.int p6), .val (.int b6), .val (.int b7), .val (.int qp), .val (.int qt), .val (.ref aP), .val (.ref aQ), .unset, .unset] [(.int p1), (.int qp)])
    by_cases c87 : qp = p1
    · refine WGo.st (fun _ q => XS.icmpNo S20.here hx rfl (hb hby at_87) rfl (teq c87).2 q) ?_
      show WGo _ _ _ _ _ _ _ _ T19 (mkF m 90 #[.val (.int p1), .val (.int p2), .val (.int p3), .val (.int p4), .val (.int p5), .val (.int p6), .val (.int b6), .val (.int b7), .val (.int qp), .val (.int qt), .val (.ref aP), .val (.ref aQ), .unset, .unset] [])
      refine WGo.st (fun _ q => XS.iload S20.here hx rfl (hb hby at_90) rfl q) ?_
      show WGo _ _ _ _ _ _ _ _ T19 (mkF m 92 #[.val (.int p1), .val (.int p2), .val (.int p3), .val (.int p4), .val (.int p5), .val (.int p6), .val (.int b6), .val (.int b7), .val (.int qp), .val (.int qt), .val (.ref aP), .val (.ref aQ), .unset, .unset] [(.int qt)])
      refine WGo.st (fun _ q => XS.iloadN S20.here hx rfl (hb hby at_92) rfl q) ?_
      show WGo _ _ _ _ _ _ _ _ T19 (mkF m 93 #[.val (.int p1), .val (.int p2), .val (.int p3), .val (.int p4), .val (.int p5), .val (.int p6), .val (.int b6), .val (.int b7), .val (.int qp), .val (.int qt), .val (.ref aP), .val (.ref aQ), .unset, .unset] [(.int p2), (.int qt)])
      by_cases c93 : qt = p2
      · refine WGo.st (fun _ q => XS.icmpNo S20.here hx rfl (hb hby at_93) rfl (teq c93).2 q) ?_
        show WGo _ _ _ _ _ _ _ _ T19 (mkF m 96 #[.val (.int p1), .val (.int p2), .val (.int p3), .val (.int p4), .val (.int p5), .val (.int p6), .val (.int b6), .val (.int b7), .val (.int qp), .val (.int qt), .val (.ref aP), .val (.ref aQ), .unset, .unset] [])
        refine WGo.st (fun _ q => XS.iconst S20.here hx rfl (hb hby at_96) q) ?_
        show WGo _ _ _ _ _ _ _ _ T19 (mkF m 97 #[.val (.int p1), .val (.int p2), .val (.int p3), .val (.int p4), .val (.int p5), .val (.int p6), .val (.int b6), .val (.int b7), .val (.int qp), .val (.int qt), .val (.ref aP), .val (.ref aQ), .unset, .unset] [(.int (1 : Int32))])
        refine WGo.st (fun _ q => XS.goto S20.here hx rfl (pc0 := 97) (pc' := 101) rfl (hb hby at_97) (by decide) (by decide) q) ?_
        show WGo _ _ _ _ _ _ _ _ T19 (mkF m 101 #[.val (.int p1), .val (.int p2), .val (.int p3), .val (.int p4), .val (.int p5), .val (.int p6), .val (.int b6), .val (.int b7), .val (.int qp), .val (.int qt), .val (.ref aP), .val (.ref aQ), .unset, .unset] [(.int (1 : Int32))])
        refine WGo.st (fun _ q => XS.istore S20.here hx rfl (hb hby at_101) rfl (l' := #[.val (.int p1), .val (.int p2), .val (.int p3), .val (.int p4), .val (.int p5), .val (.int p6), .val (.int b6), .val (.int b7), .val (.int qp), .val (.int qt), .val (.ref aP), .val (.ref aQ), .val (.int (1 : Int32)), .unset]) rfl q) ?_
        show WGo _ _ _ _ _ _ _ _ T19 (mkF m 103 #[.val (.int p1), .val (.int p2), .val (.int p3), .val (.int p4), .val (.int p5), .val (.int p6), .val (.int b6), .val (.int b7), .val (.int qp), .val (.int qt), .val (.ref aP), .val (.ref aQ), .val (.int (1 : Int32)), .unset] [])
        have hs1 : sameF p1 p2 qp qt = (1 : Int32) := by first | (rw [c87, c93]; simp [sameF]; done) | (have u : ¬ p2 = qt := fun q => c93 q.symm; simp [sameF, u]; done) | (have u : ¬ p1 = qp := fun q => c87 q.symm; simp [sameF, u]; done)
        have hs2 : sameF qp qt p1 p2 = (1 : Int32) := by first | (rw [c87, c93]; simp [sameF]; done) | (simp [sameF, c93]; done) | (simp [sameF, c87]; done)
        refine WGo.st (fun _ q => XS.aload S20.here hx rfl (hb hby at_103) rfl rfl q) ?_
        show WGo _ _ _ _ _ _ _ _ T19 (mkF m 105 #[.val (.int p1), .val (.int p2), .val (.int p3), .val (.int p4), .val (.int p5), .val (.int p6), .val (.int b6), .val (.int b7), .val (.int qp), .val (.int qt), .val (.ref aP), .val (.ref aQ), .val (.int (1 : Int32)), .unset] [(.ref aP)])
        refine WGo.st (fun _ q => XS.aload S20.here hx rfl (hb hby at_105) rfl rfl q) ?_
        show WGo _ _ _ _ _ _ _ _ T19 (mkF m 107 #[.val (.int p1), .val (.int p2), .val (.int p3), .val (.int p4), .val (.int p5), .val (.int p6), .val (.int b6), .val (.int b7), .val (.int qp), .val (.int qt), .val (.ref aP), .val (.ref aQ), .val (.int (1 : Int32)), .unset] [(.ref aQ), (.ref aP)])
        refine w_virtual S20 (y := (⟨"com/example/pathweave/pathweave/routing/Passage", "sameRun", "(Lcom/example/pathweave/pathweave/routing/Passage;)Z"⟩ : MethodName)) hown (hw _ (List.mem_of_getElem? (i := 22) rfl)) (hw _ (List.mem_of_getElem? (i := 23) rfl)) (hw _ (List.mem_of_getElem? (i := 25) rfl)) (hw _ (List.mem_of_getElem? (i := 24) rfl)) (hw _ (List.mem_of_getElem? (i := 2) rfl)) (hw _ (List.mem_of_getElem? (i := 26) rfl)) (by decide) f24 (rm_S l Z a0 hw n0 h21 aP aQ p1 p2 qp qt S20.ge f25 f26 q23f1 q23f2) (W := 0) (by decide) (by decide) (by decide) (by decide) rfl (by rw [hml]; rfl) (argsL := [(.ref aQ)]) (rest := []) (ps := [(.object "com/example/pathweave/pathweave/routing/Passage")]) (rt := (some .boolean)) (by decide) rfl rfl rfl (by show 2 * 0 + _ ≤ _; exact Nat.le_of_eq rfl) (hb hby at_107) ?_
        intro T29 h31 w32 S30 q33
        obtain ⟨q33a, q33b⟩ := q33
        subst q33a
        replace q33b := Eq.symm q33b
        subst q33b
        show WGo _ _ _ _ _ _ _ _ T29 (mkF m 110 #[.val (.int p1), .val (.int p2), .val (.int p3), .val (.int p4), .val (.int p5), .val (.int p6), .val (.int b6), .val (.int b7), .val (.int qp), .val (.int qt), .val (.ref aP), .val (.ref aQ), .val (.int (1 : Int32)), .unset] [(.int (sameF p1 p2 qp qt))])
        refine WGo.st (fun _ q => XS.iload S30.here hx rfl (hb hby at_110) rfl q) ?_
        show WGo _ _ _ _ _ _ _ _ T29 (mkF m 112 #[.val (.int p1), .val (.int p2), .val (.int p3), .val (.int p4), .val (.int p5), .val (.int p6), .val (.int b6), .val (.int b7), .val (.int qp), .val (.int qt), .val (.ref aP), .val (.ref aQ), .val (.int (1 : Int32)), .unset] [(.int (1 : Int32)), (.int (sameF p1 p2 qp qt))])
        refine WGo.st (fun _ q => XS.icmpYes S30.here hx rfl (pc0 := 112) (pc' := 117) rfl (hb hby at_112) rfl (teq hs1).1 (by decide) (by decide) q) ?_
        show WGo _ _ _ _ _ _ _ _ T29 (mkF m 117 #[.val (.int p1), .val (.int p2), .val (.int p3), .val (.int p4), .val (.int p5), .val (.int p6), .val (.int b6), .val (.int b7), .val (.int qp), .val (.int qt), .val (.ref aP), .val (.ref aQ), .val (.int (1 : Int32)), .unset] [])
        refine WGo.st (fun _ q => XS.aload S30.here hx rfl (hb hby at_117) rfl rfl q) ?_
        show WGo _ _ _ _ _ _ _ _ T29 (mkF m 119 #[.val (.int p1), .val (.int p2), .val (.int p3), .val (.int p4), .val (.int p5), .val (.int p6), .val (.int b6), .val (.int b7), .val (.int qp), .val (.int qt), .val (.ref aP), .val (.ref aQ), .val (.int (1 : Int32)), .unset] [(.ref aQ)])
        refine WGo.st (fun _ q => XS.aload S30.here hx rfl (hb hby at_119) rfl rfl q) ?_
        show WGo _ _ _ _ _ _ _ _ T29 (mkF m 121 #[.val (.int p1), .val (.int p2), .val (.int p3), .val (.int p4), .val (.int p5), .val (.int p6), .val (.int b6), .val (.int b7), .val (.int qp), .val (.int qt), .val (.ref aP), .val (.ref aQ), .val (.int (1 : Int32)), .unset] [(.ref aP), (.ref aQ)])
        refine w_virtual S30 (y := (⟨"com/example/pathweave/pathweave/routing/Passage", "sameRun", "(Lcom/example/pathweave/pathweave/routing/Passage;)Z"⟩ : MethodName)) hown (hw _ (List.mem_of_getElem? (i := 22) rfl)) (hw _ (List.mem_of_getElem? (i := 23) rfl)) (hw _ (List.mem_of_getElem? (i := 25) rfl)) (hw _ (List.mem_of_getElem? (i := 24) rfl)) (hw _ (List.mem_of_getElem? (i := 2) rfl)) (hw _ (List.mem_of_getElem? (i := 26) rfl)) (by decide) q23f0 (rm_S l Z a0 hw n0 h21 aQ aP qp qt p1 p2 S30.ge q23f1 q23f2 f25 f26) (W := 0) (by decide) (by decide) (by decide) (by decide) rfl (by rw [hml]; rfl) (argsL := [(.ref aP)]) (rest := []) (ps := [(.object "com/example/pathweave/pathweave/routing/Passage")]) (rt := (some .boolean)) (by decide) rfl rfl rfl (by show 2 * 0 + _ ≤ _; exact Nat.le_of_eq rfl) (hb hby at_121) ?_
        intro T34 h36 w37 S35 q38
        obtain ⟨q38a, q38b⟩ := q38
        subst q38a
        replace q38b := Eq.symm q38b
        subst q38b
        show WGo _ _ _ _ _ _ _ _ T34 (mkF m 124 #[.val (.int p1), .val (.int p2), .val (.int p3), .val (.int p4), .val (.int p5), .val (.int p6), .val (.int b6), .val (.int b7), .val (.int qp), .val (.int qt), .val (.ref aP), .val (.ref aQ), .val (.int (1 : Int32)), .unset] [(.int (sameF qp qt p1 p2))])
        refine WGo.st (fun _ q => XS.iload S35.here hx rfl (hb hby at_124) rfl q) ?_
        show WGo _ _ _ _ _ _ _ _ T34 (mkF m 126 #[.val (.int p1), .val (.int p2), .val (.int p3), .val (.int p4), .val (.int p5), .val (.int p6), .val (.int b6), .val (.int b7), .val (.int qp), .val (.int qt), .val (.ref aP), .val (.ref aQ), .val (.int (1 : Int32)), .unset] [(.int (1 : Int32)), (.int (sameF qp qt p1 p2))])
        refine WGo.st (fun _ q => XS.icmpYes S35.here hx rfl (pc0 := 126) (pc' := 131) rfl (hb hby at_126) rfl (teq hs2).1 (by decide) (by decide) q) ?_
        show WGo _ _ _ _ _ _ _ _ T34 (mkF m 131 #[.val (.int p1), .val (.int p2), .val (.int p3), .val (.int p4), .val (.int p5), .val (.int p6), .val (.int b6), .val (.int b7), .val (.int qp), .val (.int qt), .val (.ref aP), .val (.ref aQ), .val (.int (1 : Int32)), .unset] [])
        refine WGo.st (fun _ q => XS.aload S35.here hx rfl (hb hby at_131) rfl rfl q) ?_
        show WGo _ _ _ _ _ _ _ _ T34 (mkF m 133 #[.val (.int p1), .val (.int p2), .val (.int p3), .val (.int p4), .val (.int p5), .val (.int p6), .val (.int b6), .val (.int b7), .val (.int qp), .val (.int qt), .val (.ref aP), .val (.ref aQ), .val (.int (1 : Int32)), .unset] [(.ref aP)])
        refine WGo.st (fun _ q => XS.aload S35.here hx rfl (hb hby at_133) rfl rfl q) ?_
        show WGo _ _ _ _ _ _ _ _ T34 (mkF m 135 #[.val (.int p1), .val (.int p2), .val (.int p3), .val (.int p4), .val (.int p5), .val (.int p6), .val (.int b6), .val (.int b7), .val (.int qp), .val (.int qt), .val (.ref aP), .val (.ref aQ), .val (.int (1 : Int32)), .unset] [(.ref aP), (.ref aP)])
        refine w_virtual S35 (y := (⟨"com/example/pathweave/pathweave/routing/Passage", "sameRun", "(Lcom/example/pathweave/pathweave/routing/Passage;)Z"⟩ : MethodName)) hown (hw _ (List.mem_of_getElem? (i := 22) rfl)) (hw _ (List.mem_of_getElem? (i := 23) rfl)) (hw _ (List.mem_of_getElem? (i := 25) rfl)) (hw _ (List.mem_of_getElem? (i := 24) rfl)) (hw _ (List.mem_of_getElem? (i := 2) rfl)) (hw _ (List.mem_of_getElem? (i := 26) rfl)) (by decide) f24 (rm_S l Z a0 hw n0 h21 aP aP p1 p2 p1 p2 S35.ge f25 f26 f25 f26) (W := 0) (by decide) (by decide) (by decide) (by decide) rfl (by rw [hml]; rfl) (argsL := [(.ref aP)]) (rest := []) (ps := [(.object "com/example/pathweave/pathweave/routing/Passage")]) (rt := (some .boolean)) (by decide) rfl rfl rfl (by show 2 * 0 + _ ≤ _; exact Nat.le_of_eq rfl) (hb hby at_135) ?_
        intro T39 h41 w42 S40 q43
        obtain ⟨q43a, q43b⟩ := q43
        subst q43a
        replace q43b := Eq.symm q43b
        subst q43b
        show WGo _ _ _ _ _ _ _ _ T39 (mkF m 138 #[.val (.int p1), .val (.int p2), .val (.int p3), .val (.int p4), .val (.int p5), .val (.int p6), .val (.int b6), .val (.int b7), .val (.int qp), .val (.int qt), .val (.ref aP), .val (.ref aQ), .val (.int (1 : Int32)), .unset] [(.int (sameF p1 p2 p1 p2))])
        refine WGo.st (fun _ q => XS.ifYes S40.here hx rfl (pc0 := 138) (pc' := 143) rfl (hb hby at_138) rfl ((if0 _ _).trans (feq (by simp [sameF])).2) (by decide) (by decide) q) ?_
        show WGo _ _ _ _ _ _ _ _ T39 (mkF m 143 #[.val (.int p1), .val (.int p2), .val (.int p3), .val (.int p4), .val (.int p5), .val (.int p6), .val (.int b6), .val (.int b7), .val (.int qp), .val (.int qt), .val (.ref aP), .val (.ref aQ), .val (.int (1 : Int32)), .unset] [])
        refine WGo.st (fun _ q => XS.aload S40.here hx rfl (hb hby at_143) rfl rfl q) ?_
        show WGo _ _ _ _ _ _ _ _ T39 (mkF m 145 #[.val (.int p1), .val (.int p2), .val (.int p3), .val (.int p4), .val (.int p5), .val (.int p6), .val (.int b6), .val (.int b7), .val (.int qp), .val (.int qt), .val (.ref aP), .val (.ref aQ), .val (.int (1 : Int32)), .unset] [(.ref aP)])
        refine WGo.st (fun _ q => XS.iload S40.here hx rfl (hb hby at_145) rfl q) ?_
        show WGo _ _ _ _ _ _ _ _ T39 (mkF m 147 #[.val (.int p1), .val (.int p2), .val (.int p3), .val (.int p4), .val (.int p5), .val (.int p6), .val (.int b6), .val (.int b7), .val (.int qp), .val (.int qt), .val (.ref aP), .val (.ref aQ), .val (.int (1 : Int32)), .unset] [(.int p5), (.ref aP)])
        refine w_virtual S40 (y := (⟨"com/example/pathweave/pathweave/routing/Passage", "leftAt", "(I)Lcom/example/pathweave/pathweave/routing/Passage;"⟩ : MethodName)) hown (hw _ (List.mem_of_getElem? (i := 27) rfl)) (hw _ (List.mem_of_getElem? (i := 28) rfl)) (hw _ (List.mem_of_getElem? (i := 30) rfl)) (hw _ (List.mem_of_getElem? (i := 29) rfl)) (hw _ (List.mem_of_getElem? (i := 2) rfl)) (hw _ (List.mem_of_getElem? (i := 31) rfl)) (by decide) f24 (rm_L l Z a0 hw n0 h21 aP p5 p1 p2 p3 S40.ge f24 f25 f26 f27) (W := 0) (by decide) (by decide) (by decide) (by decide) rfl (by rw [hml]; rfl) (argsL := [(.int p5)]) (rest := []) (ps := [.int]) (rt := (some (.object "com/example/pathweave/pathweave/routing/Passage"))) (by decide) rfl rfl rfl (by show 2 * 0 + _ ≤ _; exact Nat.le_of_eq rfl) (hb hby at_147) ?_
        intro T44 h46 w47 S45 q48
        obtain ⟨b9, q48a, q48K, q48n, q48g, b9E, b9F1, b9F2⟩ := q48
        subst q48a
        have f49 := Exa.keep f24 q48K
        have f50 := Fld.keep f25 q48K nin0
        have f51 := Fld.keep f26 q48K nin0
        have f52 := Fld.keep f27 q48K nin0
        have f53 := Fld.keep f28 q48K nin0
        have f54 := Exa.keep q23f0 q48K
        have f55 := Fld.keep q23f1 q48K nin0
        have f56 := Fld.keep q23f2 q48K nin0
        have f57 := Fld.keep q23f3 q48K nin0
        have f58 := Fld.keep q23f4 q48K nin0
        show WGo _ _ _ _ _ _ _ _ T44 (mkF m 150 #[.val (.int p1), .val (.int p2), .val (.int p3), .val (.int p4), .val (.int p5), .val (.int p6), .val (.int b6), .val (.int b7), .val (.int qp), .val (.int qt), .val (.ref aP), .val (.ref aQ), .val (.int (1 : Int32)), .unset] [(.ref b9)])
        refine WGo.st (fun _ q => XS.astore S45.here hx rfl (hb hby at_150) rfl rfl (l' := #[.val (.int p1), .val (.int p2), .val (.int p3), .val (.int p4), .val (.int p5), .val (.int p6), .val (.int b6), .val (.int b7), .val (.int qp), .val (.int qt), .val (.ref aP), .val (.ref aQ), .val (.int (1 : Int32)), .val (.ref b9)]) rfl q) ?_
        show WGo _ _ _ _ _ _ _ _ T44 (mkF m 152 #[.val (.int p1), .val (.int p2), .val (.int p3), .val (.int p4), .val (.int p5), .val (.int p6), .val (.int b6), .val (.int b7), .val (.int qp), .val (.int qt), .val (.ref aP), .val (.ref aQ), .val (.int (1 : Int32)), .val (.ref b9)] [])
        refine WGo.st (fun _ q => XS.aload S45.here hx rfl (hb hby at_152) rfl rfl q) ?_
        show WGo _ _ _ _ _ _ _ _ T44 (mkF m 154 #[.val (.int p1), .val (.int p2), .val (.int p3), .val (.int p4), .val (.int p5), .val (.int p6), .val (.int b6), .val (.int b7), .val (.int qp), .val (.int qt), .val (.ref aP), .val (.ref aQ), .val (.int (1 : Int32)), .val (.ref b9)] [(.ref aP)])
        refine WGo.st (fun _ q => XS.aload S45.here hx rfl (hb hby at_154) rfl rfl q) ?_
        show WGo _ _ _ _ _ _ _ _ T44 (mkF m 156 #[.val (.int p1), .val (.int p2), .val (.int p3), .val (.int p4), .val (.int p5), .val (.int p6), .val (.int b6), .val (.int b7), .val (.int qp), .val (.int qt), .val (.ref aP), .val (.ref aQ), .val (.int (1 : Int32)), .val (.ref b9)] [(.ref b9), (.ref aP)])
        refine w_virtual S45 (y := (⟨"com/example/pathweave/pathweave/routing/Passage", "sameRun", "(Lcom/example/pathweave/pathweave/routing/Passage;)Z"⟩ : MethodName)) hown (hw _ (List.mem_of_getElem? (i := 22) rfl)) (hw _ (List.mem_of_getElem? (i := 23) rfl)) (hw _ (List.mem_of_getElem? (i := 25) rfl)) (hw _ (List.mem_of_getElem? (i := 24) rfl)) (hw _ (List.mem_of_getElem? (i := 2) rfl)) (hw _ (List.mem_of_getElem? (i := 26) rfl)) (by decide) f49 (rm_S l Z a0 hw n0 h46 aP b9 p1 p2 p1 p2 S45.ge f50 f51 b9F1 b9F2) (W := 0) (by decide) (by decide) (by decide) (by decide) rfl (by rw [hml]; rfl) (argsL := [(.ref b9)]) (rest := []) (ps := [(.object "com/example/pathweave/pathweave/routing/Passage")]) (rt := (some .boolean)) (by decide) rfl rfl rfl (by show 2 * 0 + _ ≤ _; exact Nat.le_of_eq rfl) (hb hby at_156) ?_
        intro T59 h61 w62 S60 q63
        obtain ⟨q63a, q63b⟩ := q63
        subst q63a
        replace q63b := Eq.symm q63b
        subst q63b
        show WGo _ _ _ _ _ _ _ _ T59 (mkF m 159 #[.val (.int p1), .val (.int p2), .val (.int p3), .val (.int p4), .val (.int p5), .val (.int p6), .val (.int b6), .val (.int b7), .val (.int qp), .val (.int qt), .val (.ref aP), .val (.ref aQ), .val (.int (1 : Int32)), .val (.ref b9)] [(.int (sameF p1 p2 p1 p2))])
        refine WGo.st (fun _ q => XS.ifYes S60.here hx rfl (pc0 := 159) (pc' := 164) rfl (hb hby at_159) rfl ((if0 _ _).trans (feq (by simp [sameF])).2) (by decide) (by decide) q) ?_
        show WGo _ _ _ _ _ _ _ _ T59 (mkF m 164 #[.val (.int p1), .val (.int p2), .val (.int p3), .val (.int p4), .val (.int p5), .val (.int p6), .val (.int b6), .val (.int b7), .val (.int qp), .val (.int qt), .val (.ref aP), .val (.ref aQ), .val (.int (1 : Int32)), .val (.ref b9)] [])
        refine WGo.st (fun _ q => XS.iconst S60.here hx rfl (hb hby at_164) q) ?_
        show WGo _ _ _ _ _ _ _ _ T59 (mkF m 165 #[.val (.int p1), .val (.int p2), .val (.int p3), .val (.int p4), .val (.int p5), .val (.int p6), .val (.int b6), .val (.int b7), .val (.int qp), .val (.int qt), .val (.ref aP), .val (.ref aQ), .val (.int (1 : Int32)), .val (.ref b9)] [(.int (1 : Int32))])
        refine w_retZ S60 hret (hb hby at_165) (by decide) (by decide) (by decide) ?_
        exact rfl
      · refine WGo.st (fun _ q => XS.icmpYes S20.here hx rfl (pc0 := 93) (pc' := 100) rfl (hb hby at_93) rfl (feq c93).2 (by decide) (by decide) q) ?_
        show WGo _ _ _ _ _ _ _ _ T19 (mkF m 100 #[.val (.int p1), .val (.int p2), .val (.int p3), .val (.int p4), .val (.int p5), .val (.int p6), .val (.int b6), .val (.int b7), .val (.int qp), .val (.int qt), .val (.ref aP), .val (.ref aQ), .unset, .unset] [])
        refine WGo.st (fun _ q => XS.iconst S20.here hx rfl (hb hby at_100) q) ?_
        show WGo _ _ _ _ _ _ _ _ T19 (mkF m 101 #[.val (.int p1), .val (.int p2), .val (.int p3), .val (.int p4), .val (.int p5), .val (.int p6), .val (.int b6), .val (.int b7), .val (.int qp), .val (.int qt), .val (.ref aP), .val (.ref aQ), .unset, .unset] [(.int (0 : Int32))])
        refine WGo.st (fun _ q => XS.istore S20.here hx rfl (hb hby at_101) rfl (l' := #[.val (.int p1), .val (.int p2), .val (.int p3), .val (.int p4), .val (.int p5), .val (.int p6), .val (.int b6), .val (.int b7), .val (.int qp), .val (.int qt), .val (.ref aP), .val (.ref aQ), .val (.int (0 : Int32)), .unset]) rfl q) ?_
        show WGo _ _ _ _ _ _ _ _ T19 (mkF m 103 #[.val (.int p1), .val (.int p2), .val (.int p3), .val (.int p4), .val (.int p5), .val (.int p6), .val (.int b6), .val (.int b7), .val (.int qp), .val (.int qt), .val (.ref aP), .val (.ref aQ), .val (.int (0 : Int32)), .unset] [])
        have hs1 : sameF p1 p2 qp qt = (0 : Int32) := by first | (rw [c87, c93]; simp [sameF]; done) | (have u : ¬ p2 = qt := fun q => c93 q.symm; simp [sameF, u]; done) | (have u : ¬ p1 = qp := fun q => c87 q.symm; simp [sameF, u]; done)
        have hs2 : sameF qp qt p1 p2 = (0 : Int32) := by first | (rw [c87, c93]; simp [sameF]; done) | (simp [sameF, c93]; done) | (simp [sameF, c87]; done)
        refine WGo.st (fun _ q => XS.aload S20.here hx rfl (hb hby at_103) rfl rfl q) ?_
        show WGo _ _ _ _ _ _ _ _ T19 (mkF m 105 #[.val (.int p1), .val (.int p2), .val (.int p3), .val (.int p4), .val (.int p5), .val (.int p6), .val (.int b6), .val (.int b7), .val (.int qp), .val (.int qt), .val (.ref aP), .val (.ref aQ), .val (.int (0 : Int32)), .unset] [(.ref aP)])
        refine WGo.st (fun _ q => XS.aload S20.here hx rfl (hb hby at_105) rfl rfl q) ?_
        show WGo _ _ _ _ _ _ _ _ T19 (mkF m 107 #[.val (.int p1), .val (.int p2), .val (.int p3), .val (.int p4), .val (.int p5), .val (.int p6), .val (.int b6), .val (.int b7), .val (.int qp), .val (.int qt), .val (.ref aP), .val (.ref aQ), .val (.int (0 : Int32)), .unset] [(.ref aQ), (.ref aP)])
        refine w_virtual S20 (y := (⟨"com/example/pathweave/pathweave/routing/Passage", "sameRun", "(Lcom/example/pathweave/pathweave/routing/Passage;)Z"⟩ : MethodName)) hown (hw _ (List.mem_of_getElem? (i := 22) rfl)) (hw _ (List.mem_of_getElem? (i := 23) rfl)) (hw _ (List.mem_of_getElem? (i := 25) rfl)) (hw _ (List.mem_of_getElem? (i := 24) rfl)) (hw _ (List.mem_of_getElem? (i := 2) rfl)) (hw _ (List.mem_of_getElem? (i := 26) rfl)) (by decide) f24 (rm_S l Z a0 hw n0 h21 aP aQ p1 p2 qp qt S20.ge f25 f26 q23f1 q23f2) (W := 0) (by decide) (by decide) (by decide) (by decide) rfl (by rw [hml]; rfl) (argsL := [(.ref aQ)]) (rest := []) (ps := [(.object "com/example/pathweave/pathweave/routing/Passage")]) (rt := (some .boolean)) (by decide) rfl rfl rfl (by show 2 * 0 + _ ≤ _; exact Nat.le_of_eq rfl) (hb hby at_107) ?_
        intro T64 h66 w67 S65 q68
        obtain ⟨q68a, q68b⟩ := q68
        subst q68a
        replace q68b := Eq.symm q68b
        subst q68b
        show WGo _ _ _ _ _ _ _ _ T64 (mkF m 110 #[.val (.int p1), .val (.int p2), .val (.int p3), .val (.int p4), .val (.int p5), .val (.int p6), .val (.int b6), .val (.int b7), .val (.int qp), .val (.int qt), .val (.ref aP), .val (.ref aQ), .val (.int (0 : Int32)), .unset] [(.int (sameF p1 p2 qp qt))])
        refine WGo.st (fun _ q => XS.iload S65.here hx rfl (hb hby at_110) rfl q) ?_
        show WGo _ _ _ _ _ _ _ _ T64 (mkF m 112 #[.val (.int p1), .val (.int p2), .val (.int p3), .val (.int p4), .val (.int p5), .val (.int p6), .val (.int b6), .val (.int b7), .val (.int qp), .val (.int qt), .val (.ref aP), .val (.ref aQ), .val (.int (0 : Int32)), .unset] [(.int (0 : Int32)), (.int (sameF p1 p2 qp qt))])
        refine WGo.st (fun _ q => XS.icmpYes S65.here hx rfl (pc0 := 112) (pc' := 117) rfl (hb hby at_112) rfl (teq hs1).1 (by decide) (by decide) q) ?_
        show WGo _ _ _ _ _ _ _ _ T64 (mkF m 117 #[.val (.int p1), .val (.int p2), .val (.int p3), .val (.int p4), .val (.int p5), .val (.int p6), .val (.int b6), .val (.int b7), .val (.int qp), .val (.int qt), .val (.ref aP), .val (.ref aQ), .val (.int (0 : Int32)), .unset] [])
        refine WGo.st (fun _ q => XS.aload S65.here hx rfl (hb hby at_117) rfl rfl q) ?_
        show WGo _ _ _ _ _ _ _ _ T64 (mkF m 119 #[.val (.int p1), .val (.int p2), .val (.int p3), .val (.int p4), .val (.int p5), .val (.int p6), .val (.int b6), .val (.int b7), .val (.int qp), .val (.int qt), .val (.ref aP), .val (.ref aQ), .val (.int (0 : Int32)), .unset] [(.ref aQ)])
        refine WGo.st (fun _ q => XS.aload S65.here hx rfl (hb hby at_119) rfl rfl q) ?_
        show WGo _ _ _ _ _ _ _ _ T64 (mkF m 121 #[.val (.int p1), .val (.int p2), .val (.int p3), .val (.int p4), .val (.int p5), .val (.int p6), .val (.int b6), .val (.int b7), .val (.int qp), .val (.int qt), .val (.ref aP), .val (.ref aQ), .val (.int (0 : Int32)), .unset] [(.ref aP), (.ref aQ)])
        refine w_virtual S65 (y := (⟨"com/example/pathweave/pathweave/routing/Passage", "sameRun", "(Lcom/example/pathweave/pathweave/routing/Passage;)Z"⟩ : MethodName)) hown (hw _ (List.mem_of_getElem? (i := 22) rfl)) (hw _ (List.mem_of_getElem? (i := 23) rfl)) (hw _ (List.mem_of_getElem? (i := 25) rfl)) (hw _ (List.mem_of_getElem? (i := 24) rfl)) (hw _ (List.mem_of_getElem? (i := 2) rfl)) (hw _ (List.mem_of_getElem? (i := 26) rfl)) (by decide) q23f0 (rm_S l Z a0 hw n0 h21 aQ aP qp qt p1 p2 S65.ge q23f1 q23f2 f25 f26) (W := 0) (by decide) (by decide) (by decide) (by decide) rfl (by rw [hml]; rfl) (argsL := [(.ref aP)]) (rest := []) (ps := [(.object "com/example/pathweave/pathweave/routing/Passage")]) (rt := (some .boolean)) (by decide) rfl rfl rfl (by show 2 * 0 + _ ≤ _; exact Nat.le_of_eq rfl) (hb hby at_121) ?_
        intro T69 h71 w72 S70 q73
        obtain ⟨q73a, q73b⟩ := q73
        subst q73a
        replace q73b := Eq.symm q73b
        subst q73b
        show WGo _ _ _ _ _ _ _ _ T69 (mkF m 124 #[.val (.int p1), .val (.int p2), .val (.int p3), .val (.int p4), .val (.int p5), .val (.int p6), .val (.int b6), .val (.int b7), .val (.int qp), .val (.int qt), .val (.ref aP), .val (.ref aQ), .val (.int (0 : Int32)), .unset] [(.int (sameF qp qt p1 p2))])
        refine WGo.st (fun _ q => XS.iload S70.here hx rfl (hb hby at_124) rfl q) ?_
        show WGo _ _ _ _ _ _ _ _ T69 (mkF m 126 #[.val (.int p1), .val (.int p2), .val (.int p3), .val (.int p4), .val (.int p5), .val (.int p6), .val (.int b6), .val (.int b7), .val (.int qp), .val (.int qt), .val (.ref aP), .val (.ref aQ), .val (.int (0 : Int32)), .unset] [(.int (0 : Int32)), (.int (sameF qp qt p1 p2))])
        refine WGo.st (fun _ q => XS.icmpYes S70.here hx rfl (pc0 := 126) (pc' := 131) rfl (hb hby at_126) rfl (teq hs2).1 (by decide) (by decide) q) ?_
        show WGo _ _ _ _ _ _ _ _ T69 (mkF m 131 #[.val (.int p1), .val (.int p2), .val (.int p3), .val (.int p4), .val (.int p5), .val (.int p6), .val (.int b6), .val (.int b7), .val (.int qp), .val (.int qt), .val (.ref aP), .val (.ref aQ), .val (.int (0 : Int32)), .unset] [])
        refine WGo.st (fun _ q => XS.aload S70.here hx rfl (hb hby at_131) rfl rfl q) ?_
        show WGo _ _ _ _ _ _ _ _ T69 (mkF m 133 #[.val (.int p1), .val (.int p2), .val (.int p3), .val (.int p4), .val (.int p5), .val (.int p6), .val (.int b6), .val (.int b7), .val (.int qp), .val (.int qt), .val (.ref aP), .val (.ref aQ), .val (.int (0 : Int32)), .unset] [(.ref aP)])
        refine WGo.st (fun _ q => XS.aload S70.here hx rfl (hb hby at_133) rfl rfl q) ?_
        show WGo _ _ _ _ _ _ _ _ T69 (mkF m 135 #[.val (.int p1), .val (.int p2), .val (.int p3), .val (.int p4), .val (.int p5), .val (.int p6), .val (.int b6), .val (.int b7), .val (.int qp), .val (.int qt), .val (.ref aP), .val (.ref aQ), .val (.int (0 : Int32)), .unset] [(.ref aP), (.ref aP)])
        refine w_virtual S70 (y := (⟨"com/example/pathweave/pathweave/routing/Passage", "sameRun", "(Lcom/example/pathweave/pathweave/routing/Passage;)Z"⟩ : MethodName)) hown (hw _ (List.mem_of_getElem? (i := 22) rfl)) (hw _ (List.mem_of_getElem? (i := 23) rfl)) (hw _ (List.mem_of_getElem? (i := 25) rfl)) (hw _ (List.mem_of_getElem? (i := 24) rfl)) (hw _ (List.mem_of_getElem? (i := 2) rfl)) (hw _ (List.mem_of_getElem? (i := 26) rfl)) (by decide) f24 (rm_S l Z a0 hw n0 h21 aP aP p1 p2 p1 p2 S70.ge f25 f26 f25 f26) (W := 0) (by decide) (by decide) (by decide) (by decide) rfl (by rw [hml]; rfl) (argsL := [(.ref aP)]) (rest := []) (ps := [(.object "com/example/pathweave/pathweave/routing/Passage")]) (rt := (some .boolean)) (by decide) rfl rfl rfl (by show 2 * 0 + _ ≤ _; exact Nat.le_of_eq rfl) (hb hby at_135) ?_
        intro T74 h76 w77 S75 q78
        obtain ⟨q78a, q78b⟩ := q78
        subst q78a
        replace q78b := Eq.symm q78b
        subst q78b
        show WGo _ _ _ _ _ _ _ _ T74 (mkF m 138 #[.val (.int p1), .val (.int p2), .val (.int p3), .val (.int p4), .val (.int p5), .val (.int p6), .val (.int b6), .val (.int b7), .val (.int qp), .val (.int qt), .val (.ref aP), .val (.ref aQ), .val (.int (0 : Int32)), .unset] [(.int (sameF p1 p2 p1 p2))])
        refine WGo.st (fun _ q => XS.ifYes S75.here hx rfl (pc0 := 138) (pc' := 143) rfl (hb hby at_138) rfl ((if0 _ _).trans (feq (by simp [sameF])).2) (by decide) (by decide) q) ?_
        show WGo _ _ _ _ _ _ _ _ T74 (mkF m 143 #[.val (.int p1), .val (.int p2), .val (.int p3), .val (.int p4), .val (.int p5), .val (.int p6), .val (.int b6), .val (.int b7), .val (.int qp), .val (.int qt), .val (.ref aP), .val (.ref aQ), .val (.int (0 : Int32)), .unset] [])
        refine WGo.st (fun _ q => XS.aload S75.here hx rfl (hb hby at_143) rfl rfl q) ?_
        show WGo _ _ _ _ _ _ _ _ T74 (mkF m 145 #[.val (.int p1), .val (.int p2), .val (.int p3), .val (.int p4), .val (.int p5), .val (.int p6), .val (.int b6), .val (.int b7), .val (.int qp), .val (.int qt), .val (.ref aP), .val (.ref aQ), .val (.int (0 : Int32)), .unset] [(.ref aP)])
        refine WGo.st (fun _ q => XS.iload S75.here hx rfl (hb hby at_145) rfl q) ?_
        show WGo _ _ _ _ _ _ _ _ T74 (mkF m 147 #[.val (.int p1), .val (.int p2), .val (.int p3), .val (.int p4), .val (.int p5), .val (.int p6), .val (.int b6), .val (.int b7), .val (.int qp), .val (.int qt), .val (.ref aP), .val (.ref aQ), .val (.int (0 : Int32)), .unset] [(.int p5), (.ref aP)])
        refine w_virtual S75 (y := (⟨"com/example/pathweave/pathweave/routing/Passage", "leftAt", "(I)Lcom/example/pathweave/pathweave/routing/Passage;"⟩ : MethodName)) hown (hw _ (List.mem_of_getElem? (i := 27) rfl)) (hw _ (List.mem_of_getElem? (i := 28) rfl)) (hw _ (List.mem_of_getElem? (i := 30) rfl)) (hw _ (List.mem_of_getElem? (i := 29) rfl)) (hw _ (List.mem_of_getElem? (i := 2) rfl)) (hw _ (List.mem_of_getElem? (i := 31) rfl)) (by decide) f24 (rm_L l Z a0 hw n0 h21 aP p5 p1 p2 p3 S75.ge f24 f25 f26 f27) (W := 0) (by decide) (by decide) (by decide) (by decide) rfl (by rw [hml]; rfl) (argsL := [(.int p5)]) (rest := []) (ps := [.int]) (rt := (some (.object "com/example/pathweave/pathweave/routing/Passage"))) (by decide) rfl rfl rfl (by show 2 * 0 + _ ≤ _; exact Nat.le_of_eq rfl) (hb hby at_147) ?_
        intro T79 h81 w82 S80 q83
        obtain ⟨b9, q83a, q83K, q83n, q83g, b9E, b9F1, b9F2⟩ := q83
        subst q83a
        have f84 := Exa.keep f24 q83K
        have f85 := Fld.keep f25 q83K nin0
        have f86 := Fld.keep f26 q83K nin0
        have f87 := Fld.keep f27 q83K nin0
        have f88 := Fld.keep f28 q83K nin0
        have f89 := Exa.keep q23f0 q83K
        have f90 := Fld.keep q23f1 q83K nin0
        have f91 := Fld.keep q23f2 q83K nin0
        have f92 := Fld.keep q23f3 q83K nin0
        have f93 := Fld.keep q23f4 q83K nin0
        show WGo _ _ _ _ _ _ _ _ T79 (mkF m 150 #[.val (.int p1), .val (.int p2), .val (.int p3), .val (.int p4), .val (.int p5), .val (.int p6), .val (.int b6), .val (.int b7), .val (.int qp), .val (.int qt), .val (.ref aP), .val (.ref aQ), .val (.int (0 : Int32)), .unset] [(.ref b9)])
        refine WGo.st (fun _ q => XS.astore S80.here hx rfl (hb hby at_150) rfl rfl (l' := #[.val (.int p1), .val (.int p2), .val (.int p3), .val (.int p4), .val (.int p5), .val (.int p6), .val (.int b6), .val (.int b7), .val (.int qp), .val (.int qt), .val (.ref aP), .val (.ref aQ), .val (.int (0 : Int32)), .val (.ref b9)]) rfl q) ?_
        show WGo _ _ _ _ _ _ _ _ T79 (mkF m 152 #[.val (.int p1), .val (.int p2), .val (.int p3), .val (.int p4), .val (.int p5), .val (.int p6), .val (.int b6), .val (.int b7), .val (.int qp), .val (.int qt), .val (.ref aP), .val (.ref aQ), .val (.int (0 : Int32)), .val (.ref b9)] [])
        refine WGo.st (fun _ q => XS.aload S80.here hx rfl (hb hby at_152) rfl rfl q) ?_
        show WGo _ _ _ _ _ _ _ _ T79 (mkF m 154 #[.val (.int p1), .val (.int p2), .val (.int p3), .val (.int p4), .val (.int p5), .val (.int p6), .val (.int b6), .val (.int b7), .val (.int qp), .val (.int qt), .val (.ref aP), .val (.ref aQ), .val (.int (0 : Int32)), .val (.ref b9)] [(.ref aP)])
        refine WGo.st (fun _ q => XS.aload S80.here hx rfl (hb hby at_154) rfl rfl q) ?_
        show WGo _ _ _ _ _ _ _ _ T79 (mkF m 156 #[.val (.int p1), .val (.int p2), .val (.int p3), .val (.int p4), .val (.int p5), .val (.int p6), .val (.int b6), .val (.int b7), .val (.int qp), .val (.int qt), .val (.ref aP), .val (.ref aQ), .val (.int (0 : Int32)), .val (.ref b9)] [(.ref b9), (.ref aP)])
        refine w_virtual S80 (y := (⟨"com/example/pathweave/pathweave/routing/Passage", "sameRun", "(Lcom/example/pathweave/pathweave/routing/Passage;)Z"⟩ : MethodName)) hown (hw _ (List.mem_of_getElem? (i := 22) rfl)) (hw _ (List.mem_of_getElem? (i := 23) rfl)) (hw _ (List.mem_of_getElem? (i := 25) rfl)) (hw _ (List.mem_of_getElem? (i := 24) rfl)) (hw _ (List.mem_of_getElem? (i := 2) rfl)) (hw _ (List.mem_of_getElem? (i := 26) rfl)) (by decide) f84 (rm_S l Z a0 hw n0 h81 aP b9 p1 p2 p1 p2 S80.ge f85 f86 b9F1 b9F2) (W := 0) (by decide) (by decide) (by decide) (by decide) rfl (by rw [hml]; rfl) (argsL := [(.ref b9)]) (rest := []) (ps := [(.object "com/example/pathweave/pathweave/routing/Passage")]) (rt := (some .boolean)) (by decide) rfl rfl rfl (by show 2 * 0 + _ ≤ _; exact Nat.le_of_eq rfl) (hb hby at_156) ?_
        intro T94 h96 w97 S95 q98
        obtain ⟨q98a, q98b⟩ := q98
        subst q98a
        replace q98b := Eq.symm q98b
        subst q98b
        show WGo _ _ _ _ _ _ _ _ T94 (mkF m 159 #[.val (.int p1), .val (.int p2), .val (.int p3), .val (.int p4), .val (.int p5), .val (.int p6), .val (.int b6), .val (.int b7), .val (.int qp), .val (.int qt), .val (.ref aP), .val (.ref aQ), .val (.int (0 : Int32)), .val (.ref b9)] [(.int (sameF p1 p2 p1 p2))])
        refine WGo.st (fun _ q => XS.ifYes S95.here hx rfl (pc0 := 159) (pc' := 164) rfl (hb hby at_159) rfl ((if0 _ _).trans (feq (by simp [sameF])).2) (by decide) (by decide) q) ?_
        show WGo _ _ _ _ _ _ _ _ T94 (mkF m 164 #[.val (.int p1), .val (.int p2), .val (.int p3), .val (.int p4), .val (.int p5), .val (.int p6), .val (.int b6), .val (.int b7), .val (.int qp), .val (.int qt), .val (.ref aP), .val (.ref aQ), .val (.int (0 : Int32)), .val (.ref b9)] [])
        refine WGo.st (fun _ q => XS.iconst S95.here hx rfl (hb hby at_164) q) ?_
        show WGo _ _ _ _ _ _ _ _ T94 (mkF m 165 #[.val (.int p1), .val (.int p2), .val (.int p3), .val (.int p4), .val (.int p5), .val (.int p6), .val (.int b6), .val (.int b7), .val (.int qp), .val (.int qt), .val (.ref aP), .val (.ref aQ), .val (.int (0 : Int32)), .val (.ref b9)] [(.int (1 : Int32))])
        refine w_retZ S95 hret (hb hby at_165) (by decide) (by decide) (by decide) ?_
        exact rfl
    · refine WGo.st (fun _ q => XS.icmpYes S20.here hx rfl (pc0 := 87) (pc' := 100) rfl (hb hby at_87) rfl (feq c87).2 (by decide) (by decide) q) ?_
      show WGo _ _ _ _ _ _ _ _ T19 (mkF m 100 #[.val (.int p1), .val (.int p2), .val (.int p3), .val (.int p4), .val (.int p5), .val (.int p6), .val (.int b6), .val (.int b7), .val (.int qp), .val (.int qt), .val (.ref aP), .val (.ref aQ), .unset, .unset] [])
      refine WGo.st (fun _ q => XS.iconst S20.here hx rfl (hb hby at_100) q) ?_
      show WGo _ _ _ _ _ _ _ _ T19 (mkF m 101 #[.val (.int p1), .val (.int p2), .val (.int p3), .val (.int p4), .val (.int p5), .val (.int p6), .val (.int b6), .val (.int b7), .val (.int qp), .val (.int qt), .val (.ref aP), .val (.ref aQ), .unset, .unset] [(.int (0 : Int32))])
      refine WGo.st (fun _ q => XS.istore S20.here hx rfl (hb hby at_101) rfl (l' := #[.val (.int p1), .val (.int p2), .val (.int p3), .val (.int p4), .val (.int p5), .val (.int p6), .val (.int b6), .val (.int b7), .val (.int qp), .val (.int qt), .val (.ref aP), .val (.ref aQ), .val (.int (0 : Int32)), .unset]) rfl q) ?_
      show WGo _ _ _ _ _ _ _ _ T19 (mkF m 103 #[.val (.int p1), .val (.int p2), .val (.int p3), .val (.int p4), .val (.int p5), .val (.int p6), .val (.int b6), .val (.int b7), .val (.int qp), .val (.int qt), .val (.ref aP), .val (.ref aQ), .val (.int (0 : Int32)), .unset] [])
      have hs1 : sameF p1 p2 qp qt = (0 : Int32) := by first | (rw [c87, c93]; simp [sameF]; done) | (have u : ¬ p2 = qt := fun q => c93 q.symm; simp [sameF, u]; done) | (have u : ¬ p1 = qp := fun q => c87 q.symm; simp [sameF, u]; done)
      have hs2 : sameF qp qt p1 p2 = (0 : Int32) := by first | (rw [c87, c93]; simp [sameF]; done) | (simp [sameF, c93]; done) | (simp [sameF, c87]; done)
      refine WGo.st (fun _ q => XS.aload S20.here hx rfl (hb hby at_103) rfl rfl q) ?_
      show WGo _ _ _ _ _ _ _ _ T19 (mkF m 105 #[.val (.int p1), .val (.int p2), .val (.int p3), .val (.int p4), .val (.int p5), .val (.int p6), .val (.int b6), .val (.int b7), .val (.int qp), .val (.int qt), .val (.ref aP), .val (.ref aQ), .val (.int (0 : Int32)), .unset] [(.ref aP)])
      refine WGo.st (fun _ q => XS.aload S20.here hx rfl (hb hby at_105) rfl rfl q) ?_
      show WGo _ _ _ _ _ _ _ _ T19 (mkF m 107 #[.val (.int p1), .val (.int p2), .val (.int p3), .val (.int p4), .val (.int p5), .val (.int p6), .val (.int b6), .val (.int b7), .val (.int qp), .val (.int qt), .val (.ref aP), .val (.ref aQ), .val (.int (0 : Int32)), .unset] [(.ref aQ), (.ref aP)])
      refine w_virtual S20 (y := (⟨"com/example/pathweave/pathweave/routing/Passage", "sameRun", "(Lcom/example/pathweave/pathweave/routing/Passage;)Z"⟩ : MethodName)) hown (hw _ (List.mem_of_getElem? (i := 22) rfl)) (hw _ (List.mem_of_getElem? (i := 23) rfl)) (hw _ (List.mem_of_getElem? (i := 25) rfl)) (hw _ (List.mem_of_getElem? (i := 24) rfl)) (hw _ (List.mem_of_getElem? (i := 2) rfl)) (hw _ (List.mem_of_getElem? (i := 26) rfl)) (by decide) f24 (rm_S l Z a0 hw n0 h21 aP aQ p1 p2 qp qt S20.ge f25 f26 q23f1 q23f2) (W := 0) (by decide) (by decide) (by decide) (by decide) rfl (by rw [hml]; rfl) (argsL := [(.ref aQ)]) (rest := []) (ps := [(.object "com/example/pathweave/pathweave/routing/Passage")]) (rt := (some .boolean)) (by decide) rfl rfl rfl (by show 2 * 0 + _ ≤ _; exact Nat.le_of_eq rfl) (hb hby at_107) ?_
      intro T99 h101 w102 S100 q103
      obtain ⟨q103a, q103b⟩ := q103
      subst q103a
      replace q103b := Eq.symm q103b
      subst q103b
      show WGo _ _ _ _ _ _ _ _ T99 (mkF m 110 #[.val (.int p1), .val (.int p2), .val (.int p3), .val (.int p4), .val (.int p5), .val (.int p6), .val (.int b6), .val (.int b7), .val (.int qp), .val (.int qt), .val (.ref aP), .val (.ref aQ), .val (.int (0 : Int32)), .unset] [(.int (sameF p1 p2 qp qt))])
      refine WGo.st (fun _ q => XS.iload S100.here hx rfl (hb hby at_110) rfl q) ?_
      show WGo _ _ _ _ _ _ _ _ T99 (mkF m 112 #[.val (.int p1), .val (.int p2), .val (.int p3), .val (.int p4), .val (.int p5), .val (.int p6), .val (.int b6), .val (.int b7), .val (.int qp), .val (.int qt), .val (.ref aP), .val (.ref aQ), .val (.int (0 : Int32)), .unset] [(.int (0 : Int32)), (.int (sameF p1 p2 qp qt))])
      refine WGo.st (fun _ q => XS.icmpYes S100.here hx rfl (pc0 := 112) (pc' := 117) rfl (hb hby at_112) rfl (teq hs1).1 (by decide) (by decide) q) ?_
      show WGo _ _ _ _ _ _ _ _ T99 (mkF m 117 #[.val (.int p1), .val (.int p2), .val (.int p3), .val (.int p4), .val (.int p5), .val (.int p6), .val (.int b6), .val (.int b7), .val (.int qp), .val (.int qt), .val (.ref aP), .val (.ref aQ), .val (.int (0 : Int32)), .unset] [])
      refine WGo.st (fun _ q => XS.aload S100.here hx rfl (hb hby at_117) rfl rfl q) ?_
      show WGo _ _ _ _ _ _ _ _ T99 (mkF m 119 #[.val (.int p1), .val (.int p2), .val (.int p3), .val (.int p4), .val (.int p5), .val (.int p6), .val (.int b6), .val (.int b7), .val (.int qp), .val (.int qt), .val (.ref aP), .val (.ref aQ), .val (.int (0 : Int32)), .unset] [(.ref aQ)])
      refine WGo.st (fun _ q => XS.aload S100.here hx rfl (hb hby at_119) rfl rfl q) ?_
      show WGo _ _ _ _ _ _ _ _ T99 (mkF m 121 #[.val (.int p1), .val (.int p2), .val (.int p3), .val (.int p4), .val (.int p5), .val (.int p6), .val (.int b6), .val (.int b7), .val (.int qp), .val (.int qt), .val (.ref aP), .val (.ref aQ), .val (.int (0 : Int32)), .unset] [(.ref aP), (.ref aQ)])
      refine w_virtual S100 (y := (⟨"com/example/pathweave/pathweave/routing/Passage", "sameRun", "(Lcom/example/pathweave/pathweave/routing/Passage;)Z"⟩ : MethodName)) hown (hw _ (List.mem_of_getElem? (i := 22) rfl)) (hw _ (List.mem_of_getElem? (i := 23) rfl)) (hw _ (List.mem_of_getElem? (i := 25) rfl)) (hw _ (List.mem_of_getElem? (i := 24) rfl)) (hw _ (List.mem_of_getElem? (i := 2) rfl)) (hw _ (List.mem_of_getElem? (i := 26) rfl)) (by decide) q23f0 (rm_S l Z a0 hw n0 h21 aQ aP qp qt p1 p2 S100.ge q23f1 q23f2 f25 f26) (W := 0) (by decide) (by decide) (by decide) (by decide) rfl (by rw [hml]; rfl) (argsL := [(.ref aP)]) (rest := []) (ps := [(.object "com/example/pathweave/pathweave/routing/Passage")]) (rt := (some .boolean)) (by decide) rfl rfl rfl (by show 2 * 0 + _ ≤ _; exact Nat.le_of_eq rfl) (hb hby at_121) ?_
      intro T104 h106 w107 S105 q108
      obtain ⟨q108a, q108b⟩ := q108
      subst q108a
      replace q108b := Eq.symm q108b
      subst q108b
      show WGo _ _ _ _ _ _ _ _ T104 (mkF m 124 #[.val (.int p1), .val (.int p2), .val (.int p3), .val (.int p4), .val (.int p5), .val (.int p6), .val (.int b6), .val (.int b7), .val (.int qp), .val (.int qt), .val (.ref aP), .val (.ref aQ), .val (.int (0 : Int32)), .unset] [(.int (sameF qp qt p1 p2))])
      refine WGo.st (fun _ q => XS.iload S105.here hx rfl (hb hby at_124) rfl q) ?_
      show WGo _ _ _ _ _ _ _ _ T104 (mkF m 126 #[.val (.int p1), .val (.int p2), .val (.int p3), .val (.int p4), .val (.int p5), .val (.int p6), .val (.int b6), .val (.int b7), .val (.int qp), .val (.int qt), .val (.ref aP), .val (.ref aQ), .val (.int (0 : Int32)), .unset] [(.int (0 : Int32)), (.int (sameF qp qt p1 p2))])
      refine WGo.st (fun _ q => XS.icmpYes S105.here hx rfl (pc0 := 126) (pc' := 131) rfl (hb hby at_126) rfl (teq hs2).1 (by decide) (by decide) q) ?_
      show WGo _ _ _ _ _ _ _ _ T104 (mkF m 131 #[.val (.int p1), .val (.int p2), .val (.int p3), .val (.int p4), .val (.int p5), .val (.int p6), .val (.int b6), .val (.int b7), .val (.int qp), .val (.int qt), .val (.ref aP), .val (.ref aQ), .val (.int (0 : Int32)), .unset] [])
      refine WGo.st (fun _ q => XS.aload S105.here hx rfl (hb hby at_131) rfl rfl q) ?_
      show WGo _ _ _ _ _ _ _ _ T104 (mkF m 133 #[.val (.int p1), .val (.int p2), .val (.int p3), .val (.int p4), .val (.int p5), .val (.int p6), .val (.int b6), .val (.int b7), .val (.int qp), .val (.int qt), .val (.ref aP), .val (.ref aQ), .val (.int (0 : Int32)), .unset] [(.ref aP)])
      refine WGo.st (fun _ q => XS.aload S105.here hx rfl (hb hby at_133) rfl rfl q) ?_
      show WGo _ _ _ _ _ _ _ _ T104 (mkF m 135 #[.val (.int p1), .val (.int p2), .val (.int p3), .val (.int p4), .val (.int p5), .val (.int p6), .val (.int b6), .val (.int b7), .val (.int qp), .val (.int qt), .val (.ref aP), .val (.ref aQ), .val (.int (0 : Int32)), .unset] [(.ref aP), (.ref aP)])
      refine w_virtual S105 (y := (⟨"com/example/pathweave/pathweave/routing/Passage", "sameRun", "(Lcom/example/pathweave/pathweave/routing/Passage;)Z"⟩ : MethodName)) hown (hw _ (List.mem_of_getElem? (i := 22) rfl)) (hw _ (List.mem_of_getElem? (i := 23) rfl)) (hw _ (List.mem_of_getElem? (i := 25) rfl)) (hw _ (List.mem_of_getElem? (i := 24) rfl)) (hw _ (List.mem_of_getElem? (i := 2) rfl)) (hw _ (List.mem_of_getElem? (i := 26) rfl)) (by decide) f24 (rm_S l Z a0 hw n0 h21 aP aP p1 p2 p1 p2 S105.ge f25 f26 f25 f26) (W := 0) (by decide) (by decide) (by decide) (by decide) rfl (by rw [hml]; rfl) (argsL := [(.ref aP)]) (rest := []) (ps := [(.object "com/example/pathweave/pathweave/routing/Passage")]) (rt := (some .boolean)) (by decide) rfl rfl rfl (by show 2 * 0 + _ ≤ _; exact Nat.le_of_eq rfl) (hb hby at_135) ?_
      intro T109 h111 w112 S110 q113
      obtain ⟨q113a, q113b⟩ := q113
      subst q113a
      replace q113b := Eq.symm q113b
      subst q113b
      show WGo _ _ _ _ _ _ _ _ T109 (mkF m 138 #[.val (.int p1), .val (.int p2), .val (.int p3), .val (.int p4), .val (.int p5), .val (.int p6), .val (.int b6), .val (.int b7), .val (.int qp), .val (.int qt), .val (.ref aP), .val (.ref aQ), .val (.int (0 : Int32)), .unset] [(.int (sameF p1 p2 p1 p2))])
      refine WGo.st (fun _ q => XS.ifYes S110.here hx rfl (pc0 := 138) (pc' := 143) rfl (hb hby at_138) rfl ((if0 _ _).trans (feq (by simp [sameF])).2) (by decide) (by decide) q) ?_
      show WGo _ _ _ _ _ _ _ _ T109 (mkF m 143 #[.val (.int p1), .val (.int p2), .val (.int p3), .val (.int p4), .val (.int p5), .val (.int p6), .val (.int b6), .val (.int b7), .val (.int qp), .val (.int qt), .val (.ref aP), .val (.ref aQ), .val (.int (0 : Int32)), .unset] [])
      refine WGo.st (fun _ q => XS.aload S110.here hx rfl (hb hby at_143) rfl rfl q) ?_
      show WGo _ _ _ _ _ _ _ _ T109 (mkF m 145 #[.val (.int p1), .val (.int p2), .val (.int p3), .val (.int p4), .val (.int p5), .val (.int p6), .val (.int b6), .val (.int b7), .val (.int qp), .val (.int qt), .val (.ref aP), .val (.ref aQ), .val (.int (0 : Int32)), .unset] [(.ref aP)])
      refine WGo.st (fun _ q => XS.iload S110.here hx rfl (hb hby at_145) rfl q) ?_
      show WGo _ _ _ _ _ _ _ _ T109 (mkF m 147 #[.val (.int p1), .val (.int p2), .val (.int p3), .val (.int p4), .val (.int p5), .val (.int p6), .val (.int b6), .val (.int b7), .val (.int qp), .val (.int qt), .val (.ref aP), .val (.ref aQ), .val (.int (0 : Int32)), .unset] [(.int p5), (.ref aP)])
      refine w_virtual S110 (y := (⟨"com/example/pathweave/pathweave/routing/Passage", "leftAt", "(I)Lcom/example/pathweave/pathweave/routing/Passage;"⟩ : MethodName)) hown (hw _ (List.mem_of_getElem? (i := 27) rfl)) (hw _ (List.mem_of_getElem? (i := 28) rfl)) (hw _ (List.mem_of_getElem? (i := 30) rfl)) (hw _ (List.mem_of_getElem? (i := 29) rfl)) (hw _ (List.mem_of_getElem? (i := 2) rfl)) (hw _ (List.mem_of_getElem? (i := 31) rfl)) (by decide) f24 (rm_L l Z a0 hw n0 h21 aP p5 p1 p2 p3 S110.ge f24 f25 f26 f27) (W := 0) (by decide) (by decide) (by decide) (by decide) rfl (by rw [hml]; rfl) (argsL := [(.int p5)]) (rest := []) (ps := [.int]) (rt := (some (.object "com/example/pathweave/pathweave/routing/Passage"))) (by decide) rfl rfl rfl (by show 2 * 0 + _ ≤ _; exact Nat.le_of_eq rfl) (hb hby at_147) ?_
      intro T114 h116 w117 S115 q118
      obtain ⟨b9, q118a, q118K, q118n, q118g, b9E, b9F1, b9F2⟩ := q118
      subst q118a
      have f119 := Exa.keep f24 q118K
      have f120 := Fld.keep f25 q118K nin0
      have f121 := Fld.keep f26 q118K nin0
      have f122 := Fld.keep f27 q118K nin0
      have f123 := Fld.keep f28 q118K nin0
      have f124 := Exa.keep q23f0 q118K
      have f125 := Fld.keep q23f1 q118K nin0
      have f126 := Fld.keep q23f2 q118K nin0
      have f127 := Fld.keep q23f3 q118K nin0
      have f128 := Fld.keep q23f4 q118K nin0
      show WGo _ _ _ _ _ _ _ _ T114 (mkF m 150 #[.val (.int p1), .val (.int p2), .val (.int p3), .val (.int p4), .val (.int p5), .val (.int p6), .val (.int b6), .val (.int b7), .val (.int qp), .val (.int qt), .val (.ref aP), .val (.ref aQ), .val (.int (0 : Int32)), .unset] [(.ref b9)])
      refine WGo.st (fun _ q => XS.astore S115.here hx rfl (hb hby at_150) rfl rfl (l' := #[.val (.int p1), .val (.int p2), .val (.int p3), .val (.int p4), .val (.int p5), .val (.int p6), .val (.int b6), .val (.int b7), .val (.int qp), .val (.int qt), .val (.ref aP), .val (.ref aQ), .val (.int (0 : Int32)), .val (.ref b9)]) rfl q) ?_
      show WGo _ _ _ _ _ _ _ _ T114 (mkF m 152 #[.val (.int p1), .val (.int p2), .val (.int p3), .val (.int p4), .val (.int p5), .val (.int p6), .val (.int b6), .val (.int b7), .val (.int qp), .val (.int qt), .val (.ref aP), .val (.ref aQ), .val (.int (0 : Int32)), .val (.ref b9)] [])
      refine WGo.st (fun _ q => XS.aload S115.here hx rfl (hb hby at_152) rfl rfl q) ?_
      show WGo _ _ _ _ _ _ _ _ T114 (mkF m 154 #[.val (.int p1), .val (.int p2), .val (.int p3), .val (.int p4), .val (.int p5), .val (.int p6), .val (.int b6), .val (.int b7), .val (.int qp), .val (.int qt), .val (.ref aP), .val (.ref aQ), .val (.int (0 : Int32)), .val (.ref b9)] [(.ref aP)])
      refine WGo.st (fun _ q => XS.aload S115.here hx rfl (hb hby at_154) rfl rfl q) ?_
      show WGo _ _ _ _ _ _ _ _ T114 (mkF m 156 #[.val (.int p1), .val (.int p2), .val (.int p3), .val (.int p4), .val (.int p5), .val (.int p6), .val (.int b6), .val (.int b7), .val (.int qp), .val (.int qt), .val (.ref aP), .val (.ref aQ), .val (.int (0 : Int32)), .val (.ref b9)] [(.ref b9), (.ref aP)])
      refine w_virtual S115 (y := (⟨"com/example/pathweave/pathweave/routing/Passage", "sameRun", "(Lcom/example/pathweave/pathweave/routing/Passage;)Z"⟩ : MethodName)) hown (hw _ (List.mem_of_getElem? (i := 22) rfl)) (hw _ (List.mem_of_getElem? (i := 23) rfl)) (hw _ (List.mem_of_getElem? (i := 25) rfl)) (hw _ (List.mem_of_getElem? (i := 24) rfl)) (hw _ (List.mem_of_getElem? (i := 2) rfl)) (hw _ (List.mem_of_getElem? (i := 26) rfl)) (by decide) f119 (rm_S l Z a0 hw n0 h116 aP b9 p1 p2 p1 p2 S115.ge f120 f121 b9F1 b9F2) (W := 0) (by decide) (by decide) (by decide) (by decide) rfl (by rw [hml]; rfl) (argsL := [(.ref b9)]) (rest := []) (ps := [(.object "com/example/pathweave/pathweave/routing/Passage")]) (rt := (some .boolean)) (by decide) rfl rfl rfl (by show 2 * 0 + _ ≤ _; exact Nat.le_of_eq rfl) (hb hby at_156) ?_
      intro T129 h131 w132 S130 q133
      obtain ⟨q133a, q133b⟩ := q133
      subst q133a
      replace q133b := Eq.symm q133b
      subst q133b
      show WGo _ _ _ _ _ _ _ _ T129 (mkF m 159 #[.val (.int p1), .val (.int p2), .val (.int p3), .val (.int p4), .val (.int p5), .val (.int p6), .val (.int b6), .val (.int b7), .val (.int qp), .val (.int qt), .val (.ref aP), .val (.ref aQ), .val (.int (0 : Int32)), .val (.ref b9)] [(.int (sameF p1 p2 p1 p2))])
      refine WGo.st (fun _ q => XS.ifYes S130.here hx rfl (pc0 := 159) (pc' := 164) rfl (hb hby at_159) rfl ((if0 _ _).trans (feq (by simp [sameF])).2) (by decide) (by decide) q) ?_
      show WGo _ _ _ _ _ _ _ _ T129 (mkF m 164 #[.val (.int p1), .val (.int p2), .val (.int p3), .val (.int p4), .val (.int p5), .val (.int p6), .val (.int b6), .val (.int b7), .val (.int qp), .val (.int qt), .val (.ref aP), .val (.ref aQ), .val (.int (0 : Int32)), .val (.ref b9)] [])
      refine WGo.st (fun _ q => XS.iconst S130.here hx rfl (hb hby at_164) q) ?_
      show WGo _ _ _ _ _ _ _ _ T129 (mkF m 165 #[.val (.int p1), .val (.int p2), .val (.int p3), .val (.int p4), .val (.int p5), .val (.int p6), .val (.int b6), .val (.int b7), .val (.int qp), .val (.int qt), .val (.ref aP), .val (.ref aQ), .val (.int (0 : Int32)), .val (.ref b9)] [(.int (1 : Int32))])
      refine w_retZ S130 hret (hb hby at_165) (by decide) (by decide) (by decide) ?_
      exact rfl
  refine WGo.st (fun _ q => XS.iload S.here hx rfl (hb hby at_0) rfl q) ?_
  show WGo _ _ _ _ _ _ _ _ T (mkF m 2 #[.val (.int p1), .val (.int p2), .val (.int p3), .val (.int p4), .val (.int p5), .val (.int p6), .unset, .unset, .unset, .unset, .unset, .unset, .unset, .unset] [(.int p6)])
  refine WGo.st (fun _ q => XS.iconst S.here hx rfl (hb hby at_2) q) ?_
  show WGo _ _ _ _ _ _ _ _ T (mkF m 3 #[.val (.int p1), .val (.int p2), .val (.int p3), .val (.int p4), .val (.int p5), .val (.int p6), .unset, .unset, .unset, .unset, .unset, .unset, .unset, .unset] [(.int (1 : Int32)), (.int p6)])
  refine WGo.st (fun _ q => XS.iand S.here hx rfl (hb hby at_3) rfl q) ?_
  show WGo _ _ _ _ _ _ _ _ T (mkF m 4 #[.val (.int p1), .val (.int p2), .val (.int p3), .val (.int p4), .val (.int p5), .val (.int p6), .unset, .unset, .unset, .unset, .unset, .unset, .unset, .unset] [(.int (p6 &&& (1 : Int32)))])
  by_cases c4 : (p6 &&& (1 : Int32)) = (0 : Int32)
  · refine WGo.st (fun _ q => XS.ifYes S.here hx rfl (pc0 := 4) (pc' := 11) rfl (hb hby at_4) rfl ((if0 _ _).trans (teq c4).1) (by decide) (by decide) q) ?_
    show WGo _ _ _ _ _ _ _ _ T (mkF m 11 #[.val (.int p1), .val (.int p2), .val (.int p3), .val (.int p4), .val (.int p5), .val (.int p6), .unset, .unset, .unset, .unset, .unset, .unset, .unset, .unset] [])
    refine WGo.st (fun _ q => XS.iconst S.here hx rfl (hb hby at_11) q) ?_
    show WGo _ _ _ _ _ _ _ _ T (mkF m 12 #[.val (.int p1), .val (.int p2), .val (.int p3), .val (.int p4), .val (.int p5), .val (.int p6), .unset, .unset, .unset, .unset, .unset, .unset, .unset, .unset] [(.int (0 : Int32))])
    refine WGo.st (fun _ q => XS.istore S.here hx rfl (hb hby at_12) rfl (l' := #[.val (.int p1), .val (.int p2), .val (.int p3), .val (.int p4), .val (.int p5), .val (.int p6), .val (.int (0 : Int32)), .unset, .unset, .unset, .unset, .unset, .unset, .unset]) rfl q) ?_
    show WGo _ _ _ _ _ _ _ _ T (mkF m 14 #[.val (.int p1), .val (.int p2), .val (.int p3), .val (.int p4), .val (.int p5), .val (.int p6), .val (.int (0 : Int32)), .unset, .unset, .unset, .unset, .unset, .unset, .unset] [])
    refine WGo.st (fun _ q => XS.iload S.here hx rfl (hb hby at_14) rfl q) ?_
    show WGo _ _ _ _ _ _ _ _ T (mkF m 16 #[.val (.int p1), .val (.int p2), .val (.int p3), .val (.int p4), .val (.int p5), .val (.int p6), .val (.int (0 : Int32)), .unset, .unset, .unset, .unset, .unset, .unset, .unset] [(.int p6)])
    refine WGo.st (fun _ q => XS.iconst S.here hx rfl (hb hby at_16) q) ?_
    show WGo _ _ _ _ _ _ _ _ T (mkF m 17 #[.val (.int p1), .val (.int p2), .val (.int p3), .val (.int p4), .val (.int p5), .val (.int p6), .val (.int (0 : Int32)), .unset, .unset, .unset, .unset, .unset, .unset, .unset] [(.int (2 : Int32)), (.int p6)])
    refine WGo.st (fun _ q => XS.iand S.here hx rfl (hb hby at_17) rfl q) ?_
    show WGo _ _ _ _ _ _ _ _ T (mkF m 18 #[.val (.int p1), .val (.int p2), .val (.int p3), .val (.int p4), .val (.int p5), .val (.int p6), .val (.int (0 : Int32)), .unset, .unset, .unset, .unset, .unset, .unset, .unset] [(.int (p6 &&& (2 : Int32)))])
    by_cases c18 : (p6 &&& (2 : Int32)) = (0 : Int32)
    · refine WGo.st (fun _ q => XS.ifYes S.here hx rfl (pc0 := 18) (pc' := 25) rfl (hb hby at_18) rfl ((if0 _ _).trans (teq c18).1) (by decide) (by decide) q) ?_
      show WGo _ _ _ _ _ _ _ _ T (mkF m 25 #[.val (.int p1), .val (.int p2), .val (.int p3), .val (.int p4), .val (.int p5), .val (.int p6), .val (.int (0 : Int32)), .unset, .unset, .unset, .unset, .unset, .unset, .unset] [])
      refine WGo.st (fun _ q => XS.iconst S.here hx rfl (hb hby at_25) q) ?_
      show WGo _ _ _ _ _ _ _ _ T (mkF m 26 #[.val (.int p1), .val (.int p2), .val (.int p3), .val (.int p4), .val (.int p5), .val (.int p6), .val (.int (0 : Int32)), .unset, .unset, .unset, .unset, .unset, .unset, .unset] [(.int (0 : Int32))])
      refine WGo.st (fun _ q => XS.istore S.here hx rfl (hb hby at_26) rfl (l' := #[.val (.int p1), .val (.int p2), .val (.int p3), .val (.int p4), .val (.int p5), .val (.int p6), .val (.int (0 : Int32)), .val (.int (0 : Int32)), .unset, .unset, .unset, .unset, .unset, .unset]) rfl q) ?_
      show WGo _ _ _ _ _ _ _ _ T (mkF m 28 #[.val (.int p1), .val (.int p2), .val (.int p3), .val (.int p4), .val (.int p5), .val (.int p6), .val (.int (0 : Int32)), .val (.int (0 : Int32)), .unset, .unset, .unset, .unset, .unset, .unset] [])
      refine WGo.st (fun _ q => XS.iload S.here hx rfl (hb hby at_28) rfl q) ?_
      show WGo _ _ _ _ _ _ _ _ T (mkF m 30 #[.val (.int p1), .val (.int p2), .val (.int p3), .val (.int p4), .val (.int p5), .val (.int p6), .val (.int (0 : Int32)), .val (.int (0 : Int32)), .unset, .unset, .unset, .unset, .unset, .unset] [(.int (0 : Int32))])
      refine WGo.st (fun _ q => XS.ifYes S.here hx rfl (pc0 := 30) (pc' := 37) rfl (hb hby at_30) rfl ((if0 _ _).trans (teq (by decide : ((0 : Int32) = (0 : Int32)))).1) (by decide) (by decide) q) ?_
      show WGo _ _ _ _ _ _ _ _ T (mkF m 37 #[.val (.int p1), .val (.int p2), .val (.int p3), .val (.int p4), .val (.int p5), .val (.int p6), .val (.int (0 : Int32)), .val (.int (0 : Int32)), .unset, .unset, .unset, .unset, .unset, .unset] [])
      refine WGo.st (fun _ q => XS.iload S.here hx rfl (hb hby at_37) rfl q) ?_
      show WGo _ _ _ _ _ _ _ _ T (mkF m 39 #[.val (.int p1), .val (.int p2), .val (.int p3), .val (.int p4), .val (.int p5), .val (.int p6), .val (.int (0 : Int32)), .val (.int (0 : Int32)), .unset, .unset, .unset, .unset, .unset, .unset] [(.int p5)])
      refine WGo.st (fun _ q => XS.istore S.here hx rfl (hb hby at_39) rfl (l' := #[.val (.int p1), .val (.int p2), .val (.int p3), .val (.int p4), .val (.int p5), .val (.int p6), .val (.int (0 : Int32)), .val (.int (0 : Int32)), .val (.int p5), .unset, .unset, .unset, .unset, .unset]) rfl q) ?_
      show WGo _ _ _ _ _ _ _ _ T (mkF m 41 #[.val (.int p1), .val (.int p2), .val (.int p3), .val (.int p4), .val (.int p5), .val (.int p6), .val (.int (0 : Int32)), .val (.int (0 : Int32)), .val (.int p5), .unset, .unset, .unset, .unset, .unset] [])
      refine WGo.st (fun _ q => XS.iload S.here hx rfl (hb hby at_41) rfl q) ?_
      show WGo _ _ _ _ _ _ _ _ T (mkF m 43 #[.val (.int p1), .val (.int p2), .val (.int p3), .val (.int p4), .val (.int p5), .val (.int p6), .val (.int (0 : Int32)), .val (.int (0 : Int32)), .val (.int p5), .unset, .unset, .unset, .unset, .unset] [(.int (0 : Int32))])
      refine WGo.st (fun _ q => XS.ifYes S.here hx rfl (pc0 := 43) (pc' := 50) rfl (hb hby at_43) rfl ((if0 _ _).trans (teq (by decide : ((0 : Int32) = (0 : Int32)))).1) (by decide) (by decide) q) ?_
      show WGo _ _ _ _ _ _ _ _ T (mkF m 50 #[.val (.int p1), .val (.int p2), .val (.int p3), .val (.int p4), .val (.int p5), .val (.int p6), .val (.int (0 : Int32)), .val (.int (0 : Int32)), .val (.int p5), .unset, .unset, .unset, .unset, .unset] [])
      refine WGo.st (fun _ q => XS.iload S.here hx rfl (hb hby at_50) rfl q) ?_
      show WGo _ _ _ _ _ _ _ _ T (mkF m 52 #[.val (.int p1), .val (.int p2), .val (.int p3), .val (.int p4), .val (.int p5), .val (.int p6), .val (.int (0 : Int32)), .val (.int (0 : Int32)), .val (.int p5), .unset, .unset, .unset, .unset, .unset] [(.int p5)])
      refine WGo.st (fun _ q => XS.istore S.here hx rfl (hb hby at_52) rfl (l' := #[.val (.int p1), .val (.int p2), .val (.int p3), .val (.int p4), .val (.int p5), .val (.int p6), .val (.int (0 : Int32)), .val (.int (0 : Int32)), .val (.int p5), .val (.int p5), .unset, .unset, .unset, .unset]) rfl q) ?_
      show WGo _ _ _ _ _ _ _ _ T (mkF m 54 #[.val (.int p1), .val (.int p2), .val (.int p3), .val (.int p4), .val (.int p5), .val (.int p6), .val (.int (0 : Int32)), .val (.int (0 : Int32)), .val (.int p5), .val (.int p5), .unset, .unset, .unset, .unset] [])
      exact tail _ _ _ _
    · refine WGo.st (fun _ q => XS.ifNo S.here hx rfl (hb hby at_18) rfl ((if0 _ _).trans (feq c18).1) q) ?_
      show WGo _ _ _ _ _ _ _ _ T (mkF m 21 #[.val (.int p1), .val (.int p2), .val (.int p3), .val (.int p4), .val (.int p5), .val (.int p6), .val (.int (0 : Int32)), .unset, .unset, .unset, .unset, .unset, .unset, .unset] [])
      refine WGo.st (fun _ q => XS.iconst S.here hx rfl (hb hby at_21) q) ?_
      show WGo _ _ _ _ _ _ _ _ T (mkF m 22 #[.val (.int p1), .val (.int p2), .val (.int p3), .val (.int p4), .val (.int p5), .val (.int p6), .val (.int (0 : Int32)), .unset, .unset, .unset, .unset, .unset, .unset, .unset] [(.int (1 : Int32))])
      refine WGo.st (fun _ q => XS.goto S.here hx rfl (pc0 := 22) (pc' := 26) rfl (hb hby at_22) (by decide) (by decide) q) ?_
      show WGo _ _ _ _ _ _ _ _ T (mkF m 26 #[.val (.int p1), .val (.int p2), .val (.int p3), .val (.int p4), .val (.int p5), .val (.int p6), .val (.int (0 : Int32)), .unset, .unset, .unset, .unset, .unset, .unset, .unset] [(.int (1 : Int32))])
      refine WGo.st (fun _ q => XS.istore S.here hx rfl (hb hby at_26) rfl (l' := #[.val (.int p1), .val (.int p2), .val (.int p3), .val (.int p4), .val (.int p5), .val (.int p6), .val (.int (0 : Int32)), .val (.int (1 : Int32)), .unset, .unset, .unset, .unset, .unset, .unset]) rfl q) ?_
      show WGo _ _ _ _ _ _ _ _ T (mkF m 28 #[.val (.int p1), .val (.int p2), .val (.int p3), .val (.int p4), .val (.int p5), .val (.int p6), .val (.int (0 : Int32)), .val (.int (1 : Int32)), .unset, .unset, .unset, .unset, .unset, .unset] [])
      refine WGo.st (fun _ q => XS.iload S.here hx rfl (hb hby at_28) rfl q) ?_
      show WGo _ _ _ _ _ _ _ _ T (mkF m 30 #[.val (.int p1), .val (.int p2), .val (.int p3), .val (.int p4), .val (.int p5), .val (.int p6), .val (.int (0 : Int32)), .val (.int (1 : Int32)), .unset, .unset, .unset, .unset, .unset, .unset] [(.int (0 : Int32))])
      refine WGo.st (fun _ q => XS.ifYes S.here hx rfl (pc0 := 30) (pc' := 37) rfl (hb hby at_30) rfl ((if0 _ _).trans (teq (by decide : ((0 : Int32) = (0 : Int32)))).1) (by decide) (by decide) q) ?_
      show WGo _ _ _ _ _ _ _ _ T (mkF m 37 #[.val (.int p1), .val (.int p2), .val (.int p3), .val (.int p4), .val (.int p5), .val (.int p6), .val (.int (0 : Int32)), .val (.int (1 : Int32)), .unset, .unset, .unset, .unset, .unset, .unset] [])
      refine WGo.st (fun _ q => XS.iload S.here hx rfl (hb hby at_37) rfl q) ?_
      show WGo _ _ _ _ _ _ _ _ T (mkF m 39 #[.val (.int p1), .val (.int p2), .val (.int p3), .val (.int p4), .val (.int p5), .val (.int p6), .val (.int (0 : Int32)), .val (.int (1 : Int32)), .unset, .unset, .unset, .unset, .unset, .unset] [(.int p5)])
      refine WGo.st (fun _ q => XS.istore S.here hx rfl (hb hby at_39) rfl (l' := #[.val (.int p1), .val (.int p2), .val (.int p3), .val (.int p4), .val (.int p5), .val (.int p6), .val (.int (0 : Int32)), .val (.int (1 : Int32)), .val (.int p5), .unset, .unset, .unset, .unset, .unset]) rfl q) ?_
      show WGo _ _ _ _ _ _ _ _ T (mkF m 41 #[.val (.int p1), .val (.int p2), .val (.int p3), .val (.int p4), .val (.int p5), .val (.int p6), .val (.int (0 : Int32)), .val (.int (1 : Int32)), .val (.int p5), .unset, .unset, .unset, .unset, .unset] [])
      refine WGo.st (fun _ q => XS.iload S.here hx rfl (hb hby at_41) rfl q) ?_
      show WGo _ _ _ _ _ _ _ _ T (mkF m 43 #[.val (.int p1), .val (.int p2), .val (.int p3), .val (.int p4), .val (.int p5), .val (.int p6), .val (.int (0 : Int32)), .val (.int (1 : Int32)), .val (.int p5), .unset, .unset, .unset, .unset, .unset] [(.int (1 : Int32))])
      refine WGo.st (fun _ q => XS.ifNo S.here hx rfl (hb hby at_43) rfl ((if0 _ _).trans (feq (by decide : ¬ ((1 : Int32) = (0 : Int32)))).1) q) ?_
      show WGo _ _ _ _ _ _ _ _ T (mkF m 46 #[.val (.int p1), .val (.int p2), .val (.int p3), .val (.int p4), .val (.int p5), .val (.int p6), .val (.int (0 : Int32)), .val (.int (1 : Int32)), .val (.int p5), .unset, .unset, .unset, .unset, .unset] [])
      refine WGo.st (fun _ q => XS.iloadN S.here hx rfl (hb hby at_46) rfl q) ?_
      show WGo _ _ _ _ _ _ _ _ T (mkF m 47 #[.val (.int p1), .val (.int p2), .val (.int p3), .val (.int p4), .val (.int p5), .val (.int p6), .val (.int (0 : Int32)), .val (.int (1 : Int32)), .val (.int p5), .unset, .unset, .unset, .unset, .unset] [(.int p2)])
      refine WGo.st (fun _ q => XS.goto S.here hx rfl (pc0 := 47) (pc' := 52) rfl (hb hby at_47) (by decide) (by decide) q) ?_
      show WGo _ _ _ _ _ _ _ _ T (mkF m 52 #[.val (.int p1), .val (.int p2), .val (.int p3), .val (.int p4), .val (.int p5), .val (.int p6), .val (.int (0 : Int32)), .val (.int (1 : Int32)), .val (.int p5), .unset, .unset, .unset, .unset, .unset] [(.int p2)])
      refine WGo.st (fun _ q => XS.istore S.here hx rfl (hb hby at_52) rfl (l' := #[.val (.int p1), .val (.int p2), .val (.int p3), .val (.int p4), .val (.int p5), .val (.int p6), .val (.int (0 : Int32)), .val (.int (1 : Int32)), .val (.int p5), .val (.int p2), .unset, .unset, .unset, .unset]) rfl q) ?_
      show WGo _ _ _ _ _ _ _ _ T (mkF m 54 #[.val (.int p1), .val (.int p2), .val (.int p3), .val (.int p4), .val (.int p5), .val (.int p6), .val (.int (0 : Int32)), .val (.int (1 : Int32)), .val (.int p5), .val (.int p2), .unset, .unset, .unset, .unset] [])
      exact tail _ _ _ _
  · refine WGo.st (fun _ q => XS.ifNo S.here hx rfl (hb hby at_4) rfl ((if0 _ _).trans (feq c4).1) q) ?_
    show WGo _ _ _ _ _ _ _ _ T (mkF m 7 #[.val (.int p1), .val (.int p2), .val (.int p3), .val (.int p4), .val (.int p5), .val (.int p6), .unset, .unset, .unset, .unset, .unset, .unset, .unset, .unset] [])
    refine WGo.st (fun _ q => XS.iconst S.here hx rfl (hb hby at_7) q) ?_
    show WGo _ _ _ _ _ _ _ _ T (mkF m 8 #[.val (.int p1), .val (.int p2), .val (.int p3), .val (.int p4), .val (.int p5), .val (.int p6), .unset, .unset, .unset, .unset, .unset, .unset, .unset, .unset] [(.int (1 : Int32))])
    refine WGo.st (fun _ q => XS.goto S.here hx rfl (pc0 := 8) (pc' := 12) rfl (hb hby at_8) (by decide) (by decide) q) ?_
    show WGo _ _ _ _ _ _ _ _ T (mkF m 12 #[.val (.int p1), .val (.int p2), .val (.int p3), .val (.int p4), .val (.int p5), .val (.int p6), .unset, .unset, .unset, .unset, .unset, .unset, .unset, .unset] [(.int (1 : Int32))])
    refine WGo.st (fun _ q => XS.istore S.here hx rfl (hb hby at_12) rfl (l' := #[.val (.int p1), .val (.int p2), .val (.int p3), .val (.int p4), .val (.int p5), .val (.int p6), .val (.int (1 : Int32)), .unset, .unset, .unset, .unset, .unset, .unset, .unset]) rfl q) ?_
    show WGo _ _ _ _ _ _ _ _ T (mkF m 14 #[.val (.int p1), .val (.int p2), .val (.int p3), .val (.int p4), .val (.int p5), .val (.int p6), .val (.int (1 : Int32)), .unset, .unset, .unset, .unset, .unset, .unset, .unset] [])
    refine WGo.st (fun _ q => XS.iload S.here hx rfl (hb hby at_14) rfl q) ?_
    show WGo _ _ _ _ _ _ _ _ T (mkF m 16 #[.val (.int p1), .val (.int p2), .val (.int p3), .val (.int p4), .val (.int p5), .val (.int p6), .val (.int (1 : Int32)), .unset, .unset, .unset, .unset, .unset, .unset, .unset] [(.int p6)])
    refine WGo.st (fun _ q => XS.iconst S.here hx rfl (hb hby at_16) q) ?_
    show WGo _ _ _ _ _ _ _ _ T (mkF m 17 #[.val (.int p1), .val (.int p2), .val (.int p3), .val (.int p4), .val (.int p5), .val (.int p6), .val (.int (1 : Int32)), .unset, .unset, .unset, .unset, .unset, .unset, .unset] [(.int (2 : Int32)), (.int p6)])
    refine WGo.st (fun _ q => XS.iand S.here hx rfl (hb hby at_17) rfl q) ?_
    show WGo _ _ _ _ _ _ _ _ T (mkF m 18 #[.val (.int p1), .val (.int p2), .val (.int p3), .val (.int p4), .val (.int p5), .val (.int p6), .val (.int (1 : Int32)), .unset, .unset, .unset, .unset, .unset, .unset, .unset] [(.int (p6 &&& (2 : Int32)))])
    by_cases c18 : (p6 &&& (2 : Int32)) = (0 : Int32)
    · refine WGo.st (fun _ q => XS.ifYes S.here hx rfl (pc0 := 18) (pc' := 25) rfl (hb hby at_18) rfl ((if0 _ _).trans (teq c18).1) (by decide) (by decide) q) ?_
      show WGo _ _ _ _ _ _ _ _ T (mkF m 25 #[.val (.int p1), .val (.int p2), .val (.int p3), .val (.int p4), .val (.int p5), .val (.int p6), .val (.int (1 : Int32)), .unset, .unset, .unset, .unset, .unset, .unset, .unset] [])
      refine WGo.st (fun _ q => XS.iconst S.here hx rfl (hb hby at_25) q) ?_
      show WGo _ _ _ _ _ _ _ _ T (mkF m 26 #[.val (.int p1), .val (.int p2), .val (.int p3), .val (.int p4), .val (.int p5), .val (.int p6), .val (.int (1 : Int32)), .unset, .unset, .unset, .unset, .unset, .unset, .unset] [(.int (0 : Int32))])
      refine WGo.st (fun _ q => XS.istore S.here hx rfl (hb hby at_26) rfl (l' := #[.val (.int p1), .val (.int p2), .val (.int p3), .val (.int p4), .val (.int p5), .val (.int p6), .val (.int (1 : Int32)), .val (.int (0 : Int32)), .unset, .unset, .unset, .unset, .unset, .unset]) rfl q) ?_
      show WGo _ _ _ _ _ _ _ _ T (mkF m 28 #[.val (.int p1), .val (.int p2), .val (.int p3), .val (.int p4), .val (.int p5), .val (.int p6), .val (.int (1 : Int32)), .val (.int (0 : Int32)), .unset, .unset, .unset, .unset, .unset, .unset] [])
      refine WGo.st (fun _ q => XS.iload S.here hx rfl (hb hby at_28) rfl q) ?_
      show WGo _ _ _ _ _ _ _ _ T (mkF m 30 #[.val (.int p1), .val (.int p2), .val (.int p3), .val (.int p4), .val (.int p5), .val (.int p6), .val (.int (1 : Int32)), .val (.int (0 : Int32)), .unset, .unset, .unset, .unset, .unset, .unset] [(.int (1 : Int32))])
      refine WGo.st (fun _ q => XS.ifNo S.here hx rfl (hb hby at_30) rfl ((if0 _ _).trans (feq (by decide : ¬ ((1 : Int32) = (0 : Int32)))).1) q) ?_
      show WGo _ _ _ _ _ _ _ _ T (mkF m 33 #[.val (.int p1), .val (.int p2), .val (.int p3), .val (.int p4), .val (.int p5), .val (.int p6), .val (.int (1 : Int32)), .val (.int (0 : Int32)), .unset, .unset, .unset, .unset, .unset, .unset] [])
      refine WGo.st (fun _ q => XS.iloadN S.here hx rfl (hb hby at_33) rfl q) ?_
      show WGo _ _ _ _ _ _ _ _ T (mkF m 34 #[.val (.int p1), .val (.int p2), .val (.int p3), .val (.int p4), .val (.int p5), .val (.int p6), .val (.int (1 : Int32)), .val (.int (0 : Int32)), .unset, .unset, .unset, .unset, .unset, .unset] [(.int p1)])
      refine WGo.st (fun _ q => XS.goto S.here hx rfl (pc0 := 34) (pc' := 39) rfl (hb hby at_34) (by decide) (by decide) q) ?_
      show WGo _ _ _ _ _ _ _ _ T (mkF m 39 #[.val (.int p1), .val (.int p2), .val (.int p3), .val (.int p4), .val (.int p5), .val (.int p6), .val (.int (1 : Int32)), .val (.int (0 : Int32)), .unset, .unset, .unset, .unset, .unset, .unset] [(.int p1)])
      refine WGo.st (fun _ q => XS.istore S.here hx rfl (hb hby at_39) rfl (l' := #[.val (.int p1), .val (.int p2), .val (.int p3), .val (.int p4), .val (.int p5), .val (.int p6), .val (.int (1 : Int32)), .val (.int (0 : Int32)), .val (.int p1), .unset, .unset, .unset, .unset, .unset]) rfl q) ?_
      show WGo _ _ _ _ _ _ _ _ T (mkF m 41 #[.val (.int p1), .val (.int p2), .val (.int p3), .val (.int p4), .val (.int p5), .val (.int p6), .val (.int (1 : Int32)), .val (.int (0 : Int32)), .val (.int p1), .unset, .unset, .unset, .unset, .unset] [])
      refine WGo.st (fun _ q => XS.iload S.here hx rfl (hb hby at_41) rfl q) ?_
      show WGo _ _ _ _ _ _ _ _ T (mkF m 43 #[.val (.int p1), .val (.int p2), .val (.int p3), .val (.int p4), .val (.int p5), .val (.int p6), .val (.int (1 : Int32)), .val (.int (0 : Int32)), .val (.int p1), .unset, .unset, .unset, .unset, .unset] [(.int (0 : Int32))])
      refine WGo.st (fun _ q => XS.ifYes S.here hx rfl (pc0 := 43) (pc' := 50) rfl (hb hby at_43) rfl ((if0 _ _).trans (teq (by decide : ((0 : Int32) = (0 : Int32)))).1) (by decide) (by decide) q) ?_
      show WGo _ _ _ _ _ _ _ _ T (mkF m 50 #[.val (.int p1), .val (.int p2), .val (.int p3), .val (.int p4), .val (.int p5), .val (.int p6), .val (.int (1 : Int32)), .val (.int (0 : Int32)), .val (.int p1), .unset, .unset, .unset, .unset, .unset] [])
      refine WGo.st (fun _ q => XS.iload S.here hx rfl (hb hby at_50) rfl q) ?_
      show WGo _ _ _ _ _ _ _ _ T (mkF m 52 #[.val (.int p1), .val (.int p2), .val (.int p3), .val (.int p4), .val (.int p5), .val (.int p6), .val (.int (1 : Int32)), .val (.int (0 : Int32)), .val (.int p1), .unset, .unset, .unset, .unset, .unset] [(.int p5)])
      refine WGo.st (fun _ q => XS.istore S.here hx rfl (hb hby at_52) rfl (l' := #[.val (.int p1), .val (.int p2), .val (.int p3), .val (.int p4), .val (.int p5), .val (.int p6), .val (.int (1 : Int32)), .val (.int (0 : Int32)), .val (.int p1), .val (.int p5), .unset, .unset, .unset, .unset]) rfl q) ?_
      show WGo _ _ _ _ _ _ _ _ T (mkF m 54 #[.val (.int p1), .val (.int p2), .val (.int p3), .val (.int p4), .val (.int p5), .val (.int p6), .val (.int (1 : Int32)), .val (.int (0 : Int32)), .val (.int p1), .val (.int p5), .unset, .unset, .unset, .unset] [])
      exact tail _ _ _ _
    · refine WGo.st (fun _ q => XS.ifNo S.here hx rfl (hb hby at_18) rfl ((if0 _ _).trans (feq c18).1) q) ?_
      show WGo _ _ _ _ _ _ _ _ T (mkF m 21 #[.val (.int p1), .val (.int p2), .val (.int p3), .val (.int p4), .val (.int p5), .val (.int p6), .val (.int (1 : Int32)), .unset, .unset, .unset, .unset, .unset, .unset, .unset] [])
      refine WGo.st (fun _ q => XS.iconst S.here hx rfl (hb hby at_21) q) ?_
      show WGo _ _ _ _ _ _ _ _ T (mkF m 22 #[.val (.int p1), .val (.int p2), .val (.int p3), .val (.int p4), .val (.int p5), .val (.int p6), .val (.int (1 : Int32)), .unset, .unset, .unset, .unset, .unset, .unset, .unset] [(.int (1 : Int32))])
      refine WGo.st (fun _ q => XS.goto S.here hx rfl (pc0 := 22) (pc' := 26) rfl (hb hby at_22) (by decide) (by decide) q) ?_
      show WGo _ _ _ _ _ _ _ _ T (mkF m 26 #[.val (.int p1), .val (.int p2), .val (.int p3), .val (.int p4), .val (.int p5), .val (.int p6), .val (.int (1 : Int32)), .unset, .unset, .unset, .unset, .unset, .unset, .unset] [(.int (1 : Int32))])
      refine WGo.st (fun _ q => XS.istore S.here hx rfl (hb hby at_26) rfl (l' := #[.val (.int p1), .val (.int p2), .val (.int p3), .val (.int p4), .val (.int p5), .val (.int p6), .val (.int (1 : Int32)), .val (.int (1 : Int32)), .unset, .unset, .unset, .unset, .unset, .unset]) rfl q) ?_
      show WGo _ _ _ _ _ _ _ _ T (mkF m 28 #[.val (.int p1), .val (.int p2), .val (.int p3), .val (.int p4), .val (.int p5), .val (.int p6), .val (.int (1 : Int32)), .val (.int (1 : Int32)), .unset, .unset, .unset, .unset, .unset, .unset] [])
      refine WGo.st (fun _ q => XS.iload S.here hx rfl (hb hby at_28) rfl q) ?_
      show WGo _ _ _ _ _ _ _ _ T (mkF m 30 #[.val (.int p1), .val (.int p2), .val (.int p3), .val (.int p4), .val (.int p5), .val (.int p6), .val (.int (1 : Int32)), .val (.int (1 : Int32)), .unset, .unset, .unset, .unset, .unset, .unset] [(.int (1 : Int32))])
      refine WGo.st (fun _ q => XS.ifNo S.here hx rfl (hb hby at_30) rfl ((if0 _ _).trans (feq (by decide : ¬ ((1 : Int32) = (0 : Int32)))).1) q) ?_
      show WGo _ _ _ _ _ _ _ _ T (mkF m 33 #[.val (.int p1), .val (.int p2), .val (.int p3), .val (.int p4), .val (.int p5), .val (.int p6), .val (.int (1 : Int32)), .val (.int (1 : Int32)), .unset, .unset, .unset, .unset, .unset, .unset] [])
      refine WGo.st (fun _ q => XS.iloadN S.here hx rfl (hb hby at_33) rfl q) ?_
      show WGo _ _ _ _ _ _ _ _ T (mkF m 34 #[.val (.int p1), .val (.int p2), .val (.int p3), .val (.int p4), .val (.int p5), .val (.int p6), .val (.int (1 : Int32)), .val (.int (1 : Int32)), .unset, .unset, .unset, .unset, .unset, .unset] [(.int p1)])
      refine WGo.st (fun _ q => XS.goto S.here hx rfl (pc0 := 34) (pc' := 39) rfl (hb hby at_34) (by decide) (by decide) q) ?_
      show WGo _ _ _ _ _ _ _ _ T (mkF m 39 #[.val (.int p1), .val (.int p2), .val (.int p3), .val (.int p4), .val (.int p5), .val (.int p6), .val (.int (1 : Int32)), .val (.int (1 : Int32)), .unset, .unset, .unset, .unset, .unset, .unset] [(.int p1)])
      refine WGo.st (fun _ q => XS.istore S.here hx rfl (hb hby at_39) rfl (l' := #[.val (.int p1), .val (.int p2), .val (.int p3), .val (.int p4), .val (.int p5), .val (.int p6), .val (.int (1 : Int32)), .val (.int (1 : Int32)), .val (.int p1), .unset, .unset, .unset, .unset, .unset]) rfl q) ?_
      show WGo _ _ _ _ _ _ _ _ T (mkF m 41 #[.val (.int p1), .val (.int p2), .val (.int p3), .val (.int p4), .val (.int p5), .val (.int p6), .val (.int (1 : Int32)), .val (.int (1 : Int32)), .val (.int p1), .unset, .unset, .unset, .unset, .unset] [])
      refine WGo.st (fun _ q => XS.iload S.here hx rfl (hb hby at_41) rfl q) ?_
      show WGo _ _ _ _ _ _ _ _ T (mkF m 43 #[.val (.int p1), .val (.int p2), .val (.int p3), .val (.int p4), .val (.int p5), .val (.int p6), .val (.int (1 : Int32)), .val (.int (1 : Int32)), .val (.int p1), .unset, .unset, .unset, .unset, .unset] [(.int (1 : Int32))])
      refine WGo.st (fun _ q => XS.ifNo S.here hx rfl (hb hby at_43) rfl ((if0 _ _).trans (feq (by decide : ¬ ((1 : Int32) = (0 : Int32)))).1) q) ?_
      show WGo _ _ _ _ _ _ _ _ T (mkF m 46 #[.val (.int p1), .val (.int p2), .val (.int p3), .val (.int p4), .val (.int p5), .val (.int p6), .val (.int (1 : Int32)), .val (.int (1 : Int32)), .val (.int p1), .unset, .unset, .unset, .unset, .unset] [])
      refine WGo.st (fun _ q => XS.iloadN S.here hx rfl (hb hby at_46) rfl q) ?_
      show WGo _ _ _ _ _ _ _ _ T (mkF m 47 #[.val (.int p1), .val (.int p2), .val (.int p3), .val (.int p4), .val (.int p5), .val (.int p6), .val (.int (1 : Int32)), .val (.int (1 : Int32)), .val (.int p1), .unset, .unset, .unset, .unset, .unset] [(.int p2)])
      refine WGo.st (fun _ q => XS.goto S.here hx rfl (pc0 := 47) (pc' := 52) rfl (hb hby at_47) (by decide) (by decide) q) ?_
      show WGo _ _ _ _ _ _ _ _ T (mkF m 52 #[.val (.int p1), .val (.int p2), .val (.int p3), .val (.int p4), .val (.int p5), .val (.int p6), .val (.int (1 : Int32)), .val (.int (1 : Int32)), .val (.int p1), .unset, .unset, .unset, .unset, .unset] [(.int p2)])
      refine WGo.st (fun _ q => XS.istore S.here hx rfl (hb hby at_52) rfl (l' := #[.val (.int p1), .val (.int p2), .val (.int p3), .val (.int p4), .val (.int p5), .val (.int p6), .val (.int (1 : Int32)), .val (.int (1 : Int32)), .val (.int p1), .val (.int p2), .unset, .unset, .unset, .unset]) rfl q) ?_
      show WGo _ _ _ _ _ _ _ _ T (mkF m 54 #[.val (.int p1), .val (.int p2), .val (.int p3), .val (.int p4), .val (.int p5), .val (.int p6), .val (.int (1 : Int32)), .val (.int (1 : Int32)), .val (.int p1), .val (.int p2), .unset, .unset, .unset, .unset] [])
      exact tail _ _ _ _
set_option maxRecDepth 65536 in
set_option maxHeartbeats 40000000 in
theorem comes_1 {Post : Tables → Env → Array Value → State → Outcome → State → Prop} (hpost : ∀ tb e args s v u, (limb_1_1.after args s (.returned v) u = true ∧ limb_1_2.after args s (.returned v) u = true ∧ True) → FrameEnd s (.returned v) u (Jvm.fieldLocs frame_1_writes args s ++ Jvm.arrayLocs frame_1_arrays args s ++ Jvm.staticLocs frame_1_statics s) 16 128 → Post tb e args s (.returned v) u) :
    ArmFor flags0 classFile x code maxLocals ret World_1 tables_1 room_1 Calls_1 rest_1 Pre_1 Post := by
  intro l hfl _ _ p e ha hc hk s m args below hf hA hF happ hP
  obtain ⟨hcalls, hrest, hpre⟩ := hP
  obtain ⟨-, -, -, hnamed, -, -, -, hat⟩ := (Spec.applies_iff hf).mp happ
  obtain ⟨hg, hn⟩ := and_e (Cond.before_iff.mp (show (Jvm.Cond.and given_1 narrow_1).before args s = true from hpre))
  obtain ⟨hcount, hg0⟩ := and_e hg
  obtain ⟨ha0, hg1⟩ := and_e hg0
  obtain ⟨ha1, hg2⟩ := and_e hg1
  obtain ⟨ha2, hg3⟩ := and_e hg2
  obtain ⟨ha3, hg4⟩ := and_e hg3
  obtain ⟨ha4, hg5⟩ := and_e hg4
  obtain ⟨w0, w1, w2, w3, w4, w5, rfl⟩ : ∃ (w0 : Value) (w1 : Value) (w2 : Value) (w3 : Value) (w4 : Value) (w5 : Value), args = #[w0, w1, w2, w3, w4, w5] := by
    have hs : args.size = 6 := by simpa [Cond.value, given_1] using hcount
    obtain ⟨L⟩ := args
    match L, hs with
    | [w0, w1, w2, w3, w4, w5], _ => exact ⟨w0, w1, w2, w3, w4, w5, rfl⟩
  have hw := fun d (hd : d ∈ tables_1) => atoms_spec (ws := Jvm.Cond.code x code maxLocals ret :: tables_1) hat d (List.mem_cons_of_mem _ hd)
  obtain ⟨i0, e0⟩ := is_v ha0
  obtain rfl : w0 = (.int i0) := Option.some.inj e0
  obtain ⟨i1, e1⟩ := is_v ha1
  obtain rfl : w1 = (.int i1) := Option.some.inj e1
  obtain ⟨i2, e2⟩ := is_v ha2
  obtain rfl : w2 = (.int i2) := Option.some.inj e2
  obtain ⟨i3, e3⟩ := is_v ha3
  obtain rfl : w3 = (.int i3) := Option.some.inj e3
  obtain ⟨i4, e4⟩ := is_v ha4
  obtain rfl : w4 = (.int i4) := Option.some.inj e4
  obtain ⟨i5, e5⟩ := is_v hg5
  obtain rfl : w5 = (.int i5) := Option.some.inj e5
  obtain ⟨n, o, h1, h2, h3, _, L, rfl, ⟨hQ, N⟩, hq⟩ := rm_0 l s _ hw s.heap.size s.heap i0 i1 i2 i3 i4 i5  (Nat.le_refl _)  p e ha hc hk s m _ below hf ((Spec.applies_iff_loose hf).mp happ).1 ⟨rfl, State.Warmed39.refl s, rfl⟩ trivial
  obtain rfl := hQ
  refine ⟨n, _, h1, h2, h3, hpost _ _ _ _ _ _ ⟨Cond.after_iff.mpr rfl, Cond.after_iff.mpr (eq_i res_at (Term.int_eval (1)) rfl), trivial⟩ ⟨hq.1, hq.2.1, (hq.2.2.sift fun y hy => Or.inr (N y hy)).mono (by decide) (by decide)⟩⟩
theorem main_1_1 : Claimed_1_1 := comes_1 fun _ _ _ _ _ _ h hF => ⟨h.1, hF⟩
theorem main_1_2 : Claimed_1_2 := comes_1 fun _ _ _ _ _ _ h hF => ⟨h.2.1, hF⟩
end Jvm.Pilot.@@N@@
namespace Jvm.Pilot.@@N@@
open Jvm Jvm.ClassFile Sem Op Lib Jvm.Free Jvm.Stand Jvm.Pilot.@@N@@.Jvm.D
/-! MADE BY PROGRAM (witnessworld.py) out of the Statement's table words and the real class files: 10 classes; the members and pool entries that the words name. The judged class is class 1, her method 1. -/
namespace start1
open Jvm.ClassFile
def u (s : String) : CpInfo := .utf8 (stringToUtf16 s)
/-- a pool by its gaps: so many unusable entries, then the entry; so many at the end -/
def gap : Nat → List CpInfo → List CpInfo
  | 0, r => r
  | n + 1, r => .unusable :: gap n r
def poolList (es : List (Nat × CpInfo)) (last : Nat) : List CpInfo := es.foldr (fun e r => gap e.1 (e.2 :: r)) (gap last [])
def pool (es : List (Nat × CpInfo)) (last : Nat) : Array CpInfo := ⟨poolList es last⟩
def fileOf (pool : Array CpInfo) (this : Nat) (attrs : Array Attribute := #[]) (ms : Array MethodInfo := #[]) (fl : Nat := 33) (sup : Nat := 0) (ifs : Array Nat := #[]) (fds : Array FieldInfo := #[]) : ClassFile where
  minorVersion := 0
  majorVersion := 65
  constantPool := pool
  accessFlags := fl
  thisClass := this
  superClass := sup
  interfaces := ifs
  fields := fds
  methods := ms
  attributes := attrs
def plain (name : String) (sup : Option ClassId) : Class where
  name := name
  kind := .ordinary
  loader := none
  accessFlags := 33
  super := sup
  interfaces := #[]
  cf := none
  fields := #[]
  methods := #[]
  instanceTypes := #[]
  staticTypes := #[]
  resolved := #[]
  callSites := []
  init := .initialized
  statics := none
  mirror := none

def pool0 : Array CpInfo := pool [(5, u "<init>"), (0, u "()V"), (1, .class_ 10), (1, u "java/lang/Object")] 113

def k0c0 : Code := { maxStack := 0, maxLocals := 1, code := object_method_1_code, exceptionTable := #[], attributes := #[] }
def k0m0 : Method := { name := "<init>", desc := "()V", sig := { parameters := [], returnType := none }, accessFlags := 1, code := some k0c0 }
/-- java/lang/Object -/
def k0 : Class := { plain "java/lang/Object" none with
  accessFlags := 33
  interfaces := #[]
  cf := some (fileOf pool0 8 #[] #[{ accessFlags := 1, nameIndex := 5, descriptorIndex := 6, attributes := #[] }] 33 0 #[] #[])
  fields := #[]
  methods := #[k0m0]
  instanceTypes := #[]
  staticTypes := #[]
  resolved := Array.replicate 124 none
  statics := none }

def pool1 : Array CpInfo := pool [(2, .class_ 4), (1, u "java/lang/Object"), (0, u "<init>"), (0, u "()V"), (0, .class_ 8), (0, u "com/example/pathweave/pathweave/routing/Passage"), (0, .methodref 7 10), (0, .nameAndType 5 11), (0, u "(IIII)V"), (0, .methodref 7 13), (0, .nameAndType 14 15), (0, u "sameRun"), (0, u "(Lcom/example/pathweave/pathweave/routing/Passage;)Z"), (0, .methodref 7 17), (0, .nameAndType 18 19), (0, u "leftAt"), (0, u "(I)Lcom/example/pathweave/pathweave/routing/Passage;"), (0, .class_ 21), (0, u "com/example/pathweave/pathweave/routing/PassageSameRunPinLaw"), (2, u "law"), (0, u "(IIIIII)Z")] 3

def k1m0 : Method := { name := "<init>", desc := "()V", sig := { parameters := [], returnType := none }, accessFlags := 1, code := none }
def k1c1 : Code := { maxStack := 6, maxLocals := 14, code := code, exceptionTable := #[], attributes := #[] }
def k1m1 : Method := { name := "law", desc := "(IIIIII)Z", sig := { parameters := [.int, .int, .int, .int, .int, .int], returnType := some .boolean }, accessFlags := 9, code := some k1c1 }
/-- com/example/pathweave/pathweave/routing/PassageSameRunPinLaw -/
def k1 : Class := { plain "com/example/pathweave/pathweave/routing/PassageSameRunPinLaw" (some 0) with
  accessFlags := 49
  interfaces := #[]
  cf := some (fileOf pool1 20 #[] #[{ accessFlags := 1, nameIndex := 5, descriptorIndex := 6, attributes := #[] }, { accessFlags := 9, nameIndex := 24, descriptorIndex := 25, attributes := #[] }] 49 2 #[] #[])
  fields := #[]
  methods := #[k1m0, k1m1]
  instanceTypes := #[]
  staticTypes := #[]
  resolved := Array.replicate 29 none
  statics := none }

def pool2 : Array CpInfo := pool [(1, .methodref 2 3), (0, .class_ 4), (0, .nameAndType 5 6), (0, u "java/lang/Object"), (0, u "<init>"), (0, u "()V"), (0, .class_ 8), (0, u "java/lang/Record")] 13

def k2c0 : Code := { maxStack := 1, maxLocals := 1, code := jdk_30_method_1_code, exceptionTable := #[], attributes := #[] }
def k2m0 : Method := { name := "<init>", desc := "()V", sig := { parameters := [], returnType := none }, accessFlags := 4, code := some k2c0 }
/-- java/lang/Record -/
def k2 : Class := { plain "java/lang/Record" (some 0) with
  accessFlags := 1057
  interfaces := #[]
  cf := some (fileOf pool2 7 #[] #[{ accessFlags := 4, nameIndex := 5, descriptorIndex := 6, attributes := #[] }] 1057 2 #[] #[])
  fields := #[]
  methods := #[k2m0]
  instanceTypes := #[]
  staticTypes := #[]
  resolved := Array.replicate 22 none
  statics := none }

def pool3 : Array CpInfo := pool [(1, .methodref 2 3), (0, .class_ 4), (0, .nameAndType 5 6), (0, u "java/lang/Record"), (0, u "<init>"), (0, u "()V"), (0, .fieldref 8 9), (0, .class_ 10), (0, .nameAndType 11 12), (0, u "com/example/pathweave/pathweave/routing/Passage"), (0, u "pattern"), (0, u "I"), (0, .fieldref 8 14), (0, .nameAndType 15 12), (0, u "trip"), (0, .fieldref 8 17), (0, .nameAndType 18 12), (0, u "from"), (0, .fieldref 8 20), (0, .nameAndType 21 12), (0, u "to"), (0, .methodref 8 23), (0, .nameAndType 5 24), (0, u "(IIII)V"), (15, u "leftAt"), (0, u "(I)Lcom/example/pathweave/pathweave/routing/Passage;"), (0, u "sameRun"), (0, u "(Lcom/example/pathweave/pathweave/routing/Passage;)Z")] 27

def k3c0 : Code := { maxStack := 2, maxLocals := 5, code := prog_87_method_1_code, exceptionTable := #[], attributes := #[] }
def k3m0 : Method := { name := "<init>", desc := "(IIII)V", sig := { parameters := [.int, .int, .int, .int], returnType := none }, accessFlags := 0, code := some k3c0 }
def k3c1 : Code := { maxStack := 6, maxLocals := 2, code := prog_87_method_2_code, exceptionTable := #[], attributes := #[] }
def k3m1 : Method := { name := "leftAt", desc := "(I)Lcom/example/pathweave/pathweave/routing/Passage;", sig := { parameters := [.int], returnType := some (.object "com/example/pathweave/pathweave/routing/Passage") }, accessFlags := 0, code := some k3c1 }
def k3c2 : Code := { maxStack := 2, maxLocals := 2, code := prog_87_method_3_code, exceptionTable := #[], attributes := #[] }
def k3m2 : Method := { name := "sameRun", desc := "(Lcom/example/pathweave/pathweave/routing/Passage;)Z", sig := { parameters := [(.object "com/example/pathweave/pathweave/routing/Passage")], returnType := some .boolean }, accessFlags := 0, code := some k3c2 }
/-- com/example/pathweave/pathweave/routing/Passage -/
def k3 : Class := { plain "com/example/pathweave/pathweave/routing/Passage" (some 2) with
  accessFlags := 48
  interfaces := #[]
  cf := some (fileOf pool3 8 #[] #[{ accessFlags := 0, nameIndex := 5, descriptorIndex := 24, attributes := #[] }, { accessFlags := 0, nameIndex := 40, descriptorIndex := 41, attributes := #[] }, { accessFlags := 0, nameIndex := 42, descriptorIndex := 43, attributes := #[] }] 48 2 #[] #[{ accessFlags := 18, nameIndex := 11, descriptorIndex := 12, attributes := #[] }, { accessFlags := 18, nameIndex := 15, descriptorIndex := 12, attributes := #[] }, { accessFlags := 18, nameIndex := 18, descriptorIndex := 12, attributes := #[] }, { accessFlags := 18, nameIndex := 21, descriptorIndex := 12, attributes := #[] }])
  fields := #[{ name := "pattern", type := .int, accessFlags := 18, slot := 0, constantValue := 0 }, { name := "trip", type := .int, accessFlags := 18, slot := 1, constantValue := 0 }, { name := "from", type := .int, accessFlags := 18, slot := 2, constantValue := 0 }, { name := "to", type := .int, accessFlags := 18, slot := 3, constantValue := 0 }]
  methods := #[k3m0, k3m1, k3m2]
  instanceTypes := #[.int, .int, .int, .int]
  staticTypes := #[]
  resolved := Array.replicate 71 none
  statics := none }

def pool4 : Array CpInfo := pool [(1, u "java/lang/Cloneable"), (0, .class_ 1), (0, u "java/lang/Object"), (0, .class_ 3)] 3

/-- java/lang/Cloneable -/
def k4 : Class := { plain "java/lang/Cloneable" (some 0) with
  accessFlags := 1537
  interfaces := #[]
  cf := some (fileOf pool4 2 #[] #[] 1537 4 #[] #[])
  fields := #[]
  methods := #[]
  instanceTypes := #[]
  staticTypes := #[]
  resolved := Array.replicate 8 none
  statics := none }

def pool5 : Array CpInfo := pool [(1, u "java/io/Serializable"), (0, .class_ 1), (0, u "java/lang/Object"), (0, .class_ 3)] 3

/-- java/io/Serializable -/
def k5 : Class := { plain "java/io/Serializable" (some 0) with
  accessFlags := 1537
  interfaces := #[]
  cf := some (fileOf pool5 2 #[] #[] 1537 4 #[] #[])
  fields := #[]
  methods := #[]
  instanceTypes := #[]
  staticTypes := #[]
  resolved := Array.replicate 8 none
  statics := none }

/-- the primitive byte -/
def k6 : Class := { plain "byte" none with kind := .primitive 'B', accessFlags := 0x411 }
/-- [B -/
def k7 : Class := { plain "[B" (some 0) with kind := .array 6 .byte, interfaces := #[4, 5], accessFlags := 1041 }

/-- the primitive int -/
def k8 : Class := { plain "int" none with kind := .primitive 'I', accessFlags := 0x411 }
/-- [I -/
def k9 : Class := { plain "[I" (some 0) with kind := .array 8 .int, interfaces := #[4, 5], accessFlags := 1041 }

def heap : Heap := #[]
def classes : Array Class := #[k0, k1, k2, k3, k4, k5, k6, k7, k8, k9]
def interned : List (Array UInt16 × Addr) := []
def slotsUsed : Nat := 0
def theMethod : MethodId := ⟨1, 1⟩
def args0 : Array Value := #[.int 5, .int 300, .int 7, .int 1, .int 2, .int 3]
def aboutOver (below : List Frame) : State where
  vm := { classes := classes, interned := interned.toArray }
  heap := heap
  slotsUsed := slotsUsed
  threads := #[{ frames := .invoking theMethod args0 :: below }]
def below0 : List Frame := [.native { method := ⟨0, 0⟩, args := #[] }]
def about1 : State := aboutOver below0
def p0 : Program := .bare "" "" ""
def e0 : Env := launch0.env 0 0 0
theorem w_frames : about1.frames = Frame.invoking theMethod args0 :: below0 := rfl
set_option maxRecDepth 65536 in
theorem w_args : argsFit about1.vm theMethod args0 = true := by decide +kernel
set_option maxRecDepth 65536 in
theorem w_heap : heapFits about1 = true := by decide +kernel
set_option maxRecDepth 65536 in
theorem w_runnable : about1.curStatus? = some .runnable := by decide +kernel
set_option maxRecDepth 65536 in
theorem w_alone : about1.alone = true := by decide +kernel
set_option maxRecDepth 65536 in
theorem w_named : about1.methodNamed? x = some theMethod := by decide +kernel
set_option maxRecDepth 65536 in
theorem w_hears : about1.hears theMethod below0 = true := by decide +kernel
set_option maxRecDepth 65536 in
theorem w_ripe : about1.ripe theMethod args0 below0 = true := by decide +kernel
theorem w_running : about1.status = .running := rfl
set_option maxRecDepth 65536 in
theorem w_room : about1.hasRoom e0.platform room_1 = true :=
  launch0.hasRoom_least _ room_1 (by decide +kernel) (by decide +kernel) (by decide +kernel) (by decide +kernel) (by decide +kernel) (by decide +kernel)
theorem allAtoms_all (ts : List Jvm.Cond) (a : Array Jvm.Value) (st : Jvm.State) : (allAtoms ts).before a st = ts.all (fun c => c.before a st) := by
  induction ts with
  | nil => rfl
  | cons c t ih =>
    show (Jvm.Cond.and c (allAtoms t)).before a st = _
    rw [Jvm.Cond.before_and, ih, List.all_cons]
def words1 : List Jvm.Cond := Jvm.Cond.code x code maxLocals ret :: tables_1
/-- a 'code' word, met by the world's own term for the bytes: nothing is compared byte by byte -/
theorem code_word {y : MethodName} {bytes : ByteArray} {mx : Nat} {rt : Option FieldType} {a : Array Value} {s : State} {m : MethodId} {meth : Method} {c : Code} (h1 : s.methodNamed? y = some m) (h2 : s.vm.method? m = some meth) (h3 : meth.code = some c) (h4 : c.code = bytes)
    (h5 : (c.maxLocals == mx && c.exceptionTable.isEmpty && decide (c.maxStack ≤ mostOperands) && decide (meth.sig.returnType = rt) && !meth.locks && decide (parseMethodDescriptor y.desc = some meth.sig)) = true) : (Jvm.Cond.code y bytes mx rt).before a s = true := by
  simp only [Bool.and_eq_true, beq_iff_eq, Bool.not_eq_true', decide_eq_true_eq] at h5
  obtain ⟨⟨⟨⟨⟨g1, g2⟩, g3⟩, g4⟩, g5⟩, g6⟩ := h5
  simp [Cond.before, Cond.holds, Cond.value, h1, h2, h3, h4, g1, g2, g3, g4, g5, g6]
def isCode : Jvm.Cond → Bool
  | .code _ _ _ _ => true
  | _ => false
theorem all_split {L : List Jvm.Cond} {P : Jvm.Cond → Bool} (h1 : L.all (fun c => isCode c || P c) = true) (h2 : ∀ c ∈ L.filter isCode, P c = true) : L.all P = true := by
  refine List.all_eq_true.mpr fun c hc => ?_
  have h := List.all_eq_true.mp h1 c hc
  rcases Bool.eq_false_or_eq_true (isCode c) with hi | hi
  · exact h2 c (List.mem_filter.mpr ⟨hc, hi⟩)
  · simpa [hi] using h
set_option maxRecDepth 65536 in
theorem w_c0 : (Jvm.Cond.code x code maxLocals ret).before args0 about1 = true := code_word (m := ⟨1, 1⟩) (meth := k1m1) (c := k1c1) (by decide +kernel) rfl rfl rfl (by decide +kernel)
set_option maxRecDepth 65536 in
theorem w_c1 : (Jvm.Cond.code ({ cls := "com/example/pathweave/pathweave/routing/Passage", name := "<init>", desc := "(IIII)V" } : Jvm.MethodName) prog_87_method_1_code (5 : Nat) (Option.none : Option Jvm.ClassFile.FieldType)).before args0 about1 = true := code_word (m := ⟨3, 0⟩) (meth := k3m0) (c := k3c0) (by decide +kernel) rfl rfl rfl (by decide +kernel)
set_option maxRecDepth 65536 in
theorem w_c2 : (Jvm.Cond.code ({ cls := "java/lang/Record", name := "<init>", desc := "()V" } : Jvm.MethodName) jdk_30_method_1_code (1 : Nat) (Option.none : Option Jvm.ClassFile.FieldType)).before args0 about1 = true := code_word (m := ⟨2, 0⟩) (meth := k2m0) (c := k2c0) (by decide +kernel) rfl rfl rfl (by decide +kernel)
set_option maxRecDepth 65536 in
theorem w_c3 : (Jvm.Cond.code ({ cls := "java/lang/Object", name := "<init>", desc := "()V" } : Jvm.MethodName) object_method_1_code (1 : Nat) (Option.none : Option Jvm.ClassFile.FieldType)).before args0 about1 = true := code_word (m := ⟨0, 0⟩) (meth := k0m0) (c := k0c0) (by decide +kernel) rfl rfl rfl (by decide +kernel)
set_option maxRecDepth 65536 in
theorem w_c4 : (Jvm.Cond.code ({ cls := "com/example/pathweave/pathweave/routing/Passage", name := "sameRun", desc := "(Lcom/example/pathweave/pathweave/routing/Passage;)Z" } : Jvm.MethodName) prog_87_method_3_code (2 : Nat) (Option.some Jvm.ClassFile.FieldType.boolean)).before args0 about1 = true := code_word (m := ⟨3, 2⟩) (meth := k3m2) (c := k3c2) (by decide +kernel) rfl rfl rfl (by decide +kernel)
set_option maxRecDepth 65536 in
theorem w_c5 : (Jvm.Cond.code ({ cls := "com/example/pathweave/pathweave/routing/Passage", name := "leftAt", desc := "(I)Lcom/example/pathweave/pathweave/routing/Passage;" } : Jvm.MethodName) prog_87_method_2_code (2 : Nat) (Option.some (Jvm.ClassFile.FieldType.object "com/example/pathweave/pathweave/routing/Passage"))).before args0 about1 = true := code_word (m := ⟨3, 1⟩) (meth := k3m1) (c := k3c1) (by decide +kernel) rfl rfl rfl (by decide +kernel)
def codes1 : List Jvm.Cond := [Jvm.Cond.code x code maxLocals ret, Jvm.Cond.code ({ cls := "com/example/pathweave/pathweave/routing/Passage", name := "<init>", desc := "(IIII)V" } : Jvm.MethodName) prog_87_method_1_code (5 : Nat) (Option.none : Option Jvm.ClassFile.FieldType), Jvm.Cond.code ({ cls := "java/lang/Record", name := "<init>", desc := "()V" } : Jvm.MethodName) jdk_30_method_1_code (1 : Nat) (Option.none : Option Jvm.ClassFile.FieldType), Jvm.Cond.code ({ cls := "java/lang/Object", name := "<init>", desc := "()V" } : Jvm.MethodName) object_method_1_code (1 : Nat) (Option.none : Option Jvm.ClassFile.FieldType), Jvm.Cond.code ({ cls := "com/example/pathweave/pathweave/routing/Passage", name := "sameRun", desc := "(Lcom/example/pathweave/pathweave/routing/Passage;)Z" } : Jvm.MethodName) prog_87_method_3_code (2 : Nat) (Option.some Jvm.ClassFile.FieldType.boolean), Jvm.Cond.code ({ cls := "com/example/pathweave/pathweave/routing/Passage", name := "leftAt", desc := "(I)Lcom/example/pathweave/pathweave/routing/Passage;" } : Jvm.MethodName) prog_87_method_2_code (2 : Nat) (Option.some (Jvm.ClassFile.FieldType.object "com/example/pathweave/pathweave/routing/Passage"))]
set_option maxRecDepth 65536 in
theorem codes_eq : words1.filter isCode = codes1 := rfl
theorem w_codes : ∀ c ∈ words1.filter isCode, c.before args0 about1 = true := by
  rw [codes_eq]
  intro c hc
  simp only [codes1, List.mem_cons, List.not_mem_nil, or_false] at hc
  rcases hc with rfl | rfl | rfl | rfl | rfl | rfl
  · exact w_c0
  · exact w_c1
  · exact w_c2
  · exact w_c3
  · exact w_c4
  · exact w_c5
set_option maxRecDepth 65536 in
theorem w_t1 : (words1.take 24).all (fun c => isCode c || c.before args0 about1) = true := by decide +kernel
set_option maxRecDepth 65536 in
theorem w_t2 : (words1.drop 24).all (fun c => isCode c || c.before args0 about1) = true := by decide +kernel
theorem w_tables : (allAtoms (Jvm.Cond.code x code maxLocals ret :: tables_1)).before args0 about1 = true := by
  rw [allAtoms_all]
  show words1.all (fun c => c.before args0 about1) = true
  refine all_split ?_ w_codes
  rw [← List.take_append_drop 24 words1, List.all_append, w_t1, w_t2]
  rfl
set_option maxRecDepth 65536 in
theorem w_case : (Jvm.Cond.and given_1 narrow_1).before args0 about1 = true := by decide +kernel
theorem w_applies : (headSpec (Jvm.Cond.code x code maxLocals ret :: tables_1) room_1).applies x e0.platform about1 = true :=
  (Spec.applies_iff w_frames).mpr ⟨w_running, w_runnable, w_alone, w_named, w_hears, w_ripe, w_room, w_tables⟩
theorem atStart : AtStart classFile x code maxLocals ret World_1 tables_1 room_1 Calls_1 rest_1 Pre_1 launch0 p0 e0 about1 theMethod args0 below0 :=
  ⟨lists_1, trivial, launch0.admits_env _ _ _, launch0.least_env, fairChoices_fair.cas, fairChoices_fair.clock, w_frames, w_args, w_heap, w_applies, trivial, trivial, w_case⟩
end start1
theorem witness_1 : WitnessClaimed_1 := ⟨start1.p0, start1.e0, start1.about1, start1.theMethod, start1.args0, start1.below0, start1.atStart⟩
end Jvm.Pilot.@@N@@
